import PyProof.Rows.All
import Wide.All
import OpenK.AllK
import Wide.FinOn
import PySem.Challenge.RW_yf0001_01
set_option Elab.async false
open PySem PySem.W PyProof.Rows PySem.Calls
local macro_rules | `(tactic| walk_at "go") => `(tactic| repeat' (first | walk1 | (dsimp only; walk1)))
local macro_rules | `(tactic| walk_at "gol") => `(tactic| repeat' (first | ((fail_if_success (with_reducible show wpAny _ _ (eval (Expr.ListComp _ _ _ _) _) _ _ _)); walk1) | (dsimp only; (fail_if_success (with_reducible show wpAny _ _ (eval (Expr.ListComp _ _ _ _) _) _ _ _)); walk1)))
section
open PySem PySem.W PyProof.Rows
set_option maxRecDepth 100000
namespace Mine
noncomputable abbrev PR : Program := PySem.Challenge.pw_yf0001_01
noncomputable def stAt (i : Nat) : Stmt := PR.main.body[i]?.getD (.Pass default)
noncomputable def parAt (i : Nat) : Arguments := match stAt i with
  | .FunctionDef _ a _ _ _ _ _ _ _ _ => a
  | _ => ⟨[], [], none, [], [], none, []⟩
noncomputable def bodyAt (i : Nat) : List Stmt := match stAt i with
  | .FunctionDef _ _ b _ _ _ _ _ _ _ => b
  | _ => []
noncomputable def scAt (i : Nat) : Scope := match stAt i with
  | .FunctionDef _ _ _ _ _ _ s _ _ _ => s
  | _ => default
noncomputable def fnAt (i : Nat) (n : Str) (dflt md cd : Value) : FuncData :=
  { name := n, qualname := n, params := parAt i, body := .stmts (bodyAt i), scope := scAt i, globals := mainGlobals, closure := [], defaults := dflt, kwdefaults := .none, pyModule := md, code := cd }
noncomputable def K (P : Params) : Frag :=
  (nat_lit 3, ⟨.type "dict", none, .dict #[⟨PyData.keyHash P (Str.ofString "__name__"), .str (Str.ofString "__name__") (nat_lit 165), .str (Str.ofString "law_yf0001_01") (nat_lit 441)⟩, ⟨PyData.keyHash P (Str.ofString "__doc__"), .str (Str.ofString "__doc__") (nat_lit 166), .none⟩, ⟨PyData.keyHash P (Str.ofString "__package__"), .str (Str.ofString "__package__") (nat_lit 167), .none⟩, ⟨PyData.keyHash P (Str.ofString "__loader__"), .str (Str.ofString "__loader__") (nat_lit 168), .builtin "__main__.__loader__#opaque"⟩, ⟨PyData.keyHash P (Str.ofString "__spec__"), .str (Str.ofString "__spec__") (nat_lit 169), .none⟩, ⟨PyData.keyHash P (Str.ofString "__annotations__"), .str (Str.ofString "__annotations__") (nat_lit 170), .ref (nat_lit 6)⟩, ⟨PyData.keyHash P (Str.ofString "__builtins__"), .str (Str.ofString "__builtins__") (nat_lit 171), .ref (nat_lit 4)⟩, ⟨PyData.keyHash P (Str.ofString "__file__"), .str (Str.ofString "__file__") (nat_lit 173), .str (Str.ofString "/claim/cut.py") (nat_lit 172)⟩, ⟨PyData.keyHash P (Str.ofString "__cached__"), .str (Str.ofString "__cached__") (nat_lit 174), .none⟩, ⟨PyData.keyHash P (Str.ofString "_sre"), .str (Str.ofString "_sre") (nat_lit 275), .ref (nat_lit 12)⟩, ⟨PyData.keyHash P (Str.ofString "_quoted"), .str (Str.ofString "_quoted") (nat_lit 327), .ref (nat_lit 36)⟩, ⟨PyData.keyHash P (Str.ofString "_paren_depth"), .str (Str.ofString "_paren_depth") (nat_lit 336), .ref (nat_lit 44)⟩, ⟨PyData.keyHash P (Str.ofString "_strip_padding"), .str (Str.ofString "_strip_padding") (nat_lit 348), .ref (nat_lit 51)⟩, ⟨PyData.keyHash P (Str.ofString "in_table_c11"), .str (Str.ofString "in_table_c11") (nat_lit 357), .ref (nat_lit 58)⟩, ⟨PyData.keyHash P (Str.ofString "c7_set"), .str (Str.ofString "c7_set") (nat_lit 385), .ref (nat_lit 60)⟩, ⟨PyData.keyHash P (Str.ofString "in_table_c7"), .str (Str.ofString "in_table_c7") (nat_lit 392), .ref (nat_lit 70)⟩, ⟨PyData.keyHash P (Str.ofString "c8_set"), .str (Str.ofString "c8_set") (nat_lit 433), .ref (nat_lit 84)⟩, ⟨PyData.keyHash P (Str.ofString "in_table_c8"), .str (Str.ofString "in_table_c8") (nat_lit 440), .ref (nat_lit 94)⟩, ⟨PyData.keyHash P (Str.ofString "_law_cells"), .str (Str.ofString "_law_cells") (nat_lit 451), .ref (nat_lit 101)⟩, ⟨PyData.keyHash P (Str.ofString "_law_figures"), .str (Str.ofString "_law_figures") (nat_lit 462), .ref (nat_lit 108)⟩, ⟨PyData.keyHash P (Str.ofString "_law_pieces"), .str (Str.ofString "_law_pieces") (nat_lit 468), .ref (nat_lit 113)⟩, ⟨PyData.keyHash P (Str.ofString "_law_page"), .str (Str.ofString "_law_page") (nat_lit 482), .ref (nat_lit 120)⟩, ⟨PyData.keyHash P (Str.ofString "_law_low"), .str (Str.ofString "_law_low") (nat_lit 488), .ref (nat_lit 125)⟩, ⟨PyData.keyHash P (Str.ofString "_law_depths"), .str (Str.ofString "_law_depths") (nat_lit 500), .ref (nat_lit 132)⟩, ⟨PyData.keyHash P (Str.ofString "_law_line"), .str (Str.ofString "_law_line") (nat_lit 514), .ref (nat_lit 139)⟩, ⟨PyData.keyHash P (Str.ofString "_law_seen"), .str (Str.ofString "_law_seen") (nat_lit 524), .ref (nat_lit 146)⟩, ⟨PyData.keyHash P (Str.ofString "law"), .str (Str.ofString "law") (nat_lit 530), .ref (nat_lit 151)⟩] 27, #[]⟩) ::
  (nat_lit 6, ⟨.type "dict", none, .dict #[] 0, #[]⟩) ::
  (nat_lit 11, ⟨.type "dict", none, .dict #[⟨PyData.keyHash P (Str.ofString "__name__"), .str (Str.ofString "__name__") (nat_lit 247), .str (Str.ofString "_sre") (nat_lit 246)⟩, ⟨PyData.keyHash P (Str.ofString "__doc__"), .str (Str.ofString "__doc__") (nat_lit 248), .none⟩, ⟨PyData.keyHash P (Str.ofString "__package__"), .str (Str.ofString "__package__") (nat_lit 250), .str (Str.ofString "") (nat_lit 249)⟩, ⟨PyData.keyHash P (Str.ofString "__loader__"), .str (Str.ofString "__loader__") (nat_lit 251), .builtin "off-the-table:_sre.__loader__:shared#opaque"⟩, ⟨PyData.keyHash P (Str.ofString "__spec__"), .str (Str.ofString "__spec__") (nat_lit 252), .builtin "off-the-table:_sre.__spec__:shared#opaque"⟩, ⟨PyData.keyHash P (Str.ofString "compile"), .str (Str.ofString "compile") (nat_lit 253), .builtin "_sre.compile"⟩, ⟨PyData.keyHash P (Str.ofString "template"), .str (Str.ofString "template") (nat_lit 254), .builtin "off-the-table:_sre.template:shared#opaque"⟩, ⟨PyData.keyHash P (Str.ofString "getcodesize"), .str (Str.ofString "getcodesize") (nat_lit 255), .builtin "off-the-table:_sre.getcodesize:shared#opaque"⟩, ⟨PyData.keyHash P (Str.ofString "ascii_iscased"), .str (Str.ofString "ascii_iscased") (nat_lit 256), .builtin "off-the-table:_sre.ascii_iscased:shared#opaque"⟩, ⟨PyData.keyHash P (Str.ofString "unicode_iscased"), .str (Str.ofString "unicode_iscased") (nat_lit 257), .builtin "off-the-table:_sre.unicode_iscased:shared#opaque"⟩, ⟨PyData.keyHash P (Str.ofString "ascii_tolower"), .str (Str.ofString "ascii_tolower") (nat_lit 258), .builtin "off-the-table:_sre.ascii_tolower:shared#opaque"⟩, ⟨PyData.keyHash P (Str.ofString "unicode_tolower"), .str (Str.ofString "unicode_tolower") (nat_lit 259), .builtin "off-the-table:_sre.unicode_tolower:shared#opaque"⟩, ⟨PyData.keyHash P (Str.ofString "MAGIC"), .str (Str.ofString "MAGIC") (nat_lit 261), .int 20230612 (nat_lit 260)⟩, ⟨PyData.keyHash P (Str.ofString "CODESIZE"), .str (Str.ofString "CODESIZE") (nat_lit 263), .int 4 (nat_lit 262)⟩, ⟨PyData.keyHash P (Str.ofString "MAXREPEAT"), .str (Str.ofString "MAXREPEAT") (nat_lit 265), .int 4294967295 (nat_lit 264)⟩, ⟨PyData.keyHash P (Str.ofString "MAXGROUPS"), .str (Str.ofString "MAXGROUPS") (nat_lit 267), .int 1073741823 (nat_lit 266)⟩, ⟨PyData.keyHash P (Str.ofString "copyright"), .str (Str.ofString "copyright") (nat_lit 269), .str (Str.ofString " SRE 2.2.2 Copyright (c) 1997-2002 by Secret Labs AB ") (nat_lit 268)⟩] 17, #[]⟩) ::
  (nat_lit 12, ⟨.type "module", (some (nat_lit 11)), .plain, #[]⟩) ::
  (nat_lit 35, ⟨.type "tuple", none, .seq #[.int 14 (nat_lit 0), .int 8 (nat_lit 0), .int 1 (nat_lit 0), .int 2 (nat_lit 0), .int 4294967295 (nat_lit 0), .int 1 (nat_lit 0), .int 1 (nat_lit 0), .int 34 (nat_lit 0), .int 0 (nat_lit 0), .int 16 (nat_lit 0), .int 34 (nat_lit 0), .int 28 (nat_lit 0), .int 22 (nat_lit 0), .int 0 (nat_lit 0), .int 4294967295 (nat_lit 0), .int 7 (nat_lit 0), .int 11 (nat_lit 0), .int 13 (nat_lit 0), .int 7 (nat_lit 0), .int 21 (nat_lit 0), .int 16 (nat_lit 0), .int 34 (nat_lit 0), .int 16 (nat_lit 0), .int 92 (nat_lit 0), .int 0 (nat_lit 0), .int 15 (nat_lit 0), .int 8 (nat_lit 0), .int 6 (nat_lit 0), .int 16 (nat_lit 0), .int 92 (nat_lit 0), .int 2 (nat_lit 0), .int 15 (nat_lit 0), .int 2 (nat_lit 0), .int 0 (nat_lit 0), .int 1 (nat_lit 0), .int 16 (nat_lit 0), .int 34 (nat_lit 0), .int 1 (nat_lit 0)] 0, #[]⟩) ::
  (nat_lit 36, ⟨.type "re.Pattern", none, .fields #[.bytes #[34, 40, 63, 58, 91, 94, 34, 92, 92, 93, 124, 92, 92, 46, 41, 42, 43, 34] (nat_lit 285), .int 0 (nat_lit 326), .int 0 (nat_lit 0), .none, .none, .ref (nat_lit 35), .int 1 (nat_lit 0)], #[]⟩) ::
  (nat_lit 37, ⟨.type "tuple", none, .seq #[.int 0 (nat_lit 328)] 0, #[]⟩) ::
  (nat_lit 38, ⟨.type "tuple", none, .seq #[] 0, #[]⟩) ::
  (nat_lit 40, ⟨.type "tuple", none, .seq #[.str (Str.ofString "data") (nat_lit 332), .str (Str.ofString "depth") (nat_lit 333)] 0, #[]⟩) ::
  (nat_lit 41, ⟨.type "tuple", none, .seq #[] 0, #[]⟩) ::
  (nat_lit 43, ⟨.type "code", none, .fields #[.str (Str.ofString "_paren_depth") (nat_lit 329), .str (Str.ofString "_paren_depth") (nat_lit 330), .str (Str.ofString "/claim/cut.py") (nat_lit 331), .int 4 (nat_lit 0), .int 2 (nat_lit 0), .int 0 (nat_lit 0), .int 0 (nat_lit 0), .int 3 (nat_lit 0), .ref (nat_lit 38), .bool true, .int 276 (nat_lit 0), .ref (nat_lit 39), .none, .ref (nat_lit 40), .ref (nat_lit 41), .ref (nat_lit 42), .int 334 (nat_lit 0), .int 4 (nat_lit 0), .str (Str.ofString "/claim/cut.py") (nat_lit 335)], #[]⟩) ::
  (nat_lit 44, ⟨.type "function", none, .func (fnAt 3 (Str.ofString "_paren_depth") (.ref (nat_lit 37)) (.str (Str.ofString "cpy313.imaplib") (nat_lit 282)) (.ref (nat_lit 43))), #[]⟩) ::
  (nat_lit 45, ⟨.type "tuple", none, .seq #[] 0, #[]⟩) ::
  (nat_lit 47, ⟨.type "tuple", none, .seq #[.str (Str.ofString "s") (nat_lit 342), .str (Str.ofString "amount") (nat_lit 343), .str (Str.ofString "lpos") (nat_lit 344), .str (Str.ofString "rpos") (nat_lit 345)] 0, #[]⟩) ::
  (nat_lit 48, ⟨.type "tuple", none, .seq #[] 0, #[]⟩) ::
  (nat_lit 50, ⟨.type "code", none, .fields #[.str (Str.ofString "_strip_padding") (nat_lit 339), .str (Str.ofString "_strip_padding") (nat_lit 340), .str (Str.ofString "/claim/cut.py") (nat_lit 341), .int 8 (nat_lit 0), .int 2 (nat_lit 0), .int 0 (nat_lit 0), .int 0 (nat_lit 0), .int 3 (nat_lit 0), .ref (nat_lit 45), .bool true, .int 276 (nat_lit 0), .ref (nat_lit 46), .none, .ref (nat_lit 47), .ref (nat_lit 48), .ref (nat_lit 49), .int 346 (nat_lit 0), .int 8 (nat_lit 0), .str (Str.ofString "/claim/cut.py") (nat_lit 347)], #[]⟩) ::
  (nat_lit 51, ⟨.type "function", none, .func (fnAt 5 (Str.ofString "_strip_padding") (.none) (.str (Str.ofString "cpy313.locale") (nat_lit 337)) (.ref (nat_lit 50))), #[]⟩) ::
  (nat_lit 52, ⟨.type "tuple", none, .seq #[] 0, #[]⟩) ::
  (nat_lit 54, ⟨.type "tuple", none, .seq #[.str (Str.ofString "code") (nat_lit 354)] 0, #[]⟩) ::
  (nat_lit 55, ⟨.type "tuple", none, .seq #[] 0, #[]⟩) ::
  (nat_lit 57, ⟨.type "code", none, .fields #[.str (Str.ofString "in_table_c11") (nat_lit 351), .str (Str.ofString "in_table_c11") (nat_lit 352), .str (Str.ofString "/claim/cut.py") (nat_lit 353), .int 19 (nat_lit 0), .int 1 (nat_lit 0), .int 0 (nat_lit 0), .int 0 (nat_lit 0), .int 3 (nat_lit 0), .ref (nat_lit 52), .bool true, .int 276 (nat_lit 0), .ref (nat_lit 53), .none, .ref (nat_lit 54), .ref (nat_lit 55), .ref (nat_lit 56), .int 355 (nat_lit 0), .int 19 (nat_lit 0), .str (Str.ofString "/claim/cut.py") (nat_lit 356)], #[]⟩) ::
  (nat_lit 58, ⟨.type "function", none, .func (fnAt 7 (Str.ofString "in_table_c11") (.none) (.str (Str.ofString "cpy313.stringprep") (nat_lit 349)) (.ref (nat_lit 57))), #[]⟩) ::
  (nat_lit 60, ⟨.type "set", none, .set #[(12272, .int 12272 (nat_lit 361)), (12273, .int 12273 (nat_lit 363)), (12274, .int 12274 (nat_lit 365)), (12275, .int 12275 (nat_lit 367)), (12276, .int 12276 (nat_lit 369)), (12277, .int 12277 (nat_lit 371)), (12278, .int 12278 (nat_lit 373)), (12279, .int 12279 (nat_lit 375)), (12280, .int 12280 (nat_lit 377)), (12281, .int 12281 (nat_lit 379)), (12282, .int 12282 (nat_lit 381)), (12283, .int 12283 (nat_lit 383))] 13 ⟨31, #[16, 17, 18, 19, 20, 21, 22, 23, 24, 25, 26, 27], #[], 0, !(P.followText "set-order"), 1, true⟩, #[]⟩) ::
  (nat_lit 64, ⟨.type "tuple", none, .seq #[] 0, #[]⟩) ::
  (nat_lit 66, ⟨.type "tuple", none, .seq #[.str (Str.ofString "code") (nat_lit 389)] 0, #[]⟩) ::
  (nat_lit 67, ⟨.type "tuple", none, .seq #[] 0, #[]⟩) ::
  (nat_lit 69, ⟨.type "code", none, .fields #[.str (Str.ofString "in_table_c7") (nat_lit 386), .str (Str.ofString "in_table_c7") (nat_lit 387), .str (Str.ofString "/claim/cut.py") (nat_lit 388), .int 22 (nat_lit 0), .int 1 (nat_lit 0), .int 0 (nat_lit 0), .int 0 (nat_lit 0), .int 3 (nat_lit 0), .ref (nat_lit 64), .bool true, .int 276 (nat_lit 0), .ref (nat_lit 65), .none, .ref (nat_lit 66), .ref (nat_lit 67), .ref (nat_lit 68), .int 390 (nat_lit 0), .int 22 (nat_lit 0), .str (Str.ofString "/claim/cut.py") (nat_lit 391)], #[]⟩) ::
  (nat_lit 70, ⟨.type "function", none, .func (fnAt 9 (Str.ofString "in_table_c7") (.none) (.str (Str.ofString "cpy313.stringprep") (nat_lit 349)) (.ref (nat_lit 69))), #[]⟩) ::
  (nat_lit 84, ⟨.type "set", none, .set #[(832, .int 832 (nat_lit 393)), (833, .int 833 (nat_lit 394)), (8234, .int 8234 (nat_lit 402)), (8235, .int 8235 (nat_lit 403)), (8236, .int 8236 (nat_lit 404)), (8237, .int 8237 (nat_lit 405)), (8206, .int 8206 (nat_lit 395)), (8207, .int 8207 (nat_lit 396)), (8238, .int 8238 (nat_lit 406)), (8298, .int 8298 (nat_lit 412)), (8299, .int 8299 (nat_lit 413)), (8300, .int 8300 (nat_lit 414)), (8301, .int 8301 (nat_lit 415)), (8302, .int 8302 (nat_lit 416)), (8303, .int 8303 (nat_lit 417))] 16 ⟨31, #[0, 1, 10, 11, 12, 13, 14, 15, 16, 17, 18, 19, 20, 21, 22], #[], 0, !(P.followText "set-order"), 1, true⟩, #[]⟩) ::
  (nat_lit 88, ⟨.type "tuple", none, .seq #[] 0, #[]⟩) ::
  (nat_lit 90, ⟨.type "tuple", none, .seq #[.str (Str.ofString "code") (nat_lit 437)] 0, #[]⟩) ::
  (nat_lit 91, ⟨.type "tuple", none, .seq #[] 0, #[]⟩) ::
  (nat_lit 93, ⟨.type "code", none, .fields #[.str (Str.ofString "in_table_c8") (nat_lit 434), .str (Str.ofString "in_table_c8") (nat_lit 435), .str (Str.ofString "/claim/cut.py") (nat_lit 436), .int 25 (nat_lit 0), .int 1 (nat_lit 0), .int 0 (nat_lit 0), .int 0 (nat_lit 0), .int 3 (nat_lit 0), .ref (nat_lit 88), .bool true, .int 276 (nat_lit 0), .ref (nat_lit 89), .none, .ref (nat_lit 90), .ref (nat_lit 91), .ref (nat_lit 92), .int 438 (nat_lit 0), .int 25 (nat_lit 0), .str (Str.ofString "/claim/cut.py") (nat_lit 439)], #[]⟩) ::
  (nat_lit 94, ⟨.type "function", none, .func (fnAt 11 (Str.ofString "in_table_c8") (.none) (.str (Str.ofString "cpy313.stringprep") (nat_lit 349)) (.ref (nat_lit 93))), #[]⟩) ::
  (nat_lit 95, ⟨.type "tuple", none, .seq #[] 0, #[]⟩) ::
  (nat_lit 97, ⟨.type "tuple", none, .seq #[.str (Str.ofString "script") (nat_lit 446), .str (Str.ofString "cells") (nat_lit 447), .str (Str.ofString "k") (nat_lit 448)] 0, #[]⟩) ::
  (nat_lit 98, ⟨.type "tuple", none, .seq #[] 0, #[]⟩) ::
  (nat_lit 100, ⟨.type "code", none, .fields #[.str (Str.ofString "_law_cells") (nat_lit 443), .str (Str.ofString "_law_cells") (nat_lit 444), .str (Str.ofString "/claim/cut.py") (nat_lit 445), .int 28 (nat_lit 0), .int 1 (nat_lit 0), .int 0 (nat_lit 0), .int 0 (nat_lit 0), .int 3 (nat_lit 0), .ref (nat_lit 95), .bool true, .int 276 (nat_lit 0), .ref (nat_lit 96), .none, .ref (nat_lit 97), .ref (nat_lit 98), .ref (nat_lit 99), .int 449 (nat_lit 0), .int 28 (nat_lit 0), .str (Str.ofString "/claim/cut.py") (nat_lit 450)], #[]⟩) ::
  (nat_lit 101, ⟨.type "function", none, .func (fnAt 13 (Str.ofString "_law_cells") (.none) (.str (Str.ofString "law_yf0001_01") (nat_lit 441)) (.ref (nat_lit 100))), #[]⟩) ::
  (nat_lit 102, ⟨.type "tuple", none, .seq #[] 0, #[]⟩) ::
  (nat_lit 104, ⟨.type "tuple", none, .seq #[.str (Str.ofString "number") (nat_lit 455), .str (Str.ofString "base") (nat_lit 456), .str (Str.ofString "count") (nat_lit 457), .str (Str.ofString "figures") (nat_lit 458), .str (Str.ofString "k") (nat_lit 459)] 0, #[]⟩) ::
  (nat_lit 105, ⟨.type "tuple", none, .seq #[] 0, #[]⟩) ::
  (nat_lit 107, ⟨.type "code", none, .fields #[.str (Str.ofString "_law_figures") (nat_lit 452), .str (Str.ofString "_law_figures") (nat_lit 453), .str (Str.ofString "/claim/cut.py") (nat_lit 454), .int 33 (nat_lit 0), .int 3 (nat_lit 0), .int 0 (nat_lit 0), .int 0 (nat_lit 0), .int 3 (nat_lit 0), .ref (nat_lit 102), .bool true, .int 276 (nat_lit 0), .ref (nat_lit 103), .none, .ref (nat_lit 104), .ref (nat_lit 105), .ref (nat_lit 106), .int 460 (nat_lit 0), .int 33 (nat_lit 0), .str (Str.ofString "/claim/cut.py") (nat_lit 461)], #[]⟩) ::
  (nat_lit 108, ⟨.type "function", none, .func (fnAt 14 (Str.ofString "_law_figures") (.none) (.str (Str.ofString "law_yf0001_01") (nat_lit 441)) (.ref (nat_lit 107))), #[]⟩) ::
  (nat_lit 109, ⟨.type "tuple", none, .seq #[] 0, #[]⟩) ::
  (nat_lit 112, ⟨.type "code", none, .fields #[.str (Str.ofString "_law_pieces") (nat_lit 463), .str (Str.ofString "_law_pieces") (nat_lit 464), .str (Str.ofString "/claim/cut.py") (nat_lit 465), .int 40 (nat_lit 0), .int 2 (nat_lit 0), .int 0 (nat_lit 0), .int 0 (nat_lit 0), .int 3 (nat_lit 0), .ref (nat_lit 109), .bool true, .int 276 (nat_lit 0), .ref (nat_lit 110), .none, .none, .none, .ref (nat_lit 111), .int 466 (nat_lit 0), .int 40 (nat_lit 0), .str (Str.ofString "/claim/cut.py") (nat_lit 467)], #[]⟩) ::
  (nat_lit 113, ⟨.type "function", none, .func (fnAt 15 (Str.ofString "_law_pieces") (.none) (.str (Str.ofString "law_yf0001_01") (nat_lit 441)) (.ref (nat_lit 112))), #[]⟩) ::
  (nat_lit 114, ⟨.type "tuple", none, .seq #[] 0, #[]⟩) ::
  (nat_lit 116, ⟨.type "tuple", none, .seq #[.str (Str.ofString "row") (nat_lit 472), .str (Str.ofString "seven") (nat_lit 473), .str (Str.ofString "eight") (nat_lit 474), .str (Str.ofString "strange") (nat_lit 475), .str (Str.ofString "beside") (nat_lit 476), .str (Str.ofString "page") (nat_lit 477), .str (Str.ofString "k") (nat_lit 478), .str (Str.ofString "place") (nat_lit 479)] 0, #[]⟩) ::
  (nat_lit 117, ⟨.type "tuple", none, .seq #[] 0, #[]⟩) ::
  (nat_lit 119, ⟨.type "code", none, .fields #[.str (Str.ofString "_law_page") (nat_lit 469), .str (Str.ofString "_law_page") (nat_lit 470), .str (Str.ofString "/claim/cut.py") (nat_lit 471), .int 48 (nat_lit 0), .int 4 (nat_lit 0), .int 0 (nat_lit 0), .int 0 (nat_lit 0), .int 3 (nat_lit 0), .ref (nat_lit 114), .bool true, .int 276 (nat_lit 0), .ref (nat_lit 115), .none, .ref (nat_lit 116), .ref (nat_lit 117), .ref (nat_lit 118), .int 480 (nat_lit 0), .int 48 (nat_lit 0), .str (Str.ofString "/claim/cut.py") (nat_lit 481)], #[]⟩) ::
  (nat_lit 120, ⟨.type "function", none, .func (fnAt 16 (Str.ofString "_law_page") (.none) (.str (Str.ofString "law_yf0001_01") (nat_lit 441)) (.ref (nat_lit 119))), #[]⟩) ::
  (nat_lit 121, ⟨.type "tuple", none, .seq #[] 0, #[]⟩) ::
  (nat_lit 124, ⟨.type "code", none, .fields #[.str (Str.ofString "_law_low") (nat_lit 483), .str (Str.ofString "_law_low") (nat_lit 484), .str (Str.ofString "/claim/cut.py") (nat_lit 485), .int 60 (nat_lit 0), .int 1 (nat_lit 0), .int 0 (nat_lit 0), .int 0 (nat_lit 0), .int 3 (nat_lit 0), .ref (nat_lit 121), .bool true, .int 276 (nat_lit 0), .ref (nat_lit 122), .none, .none, .none, .ref (nat_lit 123), .int 486 (nat_lit 0), .int 60 (nat_lit 0), .str (Str.ofString "/claim/cut.py") (nat_lit 487)], #[]⟩) ::
  (nat_lit 125, ⟨.type "function", none, .func (fnAt 17 (Str.ofString "_law_low") (.none) (.str (Str.ofString "law_yf0001_01") (nat_lit 441)) (.ref (nat_lit 124))), #[]⟩) ::
  (nat_lit 126, ⟨.type "tuple", none, .seq #[] 0, #[]⟩) ::
  (nat_lit 128, ⟨.type "tuple", none, .seq #[.str (Str.ofString "row") (nat_lit 492), .str (Str.ofString "pieces") (nat_lit 493), .str (Str.ofString "start") (nat_lit 494), .str (Str.ofString "depths") (nat_lit 495), .str (Str.ofString "letter") (nat_lit 496), .str (Str.ofString "run") (nat_lit 497)] 0, #[]⟩) ::
  (nat_lit 129, ⟨.type "tuple", none, .seq #[] 0, #[]⟩) ::
  (nat_lit 131, ⟨.type "code", none, .fields #[.str (Str.ofString "_law_depths") (nat_lit 489), .str (Str.ofString "_law_depths") (nat_lit 490), .str (Str.ofString "/claim/cut.py") (nat_lit 491), .int 65 (nat_lit 0), .int 3 (nat_lit 0), .int 0 (nat_lit 0), .int 0 (nat_lit 0), .int 3 (nat_lit 0), .ref (nat_lit 126), .bool true, .int 276 (nat_lit 0), .ref (nat_lit 127), .none, .ref (nat_lit 128), .ref (nat_lit 129), .ref (nat_lit 130), .int 498 (nat_lit 0), .int 65 (nat_lit 0), .str (Str.ofString "/claim/cut.py") (nat_lit 499)], #[]⟩) ::
  (nat_lit 132, ⟨.type "function", none, .func (fnAt 18 (Str.ofString "_law_depths") (.none) (.str (Str.ofString "law_yf0001_01") (nat_lit 441)) (.ref (nat_lit 131))), #[]⟩) ::
  (nat_lit 133, ⟨.type "tuple", none, .seq #[] 0, #[]⟩) ::
  (nat_lit 135, ⟨.type "tuple", none, .seq #[.str (Str.ofString "page") (nat_lit 504), .str (Str.ofString "told") (nat_lit 505), .str (Str.ofString "line") (nat_lit 506), .str (Str.ofString "sign") (nat_lit 507), .str (Str.ofString "seven") (nat_lit 508), .str (Str.ofString "eight") (nat_lit 509), .str (Str.ofString "steps") (nat_lit 510), .str (Str.ofString "step") (nat_lit 511)] 0, #[]⟩) ::
  (nat_lit 136, ⟨.type "tuple", none, .seq #[] 0, #[]⟩) ::
  (nat_lit 138, ⟨.type "code", none, .fields #[.str (Str.ofString "_law_line") (nat_lit 501), .str (Str.ofString "_law_line") (nat_lit 502), .str (Str.ofString "/claim/cut.py") (nat_lit 503), .int 71 (nat_lit 0), .int 3 (nat_lit 0), .int 0 (nat_lit 0), .int 0 (nat_lit 0), .int 3 (nat_lit 0), .ref (nat_lit 133), .bool true, .int 276 (nat_lit 0), .ref (nat_lit 134), .none, .ref (nat_lit 135), .ref (nat_lit 136), .ref (nat_lit 137), .int 512 (nat_lit 0), .int 71 (nat_lit 0), .str (Str.ofString "/claim/cut.py") (nat_lit 513)], #[]⟩) ::
  (nat_lit 139, ⟨.type "function", none, .func (fnAt 19 (Str.ofString "_law_line") (.none) (.str (Str.ofString "law_yf0001_01") (nat_lit 441)) (.ref (nat_lit 138))), #[]⟩) ::
  (nat_lit 140, ⟨.type "tuple", none, .seq #[] 0, #[]⟩) ::
  (nat_lit 142, ⟨.type "tuple", none, .seq #[.str (Str.ofString "line") (nat_lit 518), .str (Str.ofString "seen") (nat_lit 519), .str (Str.ofString "sign") (nat_lit 520), .str (Str.ofString "blank") (nat_lit 521)] 0, #[]⟩) ::
  (nat_lit 143, ⟨.type "tuple", none, .seq #[] 0, #[]⟩) ::
  (nat_lit 145, ⟨.type "code", none, .fields #[.str (Str.ofString "_law_seen") (nat_lit 515), .str (Str.ofString "_law_seen") (nat_lit 516), .str (Str.ofString "/claim/cut.py") (nat_lit 517), .int 85 (nat_lit 0), .int 1 (nat_lit 0), .int 0 (nat_lit 0), .int 0 (nat_lit 0), .int 3 (nat_lit 0), .ref (nat_lit 140), .bool true, .int 276 (nat_lit 0), .ref (nat_lit 141), .none, .ref (nat_lit 142), .ref (nat_lit 143), .ref (nat_lit 144), .int 522 (nat_lit 0), .int 85 (nat_lit 0), .str (Str.ofString "/claim/cut.py") (nat_lit 523)], #[]⟩) ::
  (nat_lit 146, ⟨.type "function", none, .func (fnAt 20 (Str.ofString "_law_seen") (.none) (.str (Str.ofString "law_yf0001_01") (nat_lit 441)) (.ref (nat_lit 145))), #[]⟩) ::
  (nat_lit 147, ⟨.type "tuple", none, .seq #[] 0, #[]⟩) ::
  (nat_lit 150, ⟨.type "code", none, .fields #[.str (Str.ofString "law") (nat_lit 525), .str (Str.ofString "law") (nat_lit 526), .str (Str.ofString "/claim/cut.py") (nat_lit 527), .int 91 (nat_lit 0), .int 1 (nat_lit 0), .int 0 (nat_lit 0), .int 0 (nat_lit 0), .int 3 (nat_lit 0), .ref (nat_lit 147), .bool true, .int 276 (nat_lit 0), .ref (nat_lit 148), .none, .none, .none, .ref (nat_lit 149), .int 528 (nat_lit 0), .int 91 (nat_lit 0), .str (Str.ofString "/claim/cut.py") (nat_lit 529)], #[]⟩) ::
  (nat_lit 151, ⟨.type "function", none, .func (fnAt 21 (Str.ofString "law") (.none) (.str (Str.ofString "law_yf0001_01") (nat_lit 441)) (.ref (nat_lit 150))), #[]⟩) :: []
noncomputable def ks : List Addr := [3, 6, 11, 12, 35, 36, 37, 38, 40, 41, 43, 44, 45, 47, 48, 50, 51, 52, 54, 55, 57, 58, 60, 64, 66, 67, 69, 70, 84, 88, 90, 91, 93, 94, 95, 97, 98, 100, 101, 102, 104, 105, 107, 108, 109, 112, 113, 114, 116, 117, 119, 120, 121, 124, 125, 126, 128, 129, 131, 132, 133, 135, 136, 138, 139, 140, 142, 143, 145, 146, 147, 150, 151]

theorem ks_K (P : Params) : ks = (K P).map (·.1) := by kernel_rfl
noncomputable def Q : Program := view PR [0, 2, 5, 7, 8, 9, 10, 11, 13, 14, 15, 16, 17, 18, 19, 20, 21]
noncomputable def LO : List Str := ["_quoted", "_paren_depth", "c7_set", "c8_set"]
noncomputable abbrev Left (w : World) : Prop := (openEnds treeTable PR w 3502).map (fun s => (openSeen Q LO (importedModules PR.main.body) (fun s => xlAt Q [] s && recOk [] s) true s, (kHook K ks ks_K).obs s)) = some (openGood Q LO, (kHook K ks ks_K).val w)
theorem leftT (w : World) : Left (w.withFollow "special-get-raises" true) := by
  unfold Left openEnds fencedOpening topFrom
  -- the library's twins of treeTable, topRun, importEnds, fenceModules?, openSeen
  rw [PySem.W.Fast.te14364793385576792824, PySem.W.Fast.te14082659384304107361, PySem.W.Fast.te10274390034422433532, PySem.W.Fast.te14289696077712309145, PySem.W.Fast.te4187177175401517315]
  kernel_rfl
theorem leftF (w : World) : Left (w.withFollow "special-get-raises" false) := by
  unfold Left openEnds fencedOpening topFrom
  -- the library's twins of treeTable, topRun, importEnds, fenceModules?, openSeen
  rw [PySem.W.Fast.te14364793385576792824, PySem.W.Fast.te14082659384304107361, PySem.W.Fast.te10274390034422433532, PySem.W.Fast.te14289696077712309145, PySem.W.Fast.te4187177175401517315]
  kernel_rfl
theorem left : LeftO PR Q LO (fun s => xlAt Q [] s && recOk [] s) (kHook K ks ks_K).obs (kHook K ks ks_K).val 3502 :=
  byRow2 "special-get-raises" (P := Left) leftF leftT
end Mine
end
section
open PySem PySem.W PyProof.Rows
set_option maxRecDepth 100000
namespace Mine
noncomputable def DR : DefRec := match defOf Q "law" with
  | some (d, _) => d
  | none => ⟨"", ⟨[], [], none, [], [], none, []⟩, [], default, default⟩
theorem DR_eq : defOf Q "law" = some (DR, []) := by kernel_rfl
theorem top (h : WalkO Q LO (XL Q []) (InK K) PySem.Challenge.rw_yf0001_01.row.toRowW DR [] fun f vs => PySem.call f vs) : PySem.Challenge.rw_yf0001_01.Holds := by
  w_on; o_law
  refine PySem.W.holds_open (q := Q) (loose := LO) (Xt := fun s => xlAt Q [] s && recOk [] s) (XP := XL Q []) (Yf := (kHook K ks ks_K).obs) (Ya := (kHook K ks ks_K).val) (YP := InK K) (N := 3502) left (kHook K ks ks_K).of (kHook K ks ks_K).keeps (fun s e => xl_of s (Bool.and_eq_true_iff.mp e).1) XL.keeps DR_eq (by rfl) (by rfl) (fun s e => recFacts_of (Bool.and_eq_true_iff.mp e).2) rfl (by assumption) (by decide +kernel) ⟨rfl, rfl, rfl, rfl, rfl, by decide +kernel⟩ ?hw h
  w_witness2
end Mine
end
section
open PySem PySem.W PyProof.Rows PySem.Calls
set_option maxRecDepth 100000
namespace Mine
noncomputable abbrev NM := List (Str × Value)
noncomputable abbrev LD := List (Addr × Obj)
noncomputable def Fill (_ : OpenLaw) (_ : Params → Frag) : Prop := True
theorem fill_of {p : Prop} (h : Fill PySem.Challenge.rw_yf0001_01 K → p) : p := h trivial

/-- the around of a def's body at the n-th level -/
noncomputable abbrev AA (n : Nat) : Around := { handled := none, depth := 301 + 20 * n, frames := none, guards := none, units := 100 * n }
noncomputable abbrev Bot : Value → Shared → Prop := fun _ _ => False

theorem up {α : Type} {M : Model} {A A' : Around} {t : Sem α} {Q : α → Shared → Prop} {E : Value → Shared → Prop} {s : Shared} (hh : A.handled = A'.handled) (hd : A.depth ≤ A'.depth) (hu : A.units ≤ A'.units)
    (hf : A'.frames = none) (hg : A'.guards = none) (h : wpAny M A' t Q E s) : wpAny M A t Q E s :=
  fun Γ p hΓ => h Γ p ⟨hΓ.1.trans hh, Nat.le_trans hΓ.2.1 hd, (by intro l hl; rw [hf] at hl; cases hl), (by intro l hl; rw [hg] at hl; cases hl), Nat.le_trans hΓ.2.2.2.2 hu⟩

theorem bot {α : Type} {M : Model} {A : Around} {t : Sem α} {Q : α → Shared → Prop} {E : Value → Shared → Prop} {s : Shared} (h : wpAny M A t Q Bot s) : wpAny M A t Q E s :=
  wpAny_mono h (fun _ _ x => x) fun _ _ x => x.elim

noncomputable def LOW : List Str := ["_quoted", "_paren_depth", "c7_set", "c8_set", "_sre"]
/-- what a def may lean on -/
structure Wd (w : World) (h : Heap) : Prop where
  k : (K w.params).In h
  t : ∃ mean mg mb, Top Q LOW mean mg mb h
theorem Wd.keeps {w : World} {h h' : Heap} (W : Wd w h) (k : ∀ b o, h.get? b = some o → h'.get? b = some o) : Wd w h' :=
  ⟨W.k.keeps k, let ⟨a, b, c, T⟩ := W.t; ⟨a, b, c, T.keeps k⟩⟩

/-- an end that the walk leaves alone -/
noncomputable def Done (P : Prop) : Prop := P
theorem Done.i {P : Prop} (h : P) : Done P := h
theorem call_fn {w : World} {A : Around} {n : Nat} {s : Shared} {f c i : Nat} {name : Str} {dflt md : Value} {vals : List Value} {binds : List (Str × Value)} {P : Value → Shared → Prop} {E : Value → Shared → Prop}
    (hh : A.handled = none) (hd : A.depth + 1 ≤ 301 + 20 * n) (hu : A.units + 3 ≤ 100 * n) (hn : n < 20) (W : Wd w s.heap)
    (hf : (K w.params).lookup f = some ⟨.type "function", none, .func (fnAt i name dflt md (.ref c)), #[]⟩) (hc : codeIn (K w.params) (.ref c) name = true)
    (hbind : BindsTo s (fnAt i name dflt md (.ref c)) ⟨vals, []⟩ binds)
    (hcell : ∀ x ∈ (scAt i).names, x.2 ≠ .cell) (hloc : ∀ x ∈ binds, (scAt i).names.lookup x.1 = some .local)
    (hco : (scAt i).isCoroutine = false) (hgen : (scAt i).isGenerator = false) (hk : (scAt i).kind = .function)
    (h : ∀ h₁, Fr s.heap s.heap.objs.size h₁ (fun x => binds.reverse.lookup x) → wpAny (model PR w) (AA n) (execs (bodyAt i) (envOf name (scAt i) s.heap.objs.size f (.ref c)))
      (fun fl s' => Done (P (match fl with | .ret v => v | _ => .none) s')) Bot { s with heap := h₁, toks := s.toks + binds.length }) :
    wpAny (model PR w) A (call (.ref f) vals) P E s := by
  obtain ⟨_, _, _, T⟩ := W.t
  refine wpAny_call ?_
  refine codeAny_call_def (fd := fnAt i name dflt md (.ref c)) (body := bodyAt i) (binds := binds) (by show A.depth < 1000; omega) (W.k _ _ hf) rfl T.nolimit (codeRec_of W.k hc) rfl hbind hcell hloc (fun h₁ hns hk₁ => ?_) hco hgen hk
  refine up (A' := AA n) hh hd hu rfl rfl (bot ?_)
  exact h h₁ ⟨hns, hk₁, Nat.le_refl _⟩

structure After (s s' : Shared) : Prop where
  k : ∀ b o, s.heap.get? b = some o → s'.heap.get? b = some o
  g : s'.gens = s.gens
  d : s'.drawn = s.drawn
  o : s'.os = s.os
theorem After.rfl' {s : Shared} : After s s := ⟨fun _ _ e => e, rfl, rfl, rfl⟩
theorem After.trans {a b c : Shared} (x : After a b) (y : After b c) : After a c := ⟨fun _ _ e => y.k _ _ (x.k _ _ e), y.g.trans x.g, y.d.trans x.d, y.o.trans x.o⟩

/-- the frame's names, the ledger, the rest as it was -/
structure At (g : Heap) (L : Addr) (s₀ : Shared) (m : List (Str × Value)) (led : List (Addr × Obj)) (s : Shared) : Prop where
  F : Fr g L s.heap (fun y => m.lookup y)
  N : News g L s.heap led
  g : s.gens = s₀.gens
  d : s.drawn = s₀.drawn
  o : s.os = s₀.os
noncomputable def upd (x : Str) (v : Value) : List (Str × Value) → List (Str × Value)
  | [] => [(x, v)]
  | (y, u) :: r => if y == x then (x, v) :: r else (y, u) :: upd x v r
theorem lookup_upd (x : Str) (v : Value) (y : Str) : ∀ m : List (Str × Value), List.lookup y (upd x v m) = if y = x then some v else List.lookup y m
  | [] => by
    by_cases h : y = x
    · subst h; simp [upd]
    · simp only [upd, List.lookup_cons, List.lookup_nil, beq_eq_false_iff_ne.mpr h, if_neg h]
  | (z, u) :: r => by
    unfold upd
    by_cases hz : z = x
    · subst hz
      by_cases h : y = z
      · subst h; simp
      · simp only [beq_self_eq_true, if_true, List.lookup_cons, beq_eq_false_iff_ne.mpr h, if_neg h]
    · rw [if_neg (by rw [beq_iff_eq]; exact hz), List.lookup_cons, List.lookup_cons, lookup_upd x v y r]
      by_cases h : y = z
      · subst h; simp [hz]
      · simp only [beq_eq_false_iff_ne.mpr h]
theorem frCongr {g h : Heap} {L : Addr} {m m' : Str → Option Value} (F : Fr g L h m) (e : ∀ y, m y = m' y) : Fr g L h m' := by
  rw [← funext e]; exact F
theorem frUpd {g h : Heap} {L : Addr} {x : Str} {v : Value} {m m' : List (Str × Value)} (F : Fr g L h (fun y => if y = x then some v else m.lookup y)) (e : upd x v m = m') : Fr g L h (fun y => m'.lookup y) := by
  subst e
  exact frCongr F fun y => (lookup_upd x v y m).symm

/-- one statement, then the rest from what is said of the state behind it -/
theorem seq {M : Model} {A : Around} {env : Env} {st : Stmt} {rest : List Stmt} {Q : Flow → Shared → Prop} {s : Shared} (J : Shared → Prop)
    (h1 : wpAny M A (exec st env) (fun fl s' => Done (fl = .next ∧ J s')) Bot s) (h2 : ∀ s', J s' → wpAny M A (execs rest env) Q Bot s') : wpAny M A (execs (st :: rest) env) Q Bot s := by
  refine wpAny_execs_cons ?_
  refine wpAny_mono h1 (fun fl s' x => ?_) fun _ _ x => x.elim
  obtain ⟨rfl, x⟩ := x
  exact h2 _ x

theorem At.keeps {g : Heap} {L : Addr} {s₀ s s' : Shared} {m : List (Str × Value)} {led : List (Addr × Obj)} (I : At g L s₀ m led s) (k : After s s') : At g L s₀ m led s' :=
  ⟨⟨I.F.ns.keeps k.k, fun b o e => k.k _ _ (I.F.keep b o e), I.F.above⟩, fun p hp => ⟨k.k _ _ (I.N p hp).1, (I.N p hp).2⟩, k.g.trans I.g, k.d.trans I.d, k.o.trans I.o⟩
theorem At.sub {g : Heap} {L : Addr} {s₀ s : Shared} {m : List (Str × Value)} {led led' : List (Addr × Obj)} (I : At g L s₀ m led s) (h : ∀ p ∈ led', p ∈ led) : At g L s₀ m led' s :=
  ⟨I.F, fun p hp => I.N p (h p hp), I.g, I.d, I.o⟩
theorem At.names {g : Heap} {L : Addr} {s₀ s : Shared} {m m' : List (Str × Value)} {led : List (Addr × Obj)} (I : At g L s₀ m led s) (h : ∀ y, m.lookup y = m'.lookup y) : At g L s₀ m' led s :=
  ⟨frCongr I.F h, I.N, I.g, I.d, I.o⟩
theorem At.more {g : Heap} {L : Addr} {s₀ s : Shared} {m : List (Str × Value)} {led : List (Addr × Obj)} (I : At g L s₀ m led s) {a : Addr} {o : Obj} (h : s.heap.get? a = some o) (hL : a ≠ L) (hg : g.get? a = none) : At g L s₀ m ((a, o) :: led) s :=
  ⟨I.F, fun p hp => by rcases List.mem_cons.mp hp with rfl | hp; exact ⟨h, hL, hg⟩; exact I.N p hp, I.g, I.d, I.o⟩

/-- what an iterator's making gives: the state stands, the iterator walks n items -/
noncomputable def ItAt (w : World) (A : Around) (g : Heap) (L : Addr) (s₀ : Shared) (m : List (Str × Value)) (led : List (Addr × Obj)) (adr : List Addr) (n : Nat) (P : Nat → Value → Prop) (it : Value) (s : Shared) : Prop :=
  ∃ I fp wr St, it = .ref I ∧ Walks PR w A I fp wr n P St ∧ L ∉ fp ∧ (∀ b ∈ wr, g.get? b = none) ∧ (∀ p ∈ led, p.1 ∉ wr) ∧ (∀ b ∈ fp, b ∉ adr) ∧ St 0 s.heap ∧ At g L s₀ m led s

theorem At.push {g : Heap} {L : Addr} {s₀ s : Shared} {m : List (Str × Value)} {led : List (Addr × Obj)} (I : At g L s₀ m led s) (o : Obj) : At g L s₀ m led { s with heap := s.heap.push o } :=
  ⟨I.F.push o, fun p hp => ⟨Heap.get?_push_of_some o (I.N p hp).1, (I.N p hp).2⟩, I.g, I.d, I.o⟩
theorem At.fresh {g : Heap} {L : Addr} {s₀ s : Shared} {m : List (Str × Value)} {led : List (Addr × Obj)} (I : At g L s₀ m led s) : L ≠ s.heap.objs.size ∧ g.get? s.heap.objs.size = none ∧ ∀ p ∈ led, p.1 ≠ s.heap.objs.size := by
  refine ⟨Nat.ne_of_lt I.F.ns.lt, ?_, fun p hp => Nat.ne_of_lt (Heap.lt_size (I.N p hp).1)⟩
  cases h : g.get? s.heap.objs.size with
  | none => rfl
  | some o => exact absurd (Heap.lt_size (I.F.keep _ _ h)) (Nat.lt_irrefl _)

theorem itList {w : World} {A : Around} {g : Heap} {L l : Addr} {s₀ s : Shared} {m : List (Str × Value)} {led : List (Addr × Obj)} {adr : List Addr} {items : Array Value} (hh : A.handled = none) (I : At g L s₀ m led s) (hl : s.heap.IsList l items) (hL : l ≠ L) (ha : l ∉ adr) (hadr : ∀ a ∈ adr, a ∈ led.map (·.1)) :
    wpAny (model PR w) A (pyIter (.ref l)) (ItAt w A g L s₀ m led adr items.size fun i v => items[i]? = some v) Bot s := by
  obtain ⟨f1, f2, f3⟩ := I.fresh
  obtain ⟨ol, hol, _⟩ := id hl
  have hlt := Heap.lt_size hol
  refine wpAny_pyIter_list hl ⟨_, _, _, _, rfl, Walks.list hh _ l (Nat.ne_of_lt hlt) items, ?_, ?_, ?_, ?_, ⟨⟨_, Heap.get?_push_size _ rfl, rfl, rfl⟩, hl.at fun o e => Heap.get?_push_of_some _ e⟩, I.push _⟩
  · intro h; rcases List.mem_cons.mp h with h | h
    · exact f1 h
    · exact hL (List.mem_singleton.mp h).symm
  · intro b hb; rw [List.mem_singleton.mp hb]; exact f2
  · intro p hp h; exact f3 p hp (List.mem_singleton.mp h)
  · intro b hb hb'
    rcases List.mem_cons.mp hb with rfl | hb
    · obtain ⟨p, hp, e⟩ := List.mem_map.mp (hadr _ hb'); exact f3 p hp e
    · rw [List.mem_singleton.mp hb] at hb'; exact ha hb'

theorem itStr {w : World} {A : Around} {g : Heap} {L : Addr} {s₀ s : Shared} {m : List (Str × Value)} {led : List (Addr × Obj)} {adr : List Addr} {x : Str} {t : Tok} (hh : A.handled = none) (I : At g L s₀ m led s) (hadr : ∀ a ∈ adr, a ∈ led.map (·.1)) :
    wpAny (model PR w) A (pyIter (.str x t)) (ItAt w A g L s₀ m led adr x.cps.size (SignAt x)) Bot s := by
  obtain ⟨f1, f2, f3⟩ := I.fresh
  refine wpAny_pyIter_str fun o St hw hst => ⟨_, _, _, St, rfl, hw A hh, ?_, ?_, ?_, ?_, hst, I.push _⟩
  · intro h; exact f1 (List.mem_singleton.mp h)
  · intro b hb; rw [List.mem_singleton.mp hb]; exact f2
  · intro p hp h; exact f3 p hp (List.mem_singleton.mp h)
  · intro b hb hb'
    rw [List.mem_singleton.mp hb] at hb'
    obtain ⟨p, hp, e⟩ := List.mem_map.mp (hadr _ hb'); exact f3 p hp e

theorem itRange {w : World} {A : Around} {g : Heap} {L r : Addr} {s₀ s : Shared} {m : List (Str × Value)} {led : List (Addr × Obj)} {adr : List Addr} {n : Nat} {t u v : Tok} (hh : A.handled = none) (I : At g L s₀ m led s) (hr : IsRange s.heap r 0 n 1 t u v) (hn : n < 2 ^ 62) (hadr : ∀ a ∈ adr, a ∈ led.map (·.1)) :
    wpAny (model PR w) A (pyIter (.ref r)) (ItAt w A g L s₀ m led adr n fun i v => ∃ t, v = .int (i : Int) t) Bot s := by
  obtain ⟨f1, f2, f3⟩ := I.fresh
  have hn' : (n : Int) < 2 ^ 62 := by exact_mod_cast hn
  have hs : Builtin.Range.small 0 (n : Int) 1 = true := small_one (by decide) (by decide) (by omega) hn'
  have hz : (Builtin.Range.rangeSize 0 (n : Int) 1 : Int) = (n : Int) := by
    unfold Builtin.Range.rangeSize
    split <;> split <;> simp_all <;> omega
  have W := Walks.range (prog := PR) (w := w) hh s.heap.objs.size 0 1 n
  simp only [Int.mul_one, Int.zero_add] at W
  refine wpAny_pyIter_range hr hs ⟨_, _, _, _, rfl, W, ?_, ?_, ?_, ?_, ?_, I.push _⟩
  · intro h; exact f1 (List.mem_singleton.mp h)
  · intro b hb; rw [List.mem_singleton.mp hb]; exact f2
  · intro p hp h; exact f3 p hp (List.mem_singleton.mp h)
  · intro b hb hb'
    rw [List.mem_singleton.mp hb] at hb'
    obtain ⟨p, hp, e⟩ := List.mem_map.mp (hadr _ hb'); exact f3 p hp e
  · show IsRangeIter _ _ _ _ _
    rw [hz]
    have e : (n : Int) - ((0 : Nat) : Int) = n := by simp
    rw [e]
    exact Heap.get?_push_size _ rfl

noncomputable def Off (x : Str) (μ m : List (Str × Value)) : Prop := ∀ y, y ≠ x → μ.lookup y = m.lookup y
theorem lookup_app (y : Str) (b : List (Str × Value)) : ∀ a : List (Str × Value), (a ++ b).lookup y = (a.lookup y).or (b.lookup y)
  | [] => by simp
  | (z, u) :: r => by
    rw [List.cons_append, List.lookup_cons, List.lookup_cons, lookup_app y b r]
    cases y == z <;> rfl
theorem lookup_filter (x y : Str) (h : y ≠ x) : ∀ a : List (Str × Value), (a.filter fun p => p.1 != x).lookup y = a.lookup y
  | [] => rfl
  | (z, u) :: r => by
    by_cases hz : z = x
    · subst hz
      have : (y == z) = false := beq_eq_false_iff_ne.mpr h
      simp [List.lookup_cons, this, lookup_filter z y h r]
    · have : (z != x) = true := by simp [hz]
      simp only [List.filter_cons, this, if_true, List.lookup_cons, lookup_filter x y h r]
theorem lookup_filter_self (x : Str) : ∀ a : List (Str × Value), (a.filter fun p => p.1 != x).lookup x = none
  | [] => rfl
  | (z, u) :: r => by
    by_cases hz : z = x
    · subst hz; simp [lookup_filter_self z r]
    · have h1 : (z != x) = true := by simp [hz]
      have h2 : (x == z) = false := beq_eq_false_iff_ne.mpr (Ne.symm hz)
      simp only [List.filter_cons, h1, if_true, List.lookup_cons, h2, lookup_filter_self x r]
theorem Off.tail {x : Str} {μ e post : List (Str × Value)} (h : Off x μ (e ++ post)) (he : e.lookup x = none) : ∃ post', ∀ y, μ.lookup y = (e ++ post').lookup y := by
  cases hx : μ.lookup x with
  | some u =>
    refine ⟨(x, u) :: post, fun y => ?_⟩
    by_cases hy : y = x
    · subst hy; rw [hx, lookup_app, he]; simp
    · rw [h y hy, lookup_app, lookup_app, List.lookup_cons, beq_eq_false_iff_ne.mpr hy]
  | none =>
    refine ⟨post.filter fun p => p.1 != x, fun y => ?_⟩
    by_cases hy : y = x
    · subst hy; rw [hx, lookup_app, he, lookup_filter_self]; rfl
    · rw [h y hy, lookup_app, lookup_app, lookup_filter x y hy]

theorem for_rule {w : World} {A : Around} {env : Env} {x : Str} {px pos : Pos} {iter : Expr} {body : List Stmt} {Q : Flow → Shared → Prop} {s s₀ : Shared} {g : Heap} {n : Nat} {P : Nat → Value → Prop}
    (adr : List Addr) (fix : List (Addr × Obj)) (J : Nat → List (Str × Value) → List (Addr × Obj) → Prop) (e₀ post : List (Str × Value)) (led₀ : List (Addr × Obj))
    (hx : env.kindOf x = some .local) (hk : env.scope.kind = .function)
    (hJ : ∀ i e led, J i e led → led.map (·.1) = adr ∧ e.lookup x = none) (h0 : J 0 e₀ led₀)
    (hit : wpAny (model PR w) A (eval iter env) (fun xv s₁ => wpAny (model PR w) A (pyIter xv) (ItAt w A g env.locals s₀ (e₀ ++ post) (led₀ ++ fix) adr n P) Bot s₁) Bot s)
    (turn : ∀ i v e led own post s₁, i < n → P i v → J i e led → (∀ p ∈ own, p.1 ∉ adr) → At g env.locals s₀ ((x, v) :: (e ++ post)) (led ++ (fix ++ own)) s₁ →
      wpAny (model PR w) A (execs body env) (fun fl s' => Done (fl = .next ∧ ∃ u e' led' post', J (i + 1) e' led' ∧ At g env.locals s₀ ((x, u) :: (e' ++ post')) (led' ++ (fix ++ own)) s')) Bot s₁)
    (done : ∀ e led post' s', J n e led → At g env.locals s₀ (e ++ post') (led ++ fix) s' → Q .next s')
    (hs : ∀ x, foldedSetIterable iter env x = pure x := by intro _; rfl) :
    wpAny (model PR w) A (exec (.For (.Name x px) iter body [] pos) env) Q Bot s := by
  refine wpAny_For (wpAny_mono hit (fun xv s₁ h₁ => wpAny_mono h₁ (fun it s₂ h₂ => ?_) fun _ _ e => e.elim) fun _ _ e => e.elim) hs
  obtain ⟨I, fp, wr, St, rfl, W, hL, hwr, hled, hadr, hst, I0⟩ := h₂
  have hp : (env.scope.kind == .class || (env.scope.kind == .module && env.locals != env.globals)) = false := by rw [hk]; rfl
  have hfix : ∀ p ∈ fix, p.1 ∉ wr := fun p hp => hled p (List.mem_append_right _ hp)
  have hawr : ∀ a ∈ adr, a ∉ wr := fun a ha hw => hadr a (W.sub a hw) ha
  refine PyProof.Rows.codeAny_forLoop_frV (R := fun r s' => match r with | .ok f => Q f s' | .error e => cameBackBy (model PR w) A env Bot e s') W hx hp hL hwr hled hst I0.F I0.N
    (fun i m news => ∃ μ e led post, m = (fun y => List.lookup y μ) ∧ Off x μ (e ++ post) ∧ news = led ++ fix ∧ J i e led) ⟨_, e₀, led₀, post, rfl, fun _ _ => rfl, rfl, h0⟩ ?_ ?_
  · rintro i v m₁ news₁ s₁ own ⟨h, tk, rfl⟩ hi hP ⟨μ, e, led, post, rfl, hoff, rfl, hJi⟩ ha ho hog hof hst₁ F₁ N₁
    have I1 : At g env.locals s₀ ((x, v) :: (e ++ post)) (led ++ (fix ++ own)) { s₂ with heap := h, toks := tk } :=
      ⟨frCongr F₁ fun y => by
        rw [List.lookup_cons]
        by_cases hy : y = x
        · subst hy; simp
        · rw [if_neg hy, beq_eq_false_iff_ne.mpr hy]; exact hoff y hy, fun p hp => N₁ p (by
        rcases List.mem_append.mp hp with hp | hp
        · exact List.mem_append_right _ (List.mem_append_left _ hp)
        · rcases List.mem_append.mp hp with hp | hp
          · exact List.mem_append_right _ (List.mem_append_right _ hp)
          · exact List.mem_append_left _ hp), I0.g, I0.d, I0.o⟩
    refine wpAny_mono (turn i v e led own post _ hi hP hJi (fun p hp ha' => hadr _ (ho p hp) ha') I1) (fun fl s' hd => ?_) fun _ _ e => e.elim
    obtain ⟨rfl, u, e', led', post', hJ', I'⟩ := hd
    refine LoopStepV.next ?_
    obtain ⟨h', g', d', tk', o'⟩ := s'
    have e1 : g' = s₂.gens := I'.g.trans I0.g.symm
    have e2 : d' = s₂.drawn := I'.d.trans I0.d.symm
    have e3 : o' = s₂.os := I'.o.trans I0.o.symm
    subst e1 e2 e3
    refine ⟨rfl, h', tk', _, led' ++ fix, rfl, I'.F, fun p hp => I'.N p (by
        rcases List.mem_append.mp hp with hp | hp
        · exact List.mem_append_right _ (List.mem_append_right _ hp)
        · rcases List.mem_append.mp hp with hp | hp
          · exact List.mem_append_left _ hp
          · exact List.mem_append_right _ (List.mem_append_left _ hp)), ?_, _, e', led', post', rfl, fun y hy => by rw [List.lookup_cons, beq_eq_false_iff_ne.mpr hy], rfl, hJ'⟩
    intro p hp
    rcases List.mem_append.mp hp with hp | hp
    · exact hawr _ (by rw [← (hJ _ _ _ hJ').1]; exact List.mem_map_of_mem hp)
    · exact hfix p hp
  · rintro h' tk m' news' F' N' ha ⟨μ, e, led, post, rfl, hoff, rfl, hJn⟩
    obtain ⟨post', hp'⟩ := hoff.tail (hJ _ _ _ hJn).2
    exact done e led post' _ hJn ⟨frCongr F' hp', N', I0.g, I0.d, I0.o⟩

theorem append_mine {w : World} {A : Around} {g : Heap} {L l : Addr} {s : Shared} {m : Str → Option Value} {rest : LD} {its : Array Value} {n : Nat} {x : Value} {Q : Value → Shared → Prop} {E : Value → Shared → Prop}
    (F : Fr g L s.heap m) (N : News g L s.heap ((l, PySem.W.listOf its n) :: rest)) (hne : ∀ p ∈ rest, p.1 ≠ l) (hsz : its.size ≤ sizeLine)
    (h : ∀ h', Fr g L h' m → News g L h' ((l, PySem.W.listOf (its.push x) (n + 1)) :: rest) → Q .none { s with heap := h' }) : wpAny (model PR w) A (call (.builtin "list.append") [.ref l, x]) Q E s :=
  append_K F N (Upd.head hne) h hsz
theorem push_list (vs : List Value) (x : Value) : vs.toArray.push x = (vs ++ [x]).toArray := by simp
theorem size_ok {vs : List Value} {n : Nat} (h : vs.length = n) (hn : n ≤ 1000) : vs.toArray.size ≤ sizeLine := by
  rw [List.size_toArray, h]; exact Nat.le_trans hn (by decide)

theorem while_rule {w : World} {A : Around} {env : Env} {test : Expr} {body : List Stmt} {pos : Pos} {Q : Flow → Shared → Prop} {s : Shared} (I : Nat → Shared → Prop) (n : Nat) (h0 : I n s)
    (turn : ∀ n s, I n s → wpAny (model PR w) A (isTrue test env (eval test env)) (fun b s₂ => Done ((b = true ∧ wpAny (model PR w) A (execs body env) (fun fl s₃ => Done (fl = .next ∧ ∃ m, m < n ∧ I m s₃)) Bot s₂) ∨ (b = false ∧ Q .next s₂))) Bot s) :
    wpAny (model PR w) A (exec (.While test body [] pos) env) Q Bot s := by
  refine wpAny_While (codeAny_whileLoop I (fun n s hI => wpAny_mono (turn n s hI) (fun b s₂ hb => ?_) fun _ _ x => x.elim) n h0)
  rcases hb with ⟨rfl, hb⟩ | ⟨rfl, hb⟩
  · rw [if_pos rfl]
    refine wpAny_mono hb (fun fl s₃ hf => ?_) fun _ _ x => x.elim
    obtain ⟨rfl, m, hm, hI⟩ := hf
    exact ⟨m, hm, hI⟩
  · rw [if_neg Bool.false_ne_true]
    exact wpAny_execs_nil hb

theorem frUpd2 {g h : Heap} {L : Addr} {x1 x2 : Str} {v1 v2 : Value} {m m' : NM} (F : Fr g L h (fun y => if y = x2 then some v2 else if y = x1 then some v1 else m.lookup y)) (e : upd x2 v2 (upd x1 v1 m) = m') : Fr g L h (fun y => m'.lookup y) := by
  subst e
  exact frCongr F fun y => by rw [lookup_upd, lookup_upd]
theorem int_eq {x y : Int} {t : Tok} (h : x = y) : Value.int x t = Value.int y t := by rw [h]

/-- a name that is new goes behind the written ones -/
theorem frTail {g h : Heap} {L : Addr} {x : Str} {v : Value} {m post : NM} (F : Fr g L h (fun y => if y = x then some v else (m ++ post).lookup y)) (hx : m.lookup x = none) : Fr g L h (fun y => (m ++ ((x, v) :: post)).lookup y) :=
  frCongr F fun y => by
    rw [lookup_app, lookup_app, List.lookup_cons]
    by_cases hy : y = x
    · subst hy; rw [hx]; simp
    · rw [if_neg hy, beq_eq_false_iff_ne.mpr hy]
theorem At.tail {g : Heap} {L : Addr} {s₀ s s' : Shared} {x : Str} {v : Value} {m post : NM} {led : LD} (I : At g L s₀ (m ++ post) led s) (F : Fr g L s'.heap (fun y => if y = x then some v else (m ++ post).lookup y)) (N : News g L s'.heap led) (hx : m.lookup x = none)
    (hg : s'.gens = s.gens) (hd : s'.drawn = s.drawn) (ho : s'.os = s.os) : At g L s₀ (m ++ ((x, v) :: post)) led s' := ⟨frTail F hx, N, hg.trans I.g, hd.trans I.d, ho.trans I.o⟩
end Mine
end
section
open PySem PySem.Sre
set_option maxRecDepth 100000
namespace Mine
namespace Rx
noncomputable def CODE : Array Nat := #[14, 8, 1, 2, 4294967295, 1, 1, 34, 0, 16, 34, 28, 22, 0, 4294967295, 7, 11, 13, 7, 21, 16, 34, 16, 92, 0, 15, 8, 6, 16, 92, 2, 15, 2, 0, 1, 16, 34, 1]

theorem runFor_of_some {b : Nat} {m : M} (h : m.outcome.isSome = true) : M.runFor b m = m := by
  cases b with
  | zero => rfl
  | succ b => simp only [M.runFor]; rw [if_pos h]
theorem runFor_add (a b : Nat) : ∀ m : M, M.runFor (a + b) m = M.runFor b (M.runFor a m) := by
  induction a with
  | zero => intro m; rw [Nat.zero_add]; rfl
  | succ a ih =>
    intro m
    rw [show a + 1 + b = (a + b) + 1 by omega]
    by_cases h : m.outcome.isSome = true
    · rw [runFor_of_some h, runFor_of_some h, runFor_of_some h]
    · simp only [M.runFor]
      rw [if_neg h, if_neg h, ih]

/-- m goes to m' in k steps -/
noncomputable def Go (k : Nat) (m m' : M) : Prop := M.runFor k m = m'
theorem Go.trans {a b : Nat} {m m' m'' : M} (x : Go a m m') (y : Go b m' m'') : Go (a + b) m m'' := by
  unfold Go at *; rw [runFor_add, x, y]
theorem Go.one {m m' : M} (h : m.outcome = none) (e : m.step = m') : Go 1 m m' := by
  unfold Go; simp only [M.runFor]; rw [h]; simpa using e

/-- the machine at start s, at work -/
noncomputable def fs (s : Nat) (o : Bool) : Sre.Frame := { wait := .nextStart, pc := 9, pos := s, outermost := o }
noncomputable def st (text : Array Nat) (lim lastStart : Nat) (s : Nat) (handed pc pos : Nat) (outermost : Bool) (loops : Array Loop) (inner : Option Nat) (frames : List Sre.Frame) (answer : Option Bool) (seen : Sre.Seen) : M :=
  { code := CODE, text, lim, start := s, lastStart, pc, pos, handed, outermost, marks := #[], loops, inner, frames, weight := frames.length, answer, seen }

noncomputable def kp : Sre.Kept := { whole := true }
noncomputable def nb (alt pos : Nat) : Sre.Frame := { wait := .nextBranch, pc := alt, pos, outermost := false, kept := kp }
noncomputable def pm (p : Nat) (c : Nat) (o : Bool) : Sre.Frame := { wait := .possMore, pc := 11, pos := p, outermost := o, loop := 0, count := (c : Int), kept := kp }
noncomputable def lp : Array Loop := #[{ pc := 0, outer := none }]

section
variable {text : Array Nat} {lim lastStart s handed pos : Nat} {o : Bool} {fr : List Sre.Frame} {seen : Sre.Seen} {loops : Array Loop} {inner : Option Nat} {c : Nat}
local macro_rules | `(tactic| walk_at "sre") => `(tactic| simp [M.step, st, M.exec, M.word, CODE, ops, M.say, accepts, itemWidth, inSet, M.alternative, M.attempt, M.frame, M.keep, M.resume, M.putBack, M.possessive, M.loopAt, maxRepeat, kp, nb, pm, lp, fs, *])
theorem lit_yes (h1 : pos < lim) (h2 : text[pos]?.getD 0 = 34) :
    Go 1 (st text lim lastStart s handed 9 pos o loops inner fr none seen) (st text lim lastStart s handed 11 (pos + 1) o loops inner fr none (seen.add 16)) := by
  refine .one rfl ?_
  have := Nat.not_le.mpr h1
  walk_at "sre"
theorem lit_end (h1 : ¬ pos < lim) :
    Go 1 (st text lim lastStart s handed 9 pos o loops inner fr none seen) (st text lim lastStart s handed 9 pos o loops inner fr (some false) (seen.add 16)) := by
  refine .one rfl ?_
  have := Nat.not_lt.mp h1
  walk_at "sre"
theorem lit_no (h1 : pos < lim) (h2 : text[pos]?.getD 0 ≠ 34) :
    Go 1 (st text lim lastStart s handed 9 pos o loops inner fr none seen) (st text lim lastStart s handed 9 pos o loops inner fr (some false) (seen.add 16)) := by
  refine .one rfl ?_
  have : (text[pos]?.getD 0 == 34) = false := by simpa using h2
  have := Nat.not_le.mpr h1
  walk_at "sre"
theorem poss (hw : fr.length < 100) :
    Go 1 (st text lim lastStart s handed 11 pos o #[] none fr none seen) (st text lim lastStart s pos 15 pos false lp (some 0) (pm pos 0 o :: fr) none (seen.add 28)) := by
  refine .one rfl ?_
  have : ¬ 16777216 < fr.length + 1 := by omega
  walk_at "sre"
theorem branch (hw : fr.length < 100) :
    Go 1 (st text lim lastStart s handed 15 pos false lp (some 0) fr none seen) (st text lim lastStart s pos 17 pos false lp (some 0) (nb 16 pos :: fr) none (seen.add 7)) := by
  refine .one rfl ?_
  have : ¬ 16777216 < fr.length + 1 := by omega
  walk_at "sre"
theorem in_yes (h1 : pos < lim) (h2 : text[pos]?.getD 0 ≠ 34) (h3 : text[pos]?.getD 0 ≠ 92) :
    ∃ seen', Go 1 (st text lim lastStart s handed 17 pos o loops inner fr none seen) (st text lim lastStart s handed 25 (pos + 1) o loops inner fr none seen') := by
  refine ⟨((((seen.add 13).add 21).add 16).add 16).add 0, .one rfl ?_⟩
  have := Nat.not_le.mpr h1
  walk_at "sre"
theorem in_quote (h1 : pos < lim) (h2 : text[pos]?.getD 0 = 34) :
    ∃ seen', Go 1 (st text lim lastStart s handed 17 pos o loops inner fr none seen) (st text lim lastStart s handed 17 pos o loops inner fr (some false) seen') := by
  refine ⟨((seen.add 13).add 21).add 16, .one rfl ?_⟩
  have := Nat.not_le.mpr h1
  walk_at "sre"
theorem in_back (h1 : pos < lim) (h2 : text[pos]?.getD 0 = 92) :
    ∃ seen', Go 1 (st text lim lastStart s handed 17 pos o loops inner fr none seen) (st text lim lastStart s handed 17 pos o loops inner fr (some false) seen') := by
  refine ⟨(((seen.add 13).add 21).add 16).add 16, .one rfl ?_⟩
  have := Nat.not_le.mpr h1
  walk_at "sre"
theorem in_end (h1 : ¬ pos < lim) :
    ∃ seen', Go 1 (st text lim lastStart s handed 17 pos o loops inner fr none seen) (st text lim lastStart s handed 17 pos o loops inner fr (some false) seen') := by
  refine ⟨seen.add 13, .one rfl ?_⟩
  have := Nat.not_lt.mp h1
  walk_at "sre"
theorem jump25 : Go 1 (st text lim lastStart s handed 25 pos o loops inner fr none seen) (st text lim lastStart s handed 34 pos o loops inner fr none (seen.add 15)) := by
  refine .one rfl ?_
  rfl
theorem jump31 : Go 1 (st text lim lastStart s handed 31 pos o loops inner fr none seen) (st text lim lastStart s handed 34 pos o loops inner fr none (seen.add 15)) := by
  refine .one rfl ?_
  rfl
theorem succ34 : Go 1 (st text lim lastStart s handed 34 pos o loops inner fr none seen) (st text lim lastStart s pos 34 pos o loops inner fr (some true) (seen.add 1)) := by
  refine .one rfl ?_
  walk_at "sre"
theorem succ37 : Go 1 (st text lim lastStart s handed 37 pos o loops inner fr none seen) (st text lim lastStart s pos 37 pos o loops inner fr (some true) (seen.add 1)) := by
  refine .one rfl ?_
  walk_at "sre"
theorem nb_yes {pc alt p : Nat} : Go 1 (st text lim lastStart s handed pc pos o loops inner (nb alt p :: fr) (some true) seen) (st text lim lastStart s handed alt p false loops inner fr (some true) seen) := by
  refine .one rfl ?_
  rfl
theorem nb16_no (hw : fr.length < 100) {pc p : Nat} : Go 1 (st text lim lastStart s handed pc pos o loops inner (nb 16 p :: fr) (some false) seen) (st text lim lastStart s p 28 p false loops inner (nb 27 p :: fr) none seen) := by
  refine .one rfl ?_
  have : ¬ 16777216 < fr.length + 1 := by omega
  walk_at "sre"
theorem nb27_no {pc p : Nat} : Go 1 (st text lim lastStart s handed pc pos o loops inner (nb 27 p :: fr) (some false) seen) (st text lim lastStart s handed 27 p false loops inner fr (some false) seen) := by
  refine .one rfl ?_
  rfl
theorem lit28_yes (h1 : pos < lim) (h2 : text[pos]?.getD 0 = 92) :
    Go 1 (st text lim lastStart s handed 28 pos o loops inner fr none seen) (st text lim lastStart s handed 30 (pos + 1) o loops inner fr none (seen.add 16)) := by
  refine .one rfl ?_
  have := Nat.not_le.mpr h1
  walk_at "sre"
theorem lit28_no (h1 : pos < lim → text[pos]?.getD 0 ≠ 92) :
    Go 1 (st text lim lastStart s handed 28 pos o loops inner fr none seen) (st text lim lastStart s handed 28 pos o loops inner fr (some false) (seen.add 16)) := by
  refine .one rfl ?_
  by_cases h : pos < lim
  · have : (text[pos]?.getD 0 == 92) = false := by simpa using h1 h
    have := Nat.not_le.mpr h
    walk_at "sre"
  · have := Nat.not_lt.mp h
    walk_at "sre"
theorem any30_yes (h1 : pos < lim) (h2 : text[pos]?.getD 0 ≠ 10) :
    Go 1 (st text lim lastStart s handed 30 pos o loops inner fr none seen) (st text lim lastStart s handed 31 (pos + 1) o loops inner fr none (seen.add 2)) := by
  refine .one rfl ?_
  have := Nat.not_le.mpr h1
  have : (text[pos]?.getD 0 != 10) = true := by simpa using h2
  walk_at "sre"
theorem any30_no (h1 : pos < lim → text[pos]?.getD 0 = 10) :
    Go 1 (st text lim lastStart s handed 30 pos o loops inner fr none seen) (st text lim lastStart s handed 30 pos o loops inner fr (some false) (seen.add 2)) := by
  refine .one rfl ?_
  by_cases h : pos < lim
  · have := h1 h
    have := Nat.not_le.mpr h
    walk_at "sre"
  · have := Nat.not_lt.mp h
    walk_at "sre"
theorem pm_yes (hw : fr.length < 100) {pc p o' : _} (hp : p ≠ handed) : Go 1 (st text lim lastStart s handed pc pos o' lp (some 0) (pm p c o :: fr) (some true) seen) (st text lim lastStart s handed 15 handed false lp (some 0) (pm handed (c + 1) o :: fr) none seen) := by
  refine .one rfl ?_
  have : ¬ 16777216 < fr.length + 1 := by omega
  walk_at "sre"
  omega
theorem pm_no {pc p o' : _} : Go 1 (st text lim lastStart s handed pc pos o' lp (some 0) (pm p c o :: fr) (some false) seen) (st text lim lastStart s p 35 p o #[] none fr none seen) := by
  refine .one rfl ?_
  walk_at "sre"
  intro h; omega
theorem lit35_yes (h1 : pos < lim) (h2 : text[pos]?.getD 0 = 34) :
    Go 1 (st text lim lastStart s handed 35 pos o loops inner fr none seen) (st text lim lastStart s handed 37 (pos + 1) o loops inner fr none (seen.add 16)) := by
  refine .one rfl ?_
  have := Nat.not_le.mpr h1
  walk_at "sre"
theorem lit35_no (h1 : pos < lim → text[pos]?.getD 0 ≠ 34) :
    Go 1 (st text lim lastStart s handed 35 pos o loops inner fr none seen) (st text lim lastStart s handed 35 pos o loops inner fr (some false) (seen.add 16)) := by
  refine .one rfl ?_
  by_cases h : pos < lim
  · have : (text[pos]?.getD 0 == 34) = false := by simpa using h1 h
    have := Nat.not_le.mpr h
    walk_at "sre"
  · have := Nat.not_lt.mp h
    walk_at "sre"
theorem fs_yes {pc p o' : _} : Go 1 (st text lim lastStart s handed pc pos o' loops inner [fs p o] (some true) seen) (st text lim lastStart s handed 9 p o loops inner [] (some true) seen) := by
  refine .one rfl ?_
  walk_at "sre"
theorem fs_no {pc p o' : _} (h : p < lastStart) : Go 1 (st text lim lastStart s handed pc pos o' loops inner [fs p o] (some false) seen) (st text lim lastStart (p + 1) (p + 1) 9 (p + 1) false loops inner [fs (p + 1) false] none seen) := by
  refine .one rfl ?_
  simp [M.step, st, M.resume, fs, h, M.putBack, M.attemptFrom, M.hasFirstSet, M.attemptAt, M.attempt, CODE, ops]
theorem fs_end {pc p o' : _} (h : ¬ p < lastStart) : Go 1 (st text lim lastStart s handed pc pos o' loops inner [fs p o] (some false) seen) (st text lim lastStart s handed 9 p o loops inner [] (some false) seen) := by
  refine .one rfl ?_
  simp [M.step, st, M.resume, fs, h, M.say]

/-- where the possessive loop stops -/
noncomputable def stop (text : Array Nat) (lim : Nat) : Nat → Nat → Nat
  | 0, p => p
  | k + 1, p => if p < lim ∧ text[p]?.getD 0 ≠ 34 ∧ text[p]?.getD 0 ≠ 92 then stop text lim k (p + 1)
    else if p < lim ∧ text[p]?.getD 0 = 92 ∧ p + 1 < lim ∧ text[p + 1]?.getD 0 ≠ 10 then stop text lim k (p + 2) else p
theorem loop_goes (hw : fr.length < 90) : ∀ (k p c handed : Nat) (seen : Sre.Seen), lim - p ≤ k → p ≤ lim →
    ∃ n seen', n ≤ 10 * k + 10 ∧ Go n (st text lim lastStart s handed 15 p false lp (some 0) (pm p c o :: fr) none seen) (st text lim lastStart s (stop text lim k p) 35 (stop text lim k p) o #[] none fr none seen')
  | k, p, c, handed, seen, hk, hp => by
    have hw1 : (pm p c o :: fr).length < 100 := by simp only [List.length_cons]; omega
    have hw2 : ∀ q, (nb q p :: pm p c o :: fr).length < 100 := fun q => by simp only [List.length_cons]; omega
    have b1 := branch (text := text) (lim := lim) (lastStart := lastStart) (s := s) (handed := handed) (pos := p) (fr := pm p c o :: fr) (seen := seen) hw1
    by_cases h1 : p < lim
    · cases k with
      | zero => omega
      | succ k =>
        by_cases h2 : text[p]?.getD 0 ≠ 34 ∧ text[p]?.getD 0 ≠ 92
        · obtain ⟨se, i1⟩ := in_yes (text := text) (lim := lim) (lastStart := lastStart) (s := s) (handed := p) (pos := p) (o := false) (loops := lp) (inner := some 0) (fr := nb 16 p :: pm p c o :: fr) (seen := seen.add 7) h1 h2.1 h2.2
          obtain ⟨n, se', hn, g⟩ := loop_goes hw k (p + 1) (c + 1) (p + 1) ((se.add 15).add 1) (by omega) (by omega)
          refine ⟨_, se', ?_, (((((b1.trans i1).trans jump25).trans succ34).trans nb_yes).trans (pm_yes (by omega) (by omega))).trans (by simpa [stop, h1, h2] using g)⟩
          omega
        · by_cases h3 : text[p]?.getD 0 = 92
          · obtain ⟨se, i1⟩ := in_back (text := text) (lim := lim) (lastStart := lastStart) (s := s) (handed := p) (pos := p) (o := false) (loops := lp) (inner := some 0) (fr := nb 16 p :: pm p c o :: fr) (seen := seen.add 7) h1 h3
            have g1 := (((b1.trans i1).trans (nb16_no hw1)).trans (lit28_yes h1 h3))
            by_cases h4 : p + 1 < lim ∧ text[p + 1]?.getD 0 ≠ 10
            · obtain ⟨n, se', hn, g⟩ := loop_goes hw k (p + 2) (c + 1) (p + 2) ((((se.add 16).add 2).add 15).add 1) (by omega) (by omega)
              refine ⟨_, se', ?_, (((((g1.trans (any30_yes h4.1 h4.2)).trans jump31).trans succ34).trans nb_yes).trans (pm_yes (by omega) (by omega))).trans (by simpa [stop, h1, h3, h4] using g)⟩
              omega
            · refine ⟨_, _, ?_, ((g1.trans (any30_no (fun h => Classical.byContradiction fun h' => h4 ⟨h, h'⟩))).trans nb27_no).trans (by
                have e : stop text lim (k + 1) p = p := by simp only [stop, h3, ne_eq, not_true_eq_false, and_false, if_false, h1, true_and]; rw [if_neg h4]
                rw [e]; exact pm_no)⟩
              omega
          · have h5 : text[p]?.getD 0 = 34 := Classical.byContradiction fun h => h2 ⟨h, h3⟩
            obtain ⟨se, i1⟩ := in_quote (text := text) (lim := lim) (lastStart := lastStart) (s := s) (handed := p) (pos := p) (o := false) (loops := lp) (inner := some 0) (fr := nb 16 p :: pm p c o :: fr) (seen := seen.add 7) h1 h5
            refine ⟨_, _, ?_, ((((b1.trans i1).trans (nb16_no hw1)).trans (lit28_no fun _ => h3)).trans nb27_no).trans (by
              have e : stop text lim (k + 1) p = p := by simp [stop, h5]
              rw [e]; exact pm_no)⟩
            omega
    · obtain ⟨se, i1⟩ := in_end (text := text) (lim := lim) (lastStart := lastStart) (s := s) (handed := p) (pos := p) (o := false) (loops := lp) (inner := some 0) (fr := nb 16 p :: pm p c o :: fr) (seen := seen.add 7) h1
      refine ⟨_, _, ?_, ((((b1.trans i1).trans (nb16_no hw1)).trans (lit28_no fun h => absurd h h1)).trans nb27_no).trans (by
        have e : stop text lim k p = p := by cases k <;> simp [stop, h1]
        rw [e]; exact pm_no)⟩
      omega
/-- the end of a match at s, if there is one -/
noncomputable def mAt (text : Array Nat) (lim s : Nat) : Option Nat :=
  if s < lim ∧ text[s]?.getD 0 = 34 then
    let e := stop text lim lim (s + 1)
    if e < lim ∧ text[e]?.getD 0 = 34 then some (e + 1) else none
  else none
theorem attempt_goes (s : Nat) (handed : Nat) (o : Bool) (seen : Sre.Seen) : ∃ n h pc pos o' seen', n ≤ 10 * lim + 20 ∧
    Go n (st text lim lastStart s handed 9 s o #[] none [fs s o] none seen) (st text lim lastStart s h pc pos o' #[] none [fs s o] (some (mAt text lim s).isSome) seen') ∧ ∀ e, mAt text lim s = some e → h = e := by
  by_cases h1 : s < lim ∧ text[s]?.getD 0 = 34
  · obtain ⟨n, se, hn, g⟩ := loop_goes (text := text) (lim := lim) (lastStart := lastStart) (s := s) (o := o) (fr := [fs s o]) (by simp) lim (s + 1) 0 (s + 1) ((seen.add 16).add 28) (by omega) (by omega)
    have g1 := ((lit_yes h1.1 h1.2 (handed := handed) (o := o) (fr := [fs s o]) (lastStart := lastStart) (s := s) (loops := #[]) (inner := none) (seen := seen)).trans (poss (by simp))).trans g
    by_cases h2 : stop text lim lim (s + 1) < lim ∧ text[stop text lim lim (s + 1)]?.getD 0 = 34
    · have e : mAt text lim s = some (stop text lim lim (s + 1) + 1) := by simp only [mAt, h1, h2, and_self, if_true]
      rw [e]
      refine ⟨_, _, _, _, _, _, ?_, (g1.trans (lit35_yes h2.1 h2.2)).trans succ37, fun e he => Option.some.inj he⟩
      omega
    · have e : mAt text lim s = none := by simp only [mAt, h1, and_self, if_true]; rw [if_neg h2]
      rw [e]
      refine ⟨_, _, _, _, _, _, ?_, g1.trans (lit35_no fun h h' => h2 ⟨h, h'⟩), fun e he => nomatch he⟩
      omega
  · have e : mAt text lim s = none := by simp only [mAt, h1, if_false]
    rw [e]
    by_cases h2 : s < lim
    · exact ⟨_, _, _, _, _, _, by omega, lit_no h2 fun h => h1 ⟨h2, h⟩, fun e he => nomatch he⟩
    · exact ⟨_, _, _, _, _, _, by omega, lit_end h2, fun e he => nomatch he⟩
/-- the first match from s on -/
noncomputable def mFrom (text : Array Nat) (lim : Nat) : Nat → Nat → Option (Nat × Nat)
  | 0, _ => none
  | k + 1, s => match mAt text lim s with
    | some e => some (s, e)
    | none => mFrom text lim k (s + 1)
theorem fin_goes {m : M} {b : Bool} (h1 : m.answer = some b) (h2 : m.frames = []) (h3 : m.outcome = none) : Go 1 m { m with outcome := some (if b then .matched else .failed) } := by
  refine .one h3 ?_
  unfold M.step
  rw [h3, h1, h2]
  rfl
theorem search_goes : ∀ (k s : Nat) (handed : Nat) (o : Bool) (seen : Sre.Seen), lim - s < k → s ≤ lim → ∃ n m', n ≤ (10 * lim + 30) * k ∧ Go n (st text lim lim s handed 9 s o #[] none [fs s o] none seen) m' ∧
    (match mFrom text lim k s with
      | some (a, e) => m'.outcome = some .matched ∧ m'.start = a ∧ m'.handed = e
      | none => m'.outcome = some .failed)
  | 0, _, _, _, _, h, _ => by omega
  | k + 1, s, handed, o, seen, h, hs => by
    obtain ⟨n, hd, pc, pos, o', se, hn, g, he⟩ := attempt_goes (text := text) (lim := lim) (lastStart := lim) s handed o seen
    unfold mFrom
    cases hm : mAt text lim s with
    | some e =>
      rw [hm] at g
      have g' := (g.trans fs_yes).trans (fin_goes (b := true) rfl rfl rfl)
      refine ⟨_, _, ?_, g', rfl, rfl, he e hm⟩
      rw [Nat.mul_succ]; omega
    | none =>
      rw [hm] at g
      by_cases h1 : s < lim
      · obtain ⟨n', m', hn', g', hm'⟩ := search_goes k (s + 1) (s + 1) false se (by omega) (by omega)
        refine ⟨_, m', ?_, (g.trans (fs_no h1)).trans g', hm'⟩
        rw [Nat.mul_succ]; omega
      · have g' := (g.trans (fs_end h1)).trans (fin_goes (b := false) rfl rfl rfl)
        have e : mFrom text lim k (s + 1) = none := by
          have : ∀ j t, lim ≤ t → mFrom text lim j t = none := by
            intro j
            induction j with
            | zero => intro t _; rfl
            | succ j ih =>
              intro t ht
              unfold mFrom
              have : mAt text lim t = none := by simp [mAt, Nat.not_lt.mpr ht]
              rw [this]; exact ih _ (by omega)
          exact this _ _ (by omega)
        refine ⟨_, _, ?_, g', by simp only [e]; rfl⟩
        rw [Nat.mul_succ]; omega
theorem stop_ge (text : Array Nat) (lim : Nat) : ∀ k p, p ≤ stop text lim k p
  | 0, _ => Nat.le_refl _
  | k + 1, p => by
    unfold stop
    have h1 := stop_ge text lim k (p + 1)
    have h2 := stop_ge text lim k (p + 2)
    split
    · omega
    · split <;> omega
theorem mAt_some {text : Array Nat} {lim s e : Nat} (h : mAt text lim s = some e) : s + 2 ≤ e ∧ e ≤ lim ∧ e = stop text lim lim (s + 1) + 1 := by
  unfold mAt at h
  split at h
  · dsimp only at h
    have := stop_ge text lim lim (s + 1)
    split at h
    · rename_i h2
      cases h
      exact ⟨by omega, h2.1, rfl⟩
    · cases h
  · cases h
theorem mFrom_some {text : Array Nat} {lim : Nat} : ∀ {k s a e : Nat}, mFrom text lim k s = some (a, e) → s ≤ a ∧ mAt text lim a = some e
  | 0, _, _, _, h => by cases h
  | k + 1, s, a, e, h => by
    unfold mFrom at h
    split at h
    · rename_i e' hm
      cases h
      exact ⟨Nat.le_refl _, hm⟩
    · have := mFrom_some h
      exact ⟨by omega, this.2⟩
theorem mFrom_short {text : Array Nat} {lim s : Nat} (h : lim - s < 2) (k : Nat) : mFrom text lim k s = none := by
  cases hm : mFrom text lim k s with
  | none => rfl
  | some x =>
    obtain ⟨a, e⟩ := x
    have h1 := mFrom_some hm
    have h2 := mAt_some h1.2
    omega
theorem search_runs {s : Nat} (hs : s ≤ lim) : ∃ n m', n ≤ (10 * lim + 30) * (lim + 1) + 1 ∧ Go n (Sre.forSearch CODE text 0 s lim false) m' ∧
    (match mFrom text lim (lim + 1) s with
      | some (a, e) => m'.outcome = some .matched ∧ m'.start = a ∧ m'.handed = e
      | none => m'.outcome = some .failed) := by
  by_cases h : lim - s < 2
  · rw [mFrom_short h]
    have e : Sre.forSearch CODE text 0 s lim false = M.say { code := CODE, text, lim, start := s, pc := 9, pos := s, handed := s, marks := #[], seen := ({} : Sre.Seen).add 14 } false := by
      unfold Sre.forSearch
      have e1 : (Sre.header CODE).1 = 2 := by decide
      simp only [e1]
      rw [if_pos (by simp [h])]
      rfl
    rw [e]
    exact ⟨_, _, by omega, fin_goes (b := false) rfl rfl rfl, rfl⟩
  · have e : Sre.forSearch CODE text 0 s lim false = st text lim lim s s 9 s true #[] none [fs s true] none (({} : Sre.Seen).add 14) := by
      unfold Sre.forSearch
      have e1 : (Sre.header CODE).1 = 2 := by decide
      simp only [e1]
      rw [if_neg (by simp; omega)]
      rfl
    rw [e]
    obtain ⟨n, m', hn, g, hm⟩ := search_goes (text := text) (lim := lim) (lim + 1) s s true (({} : Sre.Seen).add 14) (by omega) hs
    exact ⟨n, m', by omega, g, hm⟩
end
end Rx
end Mine
end
section
open PySem PySem.W PySem.Calls PyProof.Rows
set_option maxRecDepth 100000
set_option maxHeartbeats 1000000
namespace Mine
open PySem.Builtin
theorem slot_bytes_count : Slot "bytes" "count" "bytes.count" :=
  .of (owner := "bytes") (n := "count") (by rw [typeLookup_type, builtinLookup_eq_fast]; kernel_rfl) (by decide +kernel) (by decide +kernel) (by decide +kernel)
    (by first | exact .inl (by decide +kernel) | exact .inr (by decide +kernel)) (by rw [isSubtype_type]; kernel_rfl)
theorem type_bytes_count : typeOf (.builtin "bytes.count") = pure (.type "method_descriptor") := by show builtinType _ = _; rw [builtinType_eq_fast]; kernel_rfl
theorem entry_bytes_count : entryFor table "bytes.count" = some Builtin.«bytes.count» := entryFor_of_tree (by kernel_rfl)
theorem args_bytes_count_2 (a b : Value) : argsOk "bytes.count" ⟨[a, b], []⟩ := by
  unfold argsOk; rw [signature?_of (id := "bytes.count") (n := ['t', 'n', 'u', 'o', 'c']) (o := ['s', 'e', 't', 'y', 'b']) (by kernel_rfl) FB.owner_bytes]; kernel_rfl
theorem slot_pat_sub : Slot "re.Pattern" "sub" "re.Pattern.sub" :=
  .of (owner := "re.Pattern") (n := "sub") (by rw [typeLookup_type, builtinLookup_eq_fast]; kernel_rfl) (by decide +kernel) (by decide +kernel) (by decide +kernel)
    (by first | exact .inl (by decide +kernel) | exact .inr (by decide +kernel)) (by rw [isSubtype_type]; kernel_rfl)
theorem type_pat_sub : typeOf (.builtin "re.Pattern.sub") = pure (.type "method_descriptor") := by show builtinType _ = _; rw [builtinType_eq_fast]; kernel_rfl
theorem entry_pat_sub : entryFor table "re.Pattern.sub" = some Builtin.«re.Pattern.sub» := entryFor_of_tree (by kernel_rfl)
theorem entry_pat_loop : entryFor table "re.Pattern.sub.loop" = some Builtin.«re.Pattern.sub.loop» := entryFor_of_tree (by kernel_rfl)
theorem attrs_pat : PlainAttrs "re.Pattern" where
  ga := ⟨"object.__getattribute__", by rw [typeLookup_type, builtinLookup_eq_fast]; kernel_rfl, by decide +kernel⟩
  noGetattr := by rw [typeLookup_type, builtinLookup_eq_fast]; kernel_rfl

theorem extract_one (b : Array UInt8) (i : Nat) (h : i < b.size) : b.extract i (i + 1) = #[b[i]] := by
  apply Array.ext_getElem?
  intro j
  rw [Array.getElem?_extract]
  cases j with
  | zero => simp [h]; omega
  | succ j => simp; omega
theorem occ_length (b : Array UInt8) (x : UInt8) : (Bytes.occurrences b #[x] 0 b.size).length = b.toList.count x := by
  unfold Bytes.occurrences
  have key : ∀ k, k ≤ b.size → ∀ r : List Nat × Nat, r = ((List.range k).map (· + 0)).foldl (fun (acc : List Nat × Nat) (i : Nat) => if (decide (i ≥ acc.2) && b.extract i (i + (#[x] : Array UInt8).size) == #[x]) = true then (i :: acc.1, i + (#[x] : Array UInt8).size) else acc) ([], 0) →
      r.1.length = (b.toList.take k).count x ∧ r.2 ≤ k := by
    intro k
    induction k with
    | zero => intro _ r hr; subst hr; simp
    | succ k ih =>
      intro hk r hr
      rw [List.range_succ, List.map_append, List.foldl_append] at hr
      obtain ⟨h1, h2⟩ := ih (by omega) _ rfl
      generalize hg : ((List.range k).map (· + 0)).foldl _ _ = q at h1 h2 hr
      have e : b.toList.take (k + 1) = b.toList.take k ++ [b[k]] := by
        rw [List.take_add_one, List.getElem?_eq_getElem (by simp; omega)]
        simp
      rw [e, List.count_append]
      simp only [List.map_cons, List.map_nil, List.foldl_cons, List.foldl_nil, Nat.add_zero] at hr
      have e2 : b.extract k (k + (#[x] : Array UInt8).size) = #[b[k]] := extract_one b k hk
      rw [e2] at hr
      have hle : decide (k ≥ q.2) = true := by simpa using h2
      rw [hle, Bool.true_and] at hr
      by_cases hx : b[k] = x
      · rw [hx] at hr ⊢
        simp at hr
        subst hr
        simp [h1]
      · have : ((#[b[k]] : Array UInt8) == #[x]) = false := by simpa using hx
        rw [this] at hr
        simp at hr
        subst hr
        simp [h1, hx]
        omega
  have := (key b.size (Nat.le_refl _) _ rfl).1
  rw [List.length_reverse]
  have e : b.size + 1 - (0 + (#[x] : Array UInt8).size) = b.size := by simp
  rw [e]
  rw [show b.toList.take b.size = b.toList by rw [List.take_of_length_le]; simp] at this
  exact this
section
variable {prog : Program} {w : World} {A : Around} {E : Value → Shared → Prop} {s : Shared} {b c : Array UInt8} {t u : Tok}
theorem meth_count {pl : Sem Bool} {Q : Value × List Value → Shared → Prop} (h : Q (.builtin "bytes.count", [.bytes b t]) s) : wpAny (model prog w) A (getMethod (.bytes b t) "count" pl) Q E s :=
  getMethod_builtin (typeIs_bytes s b t) FB.plainAttrs_bytes slot_bytes_count type_bytes_count (fun a e => by cases e) h
theorem meth_sub {a : Addr} {o : Obj} {pl : Sem Bool} {Q : Value × List Value → Shared → Prop} (ho : s.heap.get? a = some o) (hc : o.cls = .type "re.Pattern") (hd : o.dict = none) (h : Q (.builtin "re.Pattern.sub", [.ref a]) s) : wpAny (model prog w) A (getMethod (.ref a) "sub" pl) Q E s :=
  getMethod_builtin ⟨o, ho, hc⟩ attrs_pat slot_pat_sub type_pat_sub (fun a' e => by cases e; exact ⟨o, ho, hd⟩) h
theorem call_count {x : UInt8} {Q : Value → Shared → Prop} (h : Q (.int ((Bytes.occurrences b #[x] 0 b.size).length) s.toks) { s with toks := s.toks + 1 }) : wpAny (model prog w) A (call (.builtin "bytes.count") [.bytes b t, .bytes #[x] u]) Q E s := by
  refine wpAny_call_entry slot_bytes_count (typeIs_bytes s b t) entry_bytes_count ?_ (args_bytes_count_2 _ _)
  show wpAny _ _ (Bytes.searchArgs .bytes "count" ⟨[.bytes b t, .bytes #[x] u], []⟩ >>= fun r => _) _ _ s
  refine wpAny_bind ?_
  unfold Bytes.searchArgs
  refine wpAny_bind (wpAny_of_eq (a := (.bytes b t, [.bytes #[x] u])) (by kernel_rfl) ?_)
  refine wpAny_bind (wpAny_of_eq (a := none) (by rfl) ?_)
  refine wpAny_bind (wpAny_of_eq (a := none) (by rfl) ?_)
  show wpAny _ _ (Bytes.buffer? _ (.bytes #[x] u) >>= fun r => _) _ _ s
  refine wpAny_bind (wpAny_of_eq KBy.buffer_eq ?_)
  refine wpAny_bind (wpAny_of_eq (a := #[x]) rfl ?_)
  refine wpAny_bind (wpAny_of_eq (a := b) rfl ?_)
  have e : Bytes.window b.size none none = (0, (b.size : Int)) := by
    simp only [Bytes.window, Option.getD_none]
    rw [if_neg (by omega), if_neg (by omega)]
    congr 1; omega
  rw [e]
  dsimp only
  by_cases hb : b.size = 0
  · have hb' : b = #[] := Array.eq_empty_of_size_eq_zero hb
    subst hb'
    refine wpAny_pure ?_
    exact wpAny_bind (wpAny_mkInt (wpAny_pure ⟨_, rfl, h⟩))
  · have hn : ¬ ((b.size : Int) - 0 < ((#[x] : Array UInt8).size : Int)) := by simp; omega
    rw [if_neg hn]
    refine wpAny_pure ?_
    exact wpAny_bind (wpAny_mkInt (wpAny_pure ⟨_, rfl, h⟩))
end
end Mine
end
section
open PySem PySem.W PySem.Calls PyProof.Rows
set_option maxRecDepth 100000
set_option maxHeartbeats 1000000
namespace Mine
open PySem.Builtin PySem.Builtin.Re
noncomputable def txt (b : Array UInt8) : Array Nat := b.map (·.toNat)
noncomputable def tgt (b : Array UInt8) (t : Tok) : ReTarget := { pattern := .ref 36, string := .bytes b t, code := Rx.CODE, text := txt b, kind := 1, groups := 0, pos := 0, lim := (txt b).size }
structure Pat (h : Heap) : Prop where
  p : ∃ u v, h.get? 36 = some ⟨.type "re.Pattern", none, .fields #[.bytes #[34, 40, 63, 58, 91, 94, 34, 92, 92, 93, 124, 92, 92, 46, 41, 42, 43, 34] u, .int 0 v, .int 0 0, .none, .none, .ref 35, .int 1 0], #[]⟩
  c : h.get? 35 = some ⟨.type "tuple", none, .seq (Rx.CODE.map fun (i : Nat) => Value.int (i : Int) 0) 0, #[]⟩
theorem Pat.of {w : World} {h : Heap} (X : (K w.params).In h) : Pat h := ⟨⟨_, _, X 36 _ rfl⟩, X 35 _ (by kernel_rfl)⟩
theorem Pat.keeps {h h' : Heap} (x : Pat h) (k : ∀ b o, h.get? b = some o → h'.get? b = some o) : Pat h' := ⟨let ⟨u, v, e⟩ := x.p; ⟨u, v, k _ _ e⟩, k _ _ x.c⟩
section
variable {prog : Program} {w : World} {A : Around} {E : Value → Shared → Prop} {s : Shared} {b : Array UInt8} {t u : Tok}
theorem asStr_bytes : asStr? (.bytes b t) = pure none := rfl
theorem textOf_eq : reTextOf (.bytes b t) = pure (txt b, 1) := by
  unfold reTextOf
  rw [asStr_bytes, KBy.quiet_eq]
  rfl
theorem noColl_eq : reNoCollectionInside (.bytes b t) 1 = pure () := by
  unfold reNoCollectionInside
  rw [KBy.isInstance_eq]
  rfl
theorem litOk_eq : reLiteralCannotBeTurned (.bytes b t) = pure () := by
  unfold reLiteralCannotBeTurned
  rw [asStr_bytes, KBy.isInstance_eq]
  rfl
theorem code_eq : (((Rx.CODE.map fun (i : Nat) => Value.int (i : Int) 0) : Array Value).map reRawOf).map (·.toNat) = Rx.CODE := by decide +kernel
theorem wholeTarget {Q : ReTarget → Shared → Prop} (P : Pat s.heap) (h : Q (tgt b t) s) : wpAny (model prog w) A (reWholeTarget (.ref 36) (.bytes b t)) Q E s := by
  obtain ⟨u, v, hp⟩ := P.p
  unfold reWholeTarget
  refine wpAny_bind (wpAny_fieldsOf hp rfl ?_)
  refine wpAny_bind (wpAny_of_eq textOf_eq ?_)
  dsimp only
  have e : reRawNat ((#[.bytes #[34, 40, 63, 58, 91, 94, 34, 92, 92, 93, 124, 92, 92, 46, 41, 42, 43, 34] u, .int 0 v, .int 0 0, .none, .none, .ref 35, .int 1 0] : Array Value).getD 6 .none) = 1 := rfl
  rw [e]
  simp only [Nat.reduceBEq, Bool.false_and, Bool.and_false, if_false, Bool.false_eq_true]
  refine wpAny_bind (wpAny_of_eq noColl_eq ?_)
  have e5 : (#[.bytes #[34, 40, 63, 58, 91, 94, 34, 92, 92, 93, 124, 92, 92, 46, 41, 42, 43, 34] u, .int 0 v, .int 0 0, .none, .none, .ref 35, .int 1 0] : Array Value).getD 5 .none = .ref 35 := rfl
  rw [e5]
  refine wpAny_bind ?_
  unfold reRawItems
  refine wpAny_bind (wpAny_seqItems P.c rfl (wpAny_pure ?_))
  refine wpAny_pure ?_
  have e6 : Array.map (fun x => x.toNat) (Array.map reRawOf ((some (Rx.CODE.map fun (i : Nat) => Value.int (i : Int) 0)).getD #[])) = Rx.CODE := code_eq
  rw [e6]
  exact h
end

theorem forRules {α : Type} {M : Model} {A : Around} {E : Value → Shared → Prop} {s : Shared} (p : α → Bool) (f : α → String) {Q : PUnit → Shared → Prop} (h : Q ⟨⟩ s) : ∀ l : List α,
    wpAny M A (forIn l PUnit.unit fun i _ => if p i = true then (rule (f i) >>= fun _ => pure (ForInStep.yield PUnit.unit)) else pure (ForInStep.yield PUnit.unit)) Q E s
  | [] => wpAny_pure h
  | a :: l => by
    rw [List.forIn_cons]
    refine wpAny_bind ?_
    by_cases hp : p a = true
    · rw [if_pos hp]
      exact wpAny_bind (wpAny_rule (wpAny_pure (forRules p f h l)))
    · rw [if_neg hp]
      exact wpAny_pure (forRules p f h l)
theorem drive {M : Model} {A : Around} {E : Value → Shared → Prop} {s : Shared} {m' : Sre.M} {Q : Sre.M → Shared → Prop} (hm : m'.outcome.isSome = true) (h : Q m' s) :
    ∀ (turns n : Nat) (m : Sre.M), Rx.Go n m m' → n ≤ 4 * turns → 0 < turns → wpAny M A (reDrive turns m) Q E s
  | 0, _, _, _, _, h0 => absurd h0 (Nat.lt_irrefl _)
  | turns + 1, n, m, g, hn, _ => by
    unfold reDrive
    have stay : ∀ k, Rx.Go k m' m' := fun k => Rx.runFor_of_some hm
    show wpAny M A (if (m.runFor 4).outcome.isSome = true then pure (m.runFor 4) else (rule "sre.turn" >>= fun _ => reDrive turns (m.runFor 4))) Q E s
    by_cases h4 : n ≤ 4
    · have e : m.runFor 4 = m' := by
        have := g.trans (stay (4 - n))
        rw [show n + (4 - n) = 4 by omega] at this
        exact this
      rw [e, if_pos hm]
      exact wpAny_pure h
    · have g' : Rx.Go (n - 4) (m.runFor 4) m' := by
        have g2 : Rx.Go (4 + (n - 4)) m m' := by rw [show 4 + (n - 4) = n by omega]; exact g
        unfold Rx.Go at g2 ⊢
        rw [Rx.runFor_add] at g2
        exact g2
      by_cases h5 : (m.runFor 4).outcome.isSome = true
      · have e : m.runFor 4 = m' := by
          have := Rx.runFor_of_some (b := n - 4) h5
          unfold Rx.Go at g'
          rw [this] at g'
          exact g'
        rw [e, if_pos hm]
        exact wpAny_pure h
      · rw [if_neg h5]
        exact wpAny_bind (wpAny_rule (drive hm h turns (n - 4) _ g' (by omega) (by omega)))
theorem runToEnd {M : Model} {A : Around} {E : Value → Shared → Prop} {s : Shared} {m m' : Sre.M} {n : Nat} {Q : Option Sre.M → Shared → Prop} (g : Rx.Go n m m') (hn : n ≤ 2 ^ 64) (ho : (m'.outcome = some .matched ∧ Q (some m') s) ∨ (m'.outcome = some .failed ∧ Q none s)) :
    wpAny M A (reRunToEnd m) Q E s := by
  unfold reRunToEnd
  refine wpAny_bind (drive (m' := m') (by rcases ho with h | h <;> rw [h.1] <;> rfl) ?_ (2 ^ 64) n m g (by omega) (by decide))
  refine wpAny_bind ?_
  refine forRules (fun i => m'.seen.has i) (fun i => Sre.names.getD i "") ?_ _
  rcases ho with h | h
  · rw [h.1]; exact wpAny_pure h.2
  · rw [h.1]; exact wpAny_pure h.2
theorem nextFound {M : Model} {A : Around} {E : Value → Shared → Prop} {s : Shared} {b : Array UInt8} {t : Tok} {start : Nat} {Q : Option Sre.M → Shared → Prop} (hs : start ≤ (txt b).size) (hsz : (txt b).size ≤ 2 ^ 24)
    (h : match Rx.mFrom (txt b) (txt b).size ((txt b).size + 1) start with
      | some (a, e) => ∀ m : Sre.M, m.start = a → m.handed = e → Q (some m) s
      | none => Q none s) : wpAny M A (reNextFound (tgt b t) start false) Q E s := by
  obtain ⟨n, m', hn, g, hm⟩ := Rx.search_runs (text := txt b) (lim := (txt b).size) hs
  unfold reNextFound
  have hn' : n ≤ 2 ^ 64 := by
    have h1 : (10 * (txt b).size + 30) * ((txt b).size + 1) ≤ (10 * 2 ^ 24 + 30) * (2 ^ 24 + 1) := Nat.mul_le_mul (by omega) (by omega)
    have h2 : (10 * 2 ^ 24 + 30) * (2 ^ 24 + 1) + 1 ≤ 2 ^ 64 := by decide
    omega
  refine runToEnd g hn' ?_
  cases hf : Rx.mFrom (txt b) (txt b).size ((txt b).size + 1) start with
  | none =>
    rw [hf] at hm h
    exact .inr ⟨hm, h⟩
  | some x =>
    obtain ⟨a, e⟩ := x
    rw [hf] at hm h
    exact .inl ⟨hm.1, h _ hm.2.1 hm.2.2⟩

/-- what is left behind the place done: the octets outside of the matches -/
noncomputable def rem (b : Array UInt8) : Nat → Nat → List UInt8
  | 0, done => (b.extract done b.size).toList
  | k + 1, done => match Rx.mFrom (txt b) (txt b).size ((txt b).size + 1) done with
    | some (a, e) => (b.extract done a).toList ++ rem b k e
    | none => (b.extract done b.size).toList
/-- bytes values of the given octets -/
inductive BytesAre : List Value → List (List UInt8) → Prop
  | nil : BytesAre [] []
  | cons (b : Array UInt8) (t : Tok) {vs ps} : BytesAre vs ps → BytesAre (.bytes b t :: vs) (b.toList :: ps)
theorem BytesAre.append : ∀ {vs ws : List Value} {ps qs : List (List UInt8)}, BytesAre vs ps → BytesAre ws qs → BytesAre (vs ++ ws) (ps ++ qs)
  | _, _, _, _, .nil, h => h
  | _, _, _, _, .cons b t r, h => .cons b t (r.append h)
theorem BytesAre.length : ∀ {vs : List Value} {ps : List (List UInt8)}, BytesAre vs ps → vs.length = ps.length
  | _, _, .nil => rfl
  | _, _, .cons _ _ r => congrArg (· + 1) r.length
theorem slice_eq {b : Array UInt8} {i j : Nat} : reSlice (txt b) 1 i j = mkBytes (b.extract i j) := by
  unfold reSlice txt
  show mkBytes _ = _
  congr 1
  apply Array.ext_getElem?
  intro k
  simp only [Array.getElem?_map, Array.getElem?_extract, Array.size_map]
  split
  · cases b[i + k]? <;> simp
  · rfl

/-- the ledger's list of what is kept -/
structure Lst (g : Heap) (l : Addr) (vs : List Value) (n : Nat) (s : Shared) : Prop where
  k : ∀ b o, g.get? b = some o → s.heap.get? b = some o
  f : g.get? l = none
  o : s.heap.get? l = some (PySem.W.listOf vs.toArray n)
theorem Lst.push {g : Heap} {l : Addr} {vs : List Value} {n : Nat} {s : Shared} {x : Value} {M : Model} {A : Around} {E : Value → Shared → Prop} {Q : Unit → Shared → Prop} (L : Lst g l vs n s) (hz : vs.length ≤ 2 ^ 20)
    (h : ∀ h', Lst g l (vs ++ [x]) (n + 1) { s with heap := h' } → Q () { s with heap := h' }) : wpAny M A (updateSeq l (·.push x)) Q E s := by
  refine wpAny_updateSeq L.o rfl (h _ ⟨fun b o e => ?_, L.f, ?_⟩) (by rw [List.size_toArray]; exact Nat.le_trans hz (by decide)) (by rw [Array.size_push, List.size_toArray]; exact Nat.succ_le_succ (Nat.le_trans hz (by decide)))
  · have hne : b ≠ l := by rintro rfl; rw [L.f] at e; cases e
    exact (Heap.get?_update_ne _ _ _ _ hne).trans (L.k _ _ e)
  · rw [Heap.get?_update_self _ L.o rfl]
    simp only [PySem.W.listOf, Obj.mapSeq, List.push_toArray]
    rw [if_neg (by simp)]
theorem Lst.toks {g : Heap} {l : Addr} {vs : List Value} {n : Nat} {s : Shared} (L : Lst g l vs n s) (k : Nat) : Lst g l vs n { s with toks := k } := ⟨L.k, L.f, L.o⟩
theorem Lst.pushSlice {g : Heap} {l : Addr} {vs : List Value} {n : Nat} {s : Shared} {b : Array UInt8} {i j : Nat} {M : Model} {A : Around} {E : Value → Shared → Prop} {Q : Unit → Shared → Prop} (L : Lst g l vs n s) (hz : vs.length ≤ 2 ^ 20) (hb : b.size ≤ 2 ^ 20)
    (h : ∀ t h' k, Lst g l (vs ++ [.bytes (b.extract i j) t]) (n + 1) { s with heap := h', toks := k } → Q () { s with heap := h', toks := k }) :
    wpAny M A (do let x ← reSlice (txt b) 1 i j; updateSeq l (·.push x)) Q E s := by
  rw [slice_eq]
  refine wpAny_bind (wpAny_mkBytes ?_ ?_)
  · exact (L.toks _).push hz fun h' L' => h _ _ _ L'
  · rw [Array.size_extract]; exact Nat.le_trans (Nat.le_trans (Nat.sub_le _ _) (Nat.le_trans (Nat.min_le_right _ _) hb)) (by decide)
end Mine
end
section
open PySem PySem.W PySem.Calls PyProof.Rows
set_option maxRecDepth 100000
set_option maxHeartbeats 1000000
namespace Mine
open PySem.Builtin
theorem slot_bytes_join : Slot "bytes" "join" "bytes.join" :=
  .of (owner := "bytes") (n := "join") (by rw [typeLookup_type, builtinLookup_eq_fast]; kernel_rfl) (by decide +kernel) (by decide +kernel) (by decide +kernel)
    (by first | exact .inl (by decide +kernel) | exact .inr (by decide +kernel)) (by rw [isSubtype_type]; kernel_rfl)
theorem type_bytes_join : typeOf (.builtin "bytes.join") = pure (.type "method_descriptor") := by show builtinType _ = _; rw [builtinType_eq_fast]; kernel_rfl
theorem entry_bytes_join : entryFor table "bytes.join" = some Builtin.«bytes.join» := entryFor_of_tree (by kernel_rfl)
theorem args_bytes_join_2 (a b : Value) : argsOk "bytes.join" ⟨[a, b], []⟩ := by
  unfold argsOk; rw [signature?_of (id := "bytes.join") (n := ['n', 'i', 'o', 'j']) (o := ['s', 'e', 't', 'y', 'b']) (by kernel_rfl) FB.owner_bytes]; kernel_rfl
theorem forIn_inv {β : Type} {M : Model} {A : Around} {E : Value → Shared → Prop} {s : Shared} {Q : β → Shared → Prop} (body : Nat → β → Sem (ForInStep β)) (N : Nat) (I : Nat → β → Prop)
    (step : ∀ i st, i < N → I i st → wpAny M A (body i st) (fun r s' => s' = s ∧ ∃ st', r = .yield st' ∧ I (i + 1) st') E s) (h : ∀ st, I N st → Q st s) :
    ∀ k i st, i + k = N → I i st → wpAny M A (forIn (List.range' i k) st body) Q E s
  | 0, i, st, e, hi => by
    have : i = N := by omega
    subst this
    exact wpAny_pure (h st hi)
  | k + 1, i, st, e, hi => by
    rw [List.range'_succ, List.forIn_cons]
    refine wpAny_bind (wpAny_mono (step i st (by omega) hi) (fun r s' hr => ?_) fun _ _ x => x)
    obtain ⟨rfl, st', rfl, hI⟩ := hr
    exact forIn_inv body N I step h k (i + 1) st' (by omega) hI
theorem BytesAre.at : ∀ {vs : List Value} {ps : List (List UInt8)}, BytesAre vs ps → ∀ i, i < vs.length → ∃ b t, vs[i]? = some (.bytes b t) ∧ ps[i]? = some b.toList
  | _, _, .nil, i, h => absurd h (Nat.not_lt_zero _)
  | _, _, .cons b t r, i, h => by
    cases i with
    | zero => exact ⟨b, t, rfl, rfl⟩
    | succ i => exact r.at i (Nat.lt_of_succ_lt_succ h)
noncomputable def bytesOnly (l : List (Value × Option Value)) : Prop := ∀ p ∈ l, ∃ b t, p = (.bytes b t, none)
theorem noHeap {l : List (Value × Option Value)} (h : bytesOnly l) : (l.any fun x => x.1.onHeap) = false := by
  rw [List.any_eq_false]
  intro p hp
  obtain ⟨b, t, rfl⟩ := h p hp
  simp [Value.onHeap]
theorem letGo_any {M : Model} {A : Around} {E : Value → Shared → Prop} {s : Shared} {keep : List Value} {Q : Unit → Shared → Prop} (h : Q () s) : ∀ l : List Value, wpAny M A (letGo l keep) Q E s
  | [] => wpAny_pure h
  | _ :: r => wpAny_bind (wpAny_holding (wpAny_point (letGo_any h r)))
theorem joinLetGo_any {M : Model} {A : Around} {E : Value → Shared → Prop} {s : Shared} {keep : List Value} {Q : Unit → Shared → Prop} (h : Q () s) : ∀ l : List (Value × Option Value), bytesOnly l → wpAny M A (Bytes.joinLetGo l keep) Q E s
  | [], _ => wpAny_pure h
  | p :: r, hb => by
    obtain ⟨b, t, rfl⟩ := hb p (.head _)
    show wpAny M A (letGo _ _ >>= fun _ => _) Q E s
    exact wpAny_bind (letGo_any (joinLetGo_any h r fun q hq => hb q (.tail _ hq)) _)
theorem sum_sizes (p : List (Array UInt8)) : ∀ a, p.foldl (fun x y => x + y.size) a = a + (p.map (·.toList)).flatten.length := by
  induction p with
  | nil => intro a; simp
  | cons x r ih => intro a; simp only [List.foldl_cons, ih, List.map_cons, List.flatten_cons, List.length_append, Array.length_toList]; omega
theorem joined_nil (p : List (Array UInt8)) : (Bytes.joined #[] p).toList = (p.map (·.toList)).flatten := by
  unfold Bytes.joined
  have key : ∀ (l : List (Array UInt8 × Nat)) (a : Array UInt8), (l.foldl (fun out (q : Array UInt8 × Nat) => (if q.2 > 0 then out ++ #[] else out) ++ q.1) a).toList = a.toList ++ (l.map (·.1.toList)).flatten := by
    intro l
    induction l with
    | nil => intro a; simp
    | cons x r ih =>
      intro a
      rw [List.foldl_cons, ih]
      split <;> simp
  have := key p.zipIdx #[]
  rw [show (fun (x : Array UInt8) (y : Array UInt8 × Nat) => match y with | (p, i) => (if i > 0 then x ++ #[] else x) ++ p) = fun out (q : Array UInt8 × Nat) => (if q.2 > 0 then out ++ #[] else out) ++ q.1 from rfl, this]
  simp only [List.nil_append]
  congr 1
  rw [show (fun x : Array UInt8 × Nat => x.1.toList) = (fun x : Array UInt8 => x.toList) ∘ Prod.fst from rfl, ← List.map_map, List.zipIdx_map_fst]
section
variable {prog : Program} {w : World} {A : Around} {E : Value → Shared → Prop} {s : Shared} {b c : Array UInt8} {t u : Tok}
theorem meth_join {pl : Sem Bool} {Q : Value × List Value → Shared → Prop} (h : Q (.builtin "bytes.join", [.bytes b t]) s) : wpAny (model prog w) A (getMethod (.bytes b t) "join" pl) Q E s :=
  getMethod_builtin (typeIs_bytes s b t) FB.plainAttrs_bytes slot_bytes_join type_bytes_join (fun a e => by cases e) h
theorem take_eq {id : String} : Bytes.takeBuffer? id (.bytes b t) 0 = pure (some (b, none)) := by
  unfold Bytes.takeBuffer?
  rw [KBy.special_eq KBy.look_buffer, KBy.own_buffer]
  show (Bytes.buffer? id (.bytes b t) >>= fun r => _) = _
  rw [KBy.buffer_eq]
  rfl
theorem takeQ_eq {id : String} : Bytes.takeBufferQuiet? id (.bytes b t) 0 = pure (some (b, none)) := by
  unfold Bytes.takeBufferQuiet?
  rw [take_eq]
  rfl
theorem call_join {l : Addr} {vs : List Value} {ps : List (List UInt8)} {n : Nat} {Q : Value → Shared → Prop} (ho : s.heap.get? l = some (PySem.W.listOf vs.toArray n)) (hb : BytesAre vs ps) (hz : ps.flatten.length ≤ 2 ^ 20)
    (h : ∀ r t k, r.toList = ps.flatten → Q (.bytes r t) { s with toks := k }) : wpAny (model prog w) A (call (.builtin "bytes.join") [.bytes #[] t, .ref l]) Q E s := by
  refine wpAny_call_entry slot_bytes_join (typeIs_bytes s _ t) entry_bytes_join ?_ (args_bytes_join_2 _ _)
  show wpAny _ _ (Bytes.joinM .bytes ⟨[.bytes #[] t, .ref l], []⟩) _ _ s
  unfold Bytes.joinM
  refine wpAny_bind (wpAny_of_eq (a := (.bytes #[] t, .ref l)) rfl ?_)
  dsimp only
  have hT : s.TypeIs (.ref l) "list" := ⟨_, ho, rfl⟩
  refine wpAny_bind (m := Bytes.joinItems (.ref l)) (wpAny_bind (wpAny_typeOf hT ?_))
  refine wpAny_of_eq (a := .ref l) (by rfl) ?_
  refine wpAny_bind (wpAny_seqItems ho rfl ?_)
  dsimp only
  rw [if_pos (by rfl)]
  have one : ∀ x, vs = [x] → ∃ b t', x = .bytes b t' ∧ ps = [b.toList] := by
    rintro x rfl
    cases hb with
    | cons b t' r => cases r; exact ⟨b, t', rfl, rfl⟩
  rcases vs with _ | ⟨x, _ | ⟨y, r⟩⟩
  rotate_left
  · obtain ⟨b, t', rfl, rfl⟩ := one x rfl
    show wpAny _ _ (typeOf _ >>= fun r => _) _ _ s
    refine wpAny_bind (wpAny_typeOf (typeIs_bytes s b t') ?_)
    rw [if_pos (by rfl)]
    refine wpAny_bind (wpAny_rule ?_)
    have := h b t' s.toks (by simp)
    exact wpAny_pure ⟨_, rfl, this⟩
  all_goals
    show wpAny _ _ (forIn _ _ _ >>= fun r => _) _ _ s
    clear one
  all_goals
    first | (generalize hv : x :: y :: r = vs at *) | (generalize hv : ([] : List Value) = vs at *)
    clear hv
    refine wpAny_bind ?_
    rw [Std.Legacy.Range.forIn_eq_forIn_range']
    refine forIn_inv _ vs.length (fun i st => st.1.toList.map (·.toList) = ps.take i ∧ bytesOnly st.2) ?_ ?_ _ 0 _ (by simp) (by exact ⟨by simp, fun p hp => nomatch hp⟩)
    · rintro i ⟨p1, p2⟩ hi ⟨h1, h2⟩
      dsimp only at h1 h2 ⊢
      refine wpAny_bind (wpAny_seqItems ho rfl ?_)
      dsimp only
      obtain ⟨b, tb, e1, e2⟩ := hb.at i hi
      have e3 : vs.toArray.getD i .none = .bytes b tb := by simp [e1]
      rw [e3, noHeap h2]
      show wpAny _ _ (holding _ _ >>= fun r => _) _ _ s
      refine wpAny_bind (wpAny_holding (wpAny_of_eq takeQ_eq ?_))
      refine wpAny_bind (wpAny_seqItems ho rfl ?_)
      dsimp only
      rw [if_neg (by simp)]
      refine wpAny_pure ⟨rfl, _, rfl, ?_, ?_⟩
      · simp only [Array.toList_push, List.map_append, h1, List.map_cons, List.map_nil]
        rw [List.take_add_one, e2]
        rfl
      · intro p hp
        rcases List.mem_append.mp hp with hp | hp
        · exact h2 p hp
        · exact ⟨b, tb, List.mem_singleton.mp hp⟩
    · rintro ⟨p1, p2⟩ ⟨h1, h2⟩
      dsimp only at h1 h2 ⊢
      have hps : List.map (fun x => x.toList) p1.toList = ps := by rw [h1, hb.length, List.take_length]
      refine wpAny_bind (wpAny_of_eq (a := #[]) rfl ?_)
      have hl : Array.foldl (fun x1 (x2 : Array UInt8) => x1 + x2.size) ((#[] : Array UInt8).size * (p1.size - 1)) p1 = ps.flatten.length := by
        rw [← Array.foldl_toList, sum_sizes, hps]; simp
      rw [hl, KBy.tooLong_not (Nat.le_trans hz (by decide)), if_neg Bool.false_ne_true]
      have hj : (Bytes.joined #[] p1.toList).toList = ps.flatten := by rw [joined_nil, hps]
      refine wpAny_bind (wpAny_mkBytes (b := Bytes.joined #[] p1.toList) ?_ (by rw [← Array.length_toList, hj]; exact Nat.le_trans hz (by decide)))
      refine wpAny_bind (wpAny_holding (wpAny_point ?_))
      refine wpAny_bind (joinLetGo_any ?_ _ h2)
      exact wpAny_pure ⟨_, rfl, h _ _ _ hj⟩
end
end Mine
end
section
open PySem PySem.W PySem.Calls PyProof.Rows
set_option maxRecDepth 100000
set_option maxHeartbeats 1000000
namespace Mine
open PySem.Builtin PySem.Builtin.Re
theorem look_call_bytes : typeLookup (.type "bytes") "__call__" = pure none := by rw [typeLookup_type, builtinLookup_eq_fast]; kernel_rfl
theorem named_eq (a b : Value) : reNamed "re.Pattern.sub" "sub" ["repl", "string", "count"] 2 [a, b] [] = pure [some a, some b, none] := by kernel_rfl
theorem args_pat_sub (a b c : Value) : argsOk "re.Pattern.sub" ⟨[a, b, c], []⟩ := by
  unfold argsOk; kernel_rfl
section
variable {prog : Program} {w : World} {A : Around} {E : Value → Shared → Prop} {s : Shared} {b c : Array UInt8} {t u : Tok}
noncomputable def loopArgs (b : Array UInt8) (t u : Tok) (n done : Int) (l : Addr) : Args := ⟨[.ref 36, .bytes b t, .bytes #[] u, rawInt 0, rawInt 0, rawInt n, rawInt done, rawInt done, .bool false, .ref l, .bool false], []⟩
theorem sub_loop {g : Heap} {l : Addr} {R : Result → Shared → Prop} (Pg : Pat g) (hb : b.size ≤ 2 ^ 18) :
    ∀ (k done : Nat) (n : Int) (vs : List Value) (ps : List (List UInt8)) (ep : Nat) (s : Shared), b.size - done < k → done ≤ b.size → Lst g l vs ep s → BytesAre vs ps → vs.length ≤ 2 * done → ps.flatten.length ≤ done →
      (∀ r t' h' k', r.toList = ps.flatten ++ rem b k done → (∀ a o, g.get? a = some o → h'.get? a = some o) → R (.ok (.ret (.bytes r t'))) { s with heap := h', toks := k' }) →
      codeAny (model prog w) A (.builtin "re.Pattern.sub.loop" (loopArgs b t u n done l)) R s
  | 0, _, _, _, _, _, _, h, _, _, _, _, _, _ => by omega
  | k + 1, done, n, vs, ps, ep, s, hk, hd, L, hv, hlen, hfl, hR => by
    refine codeAny_builtin entry_pat_loop ?_
    show wpAny _ _ (reWholeTarget (.ref 36) (.bytes b t) >>= fun r => _) _ _ s
    refine wpAny_bind (wholeTarget (Pg.keeps L.k) ?_)
    rw [if_pos (by rfl)]
    refine wpAny_bind (wpAny_of_eq litOk_eq ?_)
    dsimp only
    have e0 : ((done : Nat) : Int).toNat = done := by simp
    rw [if_neg (by simp), e0]
    have hts : (txt b).size = b.size := by simp [txt]
    have hrem : rem b (k + 1) done = match Rx.mFrom (txt b) (txt b).size ((txt b).size + 1) done with
      | some (a, e) => (b.extract done a).toList ++ rem b k e
      | none => (b.extract done b.size).toList := rfl
    refine wpAny_bind (nextFound (by omega) (by omega) ?_)
    cases hf : Rx.mFrom (txt b) (txt b).size ((txt b).size + 1) done with
    | none =>
      rw [hf] at hrem
      dsimp only at hrem ⊢
      have hlim : (tgt b t).lim = b.size := hts
      have hk1 : (tgt b t).kind = 1 := rfl
      have ht1 : (tgt b t).text = txt b := rfl
      rw [hlim, hk1, ht1]
      simp only [Nat.reduceBEq, Bool.false_eq_true, if_false]
      have fin : ∀ (vs' : List Value) (ps' : List (List UInt8)) (ep' : Nat) (s' : Shared), Lst g l vs' ep' s' → BytesAre vs' ps' → ps'.flatten = ps.flatten ++ (b.extract done b.size).toList → s'.gens = s.gens → s'.drawn = s.drawn → s'.os = s.os →
          wpAny (model prog w) (A.under (Code.builtin "re.Pattern.sub.loop" (loopArgs b t u n done l))) (do
            let joiner ← reSlice (txt b) 1 0 0
            let x ← seqItems? (.ref l)
            if (x.getD #[]).isEmpty = true then (do let text ← pure joiner; ret text) else (do let text ← call (.builtin "bytes.join") [joiner, .ref l]; ret text))
            (fun fin s' => match fin with | .done f => R (.ok f) s' | .again c' => c'.quiet = true ∧ codeAny (model prog w) A c' R s') (fun e s' => R (.error e) s') s' := by
        intro vs' ps' ep' s' L' hv' hps hg hdr ho
        have key : ∀ r t' k', r.toList = ps'.flatten → R (.ok (.ret (.bytes r t'))) { s' with toks := k' } := by
          intro r t' k' hr
          have := hR r t' s'.heap k' (by rw [hr, hrem, hps]) L'.k
          obtain ⟨hh, gg, dd, tt, oo⟩ := s'
          dsimp only at hg hdr ho
          subst hg hdr ho
          exact this
        rw [slice_eq, show b.extract 0 0 = #[] by simp]
        refine wpAny_bind (wpAny_mkBytes (b := #[]) ?_ (by decide))
        refine wpAny_bind (wpAny_seqItems L'.o rfl ?_)
        have hzz : ps'.flatten.length ≤ 2 ^ 20 := by
          have hx : (b.extract done b.size).toList.length = b.size - done := by rw [Array.length_toList, Array.size_extract]; omega
          rw [hps, List.length_append, hx]; omega
        by_cases hemp : vs'.toArray.isEmpty = true
        · have hv0 : vs' = [] := by simpa using hemp
          subst hv0
          cases hv'
          exact wpAny_bind (wpAny_pure (wpAny_pure (key #[] _ _ rfl)))
        · rw [if_neg (by simpa using hemp)]
          refine wpAny_bind ?_
          refine call_join (ps := ps') (n := ep') L'.o hv' hzz fun r t' k' hr => ?_
          exact wpAny_pure (key r t' k' hr)
      by_cases hlt : done < b.size
      · rw [if_pos hlt, slice_eq]
        refine wpAny_bind (wpAny_mkBytes (b := b.extract done b.size) ?_ (by rw [Array.size_extract]; exact Nat.le_trans (by omega : _ ≤ 2 ^ 18) (by decide)))
        refine wpAny_bind ((L.toks _).push (by omega) fun h' L' => ?_)
        exact fin _ (ps ++ [(b.extract done b.size).toList]) _ _ L' (hv.append (.cons _ _ .nil)) (by simp) rfl rfl rfl
      · rw [if_neg hlt]
        exact fin vs ps ep s L hv (by rw [show b.extract done b.size = #[] by simp; omega]; simp) rfl rfl rfl
    | some x =>
      obtain ⟨a, e⟩ := x
      rw [hf] at hrem
      dsimp only at hrem ⊢
      rintro m rfl rfl
      have h1 := Rx.mFrom_some hf
      have h2 := Rx.mAt_some h1.2
      have hx : (b.extract done m.start).toList.length = m.start - done := by rw [Array.length_toList, Array.size_extract]; omega
      have hms : (m.handed == m.start) = false := by rw [beq_eq_false_iff_ne]; omega
      have tail : ∀ (vs' : List Value) (ps' : List (List UInt8)) (ep' : Nat) (s' : Shared), Lst g l vs' ep' s' → BytesAre vs' ps' → ps'.flatten = ps.flatten ++ (b.extract done m.start).toList → vs'.length ≤ vs.length + 1 → s'.gens = s.gens → s'.drawn = s.drawn → s'.os = s.os →
          wpAny (model prog w) (A.under (Code.builtin "re.Pattern.sub.loop" (loopArgs b t u n done l))) (updateSeq l (fun x => x.push (Value.bytes #[] u)) >>= fun _ => again (Code.builtin "re.Pattern.sub.loop" (loopArgs b t u (n + 1) m.handed l)))
            (fun fin s' => match fin with | .done f => R (.ok f) s' | .again c' => c'.quiet = true ∧ codeAny (model prog w) A c' R s') (fun e s' => R (.error e) s') s' := by
        intro vs' ps' ep' s' L' hv' hps hl' hg hdr ho
        refine wpAny_bind (L'.push (by omega) fun h' L'' => ?_)
        refine wpAny_pure ⟨plainId_quiet (by decide +kernel) _, ?_⟩
        refine sub_loop Pg hb k m.handed (n + 1) (vs' ++ [.bytes #[] u]) (ps' ++ [[]]) _ _ (by omega) (by omega) L'' (hv'.append (.cons _ _ .nil)) (by simp; omega) ?_ ?_
        · rw [List.flatten_append, hps, List.length_append, List.length_append, hx]
          simp only [List.flatten_cons, List.flatten_nil, List.append_nil, List.length_nil]
          omega
        · intro r t' h'' k' hr hk'
          have := hR r t' h'' k' (by rw [hr, hrem, List.flatten_append, hps]; simp) hk'
          obtain ⟨hh, gg, dd, tt, oo⟩ := s'
          dsimp only at hg hdr ho
          subst hg hdr ho
          exact this
      have hk1 : (tgt b t).kind = 1 := rfl
      have ht1 : (tgt b t).text = txt b := rfl
      rw [hk1, ht1, hms]
      by_cases hlt : done < m.start
      · rw [if_pos hlt, slice_eq]
        refine wpAny_bind (wpAny_mkBytes (b := b.extract done m.start) ?_ (by rw [← Array.length_toList, hx]; exact Nat.le_trans (Nat.le_trans (Nat.sub_le _ _) (by omega : m.start ≤ 2 ^ 18)) (by decide)))
        refine wpAny_bind ((L.toks _).push (by omega) fun h' L' => ?_)
        rw [if_pos (by rfl)]
        refine wpAny_bind (wpAny_pure ?_)
        rw [if_pos (by rfl)]
        exact tail _ (ps ++ [(b.extract done m.start).toList]) _ _ L' (hv.append (.cons _ _ .nil)) (by simp) (by simp) rfl rfl rfl
      · rw [if_neg hlt]
        rw [if_pos (by rfl)]
        refine wpAny_bind (wpAny_pure ?_)
        rw [if_pos (by rfl)]
        have he : done = m.start := by omega
        refine tail vs ps ep s L hv (by rw [he]; simp) (by omega) rfl rfl rfl

theorem call_sub {Q : Value → Shared → Prop} (P : Pat s.heap) (hb : b.size ≤ 2 ^ 18)
    (h : ∀ r t' s', r.toList = rem b (b.size + 1) 0 → After s s' → Q (.bytes r t') s') : wpAny (model prog w) A (call (.builtin "re.Pattern.sub") [.ref 36, .bytes #[] u, .bytes b t]) Q E s := by
  obtain ⟨pu, pv, hp⟩ := P.p
  have hT : s.TypeIs (.ref 36) "re.Pattern" := ⟨_, hp, rfl⟩
  refine wpAny_call (codeAny_call_builtin slot_pat_sub.plain entry_pat_sub (slot_pat_sub.check _ _ _ _ _ _ _ _ hT (args_pat_sub _ _ _) ?_))
  show wpAny _ _ (reSubstitute "re.Pattern.sub" "sub" false ⟨[.ref 36, .bytes #[] u, .bytes b t], []⟩) _ _ s
  unfold reSubstitute
  refine wpAny_bind (wpAny_of_eq (named_eq _ _) ?_)
  refine wpAny_bind (wpAny_pure ?_)
  refine wpAny_bind (wpAny_specialOf (typeIs_bytes s _ _) look_call_bytes ?_)
  dsimp only
  rw [if_neg (by simp)]
  refine wpAny_bind (wpAny_of_eq asStr_bytes ?_)
  refine wpAny_bind (wpAny_of_eq KBy.quiet_eq ?_)
  refine wpAny_bind (wpAny_pure ?_)
  rw [if_neg (by simp), if_pos (by simp)]
  refine wpAny_bind (wpAny_pure ?_)
  refine wpAny_bind (wpAny_holding (wholeTarget P ?_))
  rw [if_neg (by simp)]
  have hn : wpAny (model prog w) A.in1 (newList []) (fun v s' => v = .ref s.heap.objs.size ∧ s' = { s with heap := s.heap.push { cls := .type "list", data := .seq #[] } }) E s :=
    wpAny_newObj_type ⟨rfl, rfl⟩ (by show (#[] : Array Value).size ≤ sizeLine; decide)
  refine wpAny_bind (wpAny_mono hn (fun v s' hv => ?_) fun _ _ x => x)
  obtain ⟨rfl, rfl⟩ := hv
  refine wpAny_pure ⟨plainId_quiet (by decide +kernel) _, ?_⟩
  have hnew : s.heap.get? s.heap.objs.size = none := by
    cases e : s.heap.get? s.heap.objs.size with
    | none => rfl
    | some o => exact absurd (Heap.lt_size e) (Nat.lt_irrefl _)
  refine sub_loop P hb (b.size + 1) 0 0 [] [] 0 _ (by omega) (Nat.zero_le _) ⟨fun a o e => Heap.get?_push_of_some _ e, hnew, Heap.get?_push_size _ rfl⟩ .nil (by simp) (by simp) ?_
  intro r t' h' k' hr hk
  exact h r t' _ (by simpa using hr) ⟨hk, rfl, rfl, rfl⟩
end
end Mine
end
section
open PySem PySem.W PyProof.Rows
set_option maxRecDepth 100000
set_option maxHeartbeats 2000000
namespace Mine
noncomputable def net (l : List UInt8) : Int := (l.count 40 : Int) - (l.count 41 : Int)
noncomputable def pd (b : Array UInt8) : Int := net (rem b (b.size + 1) 0)
theorem paren_body {w : World} {s : Shared} {g : Heap} {L : Addr} {s₀ : Shared} {b : Array UInt8} {d : Int} {t1 t2 : Tok} (T : ∃ mean mg mb, Top Q LOW mean mg mb g) (X : (K w.params).In g) (hb : b.size ≤ 2 ^ 18)
    (I : At g L s₀ [("depth", .int d t2), ("data", .bytes b t1)] [] s) :
    wpAny (model PR w) (AA 3) (execs (bodyAt 3) (envOf "_paren_depth" (scAt 3) L 44 (.ref 43))) (fun fl s' => Done (∃ t, (match fl with | .ret v => v | _ => Value.none) = Value.int (d + pd b) t ∧ (∀ a o, g.get? a = some o → s'.heap.get? a = some o) ∧ s'.gens = s₀.gens ∧ s'.drawn = s₀.drawn ∧ s'.os = s₀.os)) Bot s := by
  obtain ⟨_, _, _, T⟩ := T
  w_on
  refine fill_of ?_; k_fill; intro _
  refine seq (J := fun s' => ∃ b' t, b'.toList = rem b (b.size + 1) 0 ∧ At g L s₀ [("depth", .int d t2), ("data", .bytes b' t)] [] s') ?_ ?_
  · have F := I.F
    have N := I.N
    walk_at "go"
    refine meth_sub (I.F.keep _ _ (X 36 _ rfl)) rfl rfl ?_
    walk_at "go"
    refine call_sub (Pat.of (X.keeps I.F.keep)) hb ?_
    intro r t' s' hr ha
    have I' : At g L s₀ [("depth", .int d t2), ("data", .bytes b t1)] [] s' := At.keeps (s := { s with toks := s.toks + 1 }) ⟨I.F, I.N, I.g, I.d, I.o⟩ ha
    clear F N
    have F := I'.F
    have N := I'.N
    walk_at "go"
    exact ⟨rfl, r, t', hr, frUpd (by assumption) rfl, by assumption, I'.g, I'.d, I'.o⟩
  · rintro s1 ⟨b', t, hb', I⟩
    have F := I.F
    have N := I.N
    walk_at "go"
    refine meth_count ?_
    walk_at "go"
    refine call_count ?_
    walk_at "go"
    refine meth_count ?_
    walk_at "go"
    refine call_count ?_
    walk_at "go"
    refine ⟨_, int_eq ?_, I.F.keep, I.g, I.d, I.o⟩
    rw [occ_length, occ_length, hb']
    unfold pd net
    omega
section
variable {w : World} {A : Around} {s : Shared} {E : Value → Shared → Prop} (hh : A.handled = none) (hd : A.depth + 1 ≤ 301 + 20 * 3) (hu : A.units + 3 ≤ 100 * 3) (W : Wd w s.heap) (b : Array UInt8) (hb : b.size ≤ 2 ^ 18)
include hh hd hu W hb
theorem paren2 (d : Int) (t1 t2 : Tok) :
    wpAny (model PR w) A (call (.ref 44) [.bytes b t1, .int d t2]) (fun v s' => ∃ t, v = .int (d + pd b) t ∧ After s s') E s := by
  have X := W.k
  refine call_fn (n := 3) (f := 44) (c := 43) (i := 3) (binds := [("data", .bytes b t1), ("depth", .int d t2)]) hh hd hu (by decide) W rfl rfl (binds_K X rfl (by rfl) rfl rfl rfl) (by decide +kernel) (locs rfl) rfl rfl rfl (fun h₁ F => ?_)
  refine wpAny_mono (paren_body (s₀ := s) W.t X hb ⟨F, News.nil, rfl, rfl, rfl⟩) (fun fl s' h => ?_) fun _ _ x => x
  obtain ⟨t, e, k, g, dd, o⟩ := h
  exact ⟨t, e, k, g, dd, o⟩
theorem paren1 (t1 : Tok) :
    wpAny (model PR w) A (call (.ref 44) [.bytes b t1]) (fun v s' => ∃ t, v = .int (pd b) t ∧ After s s') E s := by
  have X := W.k
  refine call_fn (n := 3) (f := 44) (c := 43) (i := 3) (binds := [("data", .bytes b t1), ("depth", .int 0 328)]) hh hd hu (by decide) W rfl rfl (binds_K X rfl (by rfl) rfl rfl rfl) (by decide +kernel) (locs rfl) rfl rfl rfl (fun h₁ F => ?_)
  refine wpAny_mono (paren_body (s₀ := s) W.t X hb ⟨F, News.nil, rfl, rfl, rfl⟩) (fun fl s' h => ?_) fun _ _ x => x
  obtain ⟨t, e, k, g, dd, o⟩ := h
  exact ⟨t, e.trans (int_eq (Int.zero_add _)), k, g, dd, o⟩
end
end Mine
end
section
open PySem PySem.W PyProof.Rows PySem.Builtin PySem.Builtin.Str
namespace Mine
theorem item_nat (x : Str) (i : Nat) (h : i < x.cps.size) : Txt.item x (i : Int) = ⟨#[x.cps[i]]⟩ := by
  unfold Txt.item Txt.charAt seqIndex?
  have h1 : ¬ ((i : Int) < 0) := by omega
  simp [h1, Str.length, h]
theorem range'_map (l k : Nat) : (List.range k).map (fun (j : Nat) => ((l : Int) + 1 * (j : Int)).toNat) = List.range' l k := by
  rw [List.range_eq_range', List.range'_eq_map_range (s := l)]
  rw [List.range_eq_range']
  apply List.map_congr_left
  intro a _
  omega
theorem indices_nat (l r n : Nat) (hl : l ≤ r) (hr : r ≤ n) : strSliceIndices (some (l : Int)) (some (r : Int)) 1 n = List.range' l (r - l) := by
  unfold strSliceIndices sliceRange
  have h1 : ¬ ((l : Int) < 0) := by omega
  have h2 : ¬ ((r : Int) < 0) := by omega
  have h3 : max (0 : Int) (min (l : Int) (n : Int)) = l := by omega
  have h4 : max (0 : Int) (min (r : Int) (n : Int)) = r := by omega
  simp only [h1, h2, if_false, if_true, h3, h4, gt_iff_lt, Int.zero_lt_one]
  have h5 : (if (l : Int) < (r : Int) then ((r : Int) - l + 1 - 1) / 1 else 0).toNat = r - l := by split <;> simp <;> omega
  rw [h5, range'_map]
theorem pick_range (a : Array Nat) (l k : Nat) (h : l + k ≤ a.size) : (List.range' l k).filterMap (a[·]?) = (a.extract l (l + k)).toList := by
  induction k generalizing l with
  | zero => simp
  | succ k ih =>
    rw [List.range'_succ, List.filterMap_cons]
    have h1 : a[l]? = some a[l] := by simp
    rw [h1]
    rw [ih (l + 1) (by omega)]
    simp only [Array.toList_extract, List.extract_eq_take_drop]
    rw [show l + (k + 1) - l = k + 1 by omega, show l + 1 + k - (l + 1) = k by omega]
    rw [List.drop_eq_getElem_cons (i := l) (by rw [Array.length_toList]; omega), List.take_succ_cons]
    simp
theorem slice_nat (x : Str) (l r : Nat) (hl : l ≤ r) (hr : r ≤ x.cps.size) : Txt.slice x (some (l : Int)) (some (r : Int)) = ⟨x.cps.extract l r⟩ := by
  have e : strSliceIndices (some (l : Int)) (some (r : Int)) 1 x.length = List.range' l (r - l) := indices_nat l r x.length hl hr
  unfold Txt.slice
  rw [e]
  split
  · rename_i h
    have h' : r - l = x.length := by simpa using h
    have : l = 0 ∧ r = x.cps.size := by have : x.length = x.cps.size := rfl; omega
    obtain ⟨rfl, rfl⟩ := this
    simp
  · rw [pick_range _ _ _ (by omega), show l + (r - l) = r by omega]
end Mine
end
section
open PySem PySem.W PyProof.Rows
set_option maxRecDepth 100000
set_option maxHeartbeats 2000000
namespace Mine
/-- the places of the first and of the last sign that is no blank -/
structure Ends (x : Str) (p q : Nat) : Prop where
  le : p ≤ q
  lt : q < x.cps.size
  bp : ∀ i, i < p → x.cps[i]? = some 32
  np : x.cps[p]? ≠ some 32
  nq : x.cps[q]? ≠ some 32
  bq : ∀ i, q < i → i < x.cps.size → x.cps[i]? = some 32
theorem blank_iff {c : Nat} : ((({ cps := #[c] } : Str) == (" " : Str)) = true) ↔ c = 32 := by
  rw [beq_iff_eq, show (" " : Str) = ⟨#[32]⟩ from by decide +kernel]
  simp
theorem blank_not {c : Nat} : ((({ cps := #[c] } : Str) == (" " : Str)) = false) ↔ c ≠ 32 := by
  rw [beq_eq_false_iff_ne, show (" " : Str) = ⟨#[32]⟩ from by decide +kernel]
  simp
theorem strip_spec {w : World} {A : Around} {s : Shared} {E : Value → Shared → Prop} (hh : A.handled = none) (hd : A.depth + 1 ≤ 301 + 20 * 3) (hu : A.units + 3 ≤ 100 * 3) (W : Wd w s.heap) (x : Str) (a : Nat) (t1 t2 : Tok) (p q : Nat) (hx : Ends x p q) (hn : x.cps.size ≤ 10000) :
    wpAny (model PR w) A (call (.ref 51) [.str x t1, .int a t2]) (fun v s' => ∃ t, v = .str ⟨x.cps.extract (min a p) (x.cps.size - min (a - min a p) (x.cps.size - 1 - q))⟩ t ∧ After s s') E s := by
  obtain ⟨_, _, _, T⟩ := W.t
  have X := W.k
  refine call_fn (n := 3) (f := 51) (c := 50) (i := 5) (binds := [("s", .str x t1), ("amount", .int a t2)]) hh hd hu (by decide) W rfl rfl (BindsTo.of_eq rfl) (by decide +kernel) (locs rfl) rfl rfl rfl (fun h₁ F => ?_)
  have N : News s.heap s.heap.objs.size h₁ [] := News.nil
  w_on
  refine fill_of ?_; k_fill; intro _
  refine seq (J := fun s' => ∃ t, At s.heap s.heap.objs.size s [("amount", .int a t2), ("s", .str x t1), ("lpos", .int 0 t)] [] s') ?_ ?_
  · walk_at "go"
    exact ⟨rfl, _, ⟨frUpd (by assumption) rfl, by assumption, rfl, rfl, rfl⟩⟩
  clear F N
  rintro s1 ⟨t, I⟩
  refine seq (J := fun s' => ∃ t t', At s.heap s.heap.objs.size s [("amount", .int ((a - min a p : Nat) : Int) t'), ("s", .str x t1), ("lpos", .int (min a p : Nat) t)] [] s') ?_ ?_
  · refine while_rule (fun n s' => ∃ (l : Nat) (t t' : Tok), l ≤ min a p ∧ n = p - l ∧ At s.heap s.heap.objs.size s [("amount", .int ((a - l : Nat) : Int) t'), ("s", .str x t1), ("lpos", .int (l : Int) t)] [] s') (p - 0) ⟨0, t, t2, by omega, rfl, I⟩ ?_
    rintro n s2 ⟨l, t, t', hl, rfl, I⟩
    have F := I.F
    have N := I.N
    have hlx : l < x.cps.size := by have := hx.le; have := hx.lt; omega
    have hlen : x.length = x.cps.size := rfl
    walk_at "go"
    · rename _ = true => hc
      rw [item_nat x l hlx, blank_iff] at hc
      have hlp : l < p := by
        rcases Nat.lt_or_ge l p with h | h
        · exact h
        · have : l = p := by omega
          subst this
          exact absurd (by rw [Array.getElem?_eq_getElem hlx, hc]) hx.np
      refine .inl ⟨rfl, ?_⟩
      walk_at "go"
      have e1 : ((a - l : Nat) : Int) - 1 = ((a - (l + 1) : Nat) : Int) := by omega
      exact ⟨rfl, p - (l + 1), by omega, l + 1, _, _, by omega, rfl, ⟨frUpd2 (by assumption) (by rw [e1]; rfl), by assumption, I.g, I.d, I.o⟩⟩
    · rename _ = false => hc
      rw [item_nat x l hlx, blank_not] at hc
      have hlp : l = p := by
        rcases Nat.lt_or_ge l p with h | h
        · have := hx.bp l h
          rw [Array.getElem?_eq_getElem hlx] at this
          exact absurd (Option.some.inj this) hc
        · omega
      refine .inr ⟨rfl, rfl, ?_⟩
      have e : min a p = l := by omega
      rw [e]
      exact ⟨_, _, ⟨I.F, I.N, I.g, I.d, I.o⟩⟩
    · have e : min a p = l := by omega
      refine .inr ⟨rfl, rfl, ?_⟩
      rw [e]
      exact ⟨_, _, ⟨I.F, I.N, I.g, I.d, I.o⟩⟩
  rename At _ _ _ _ _ s1 => I0
  clear I0
  rintro s2 ⟨t, t', I⟩
  generalize hl : min a p = l at *
  generalize hb : a - l = b at *
  generalize hnn : x.cps.size = n at *
  have hlen : x.length = n := hnn
  have hql : q < n := by rw [← hnn]; exact hx.lt
  refine seq (J := fun s' => ∃ t'', At s.heap s.heap.objs.size s [("amount", .int (b : Int) t'), ("s", .str x t1), ("lpos", .int (l : Int) t), ("rpos", .int ((n - 1 : Nat) : Int) t'')] [] s') ?_ ?_
  · have F := I.F
    have N := I.N
    walk_at "go"
    have e1 : (x.length : Int) - 1 = ((n - 1 : Nat) : Int) := by omega
    exact ⟨rfl, _, ⟨frUpd (by assumption) (by rw [e1]; rfl), by assumption, I.g, I.d, I.o⟩⟩
  rename At _ _ _ _ _ s2 => I0
  clear I0
  rintro s3 ⟨t'', I⟩
  refine seq (J := fun s' => ∃ t t' t'', At s.heap s.heap.objs.size s [("amount", .int ((b - min b (n - 1 - q) : Nat) : Int) t'), ("s", .str x t1), ("lpos", .int (l : Int) t), ("rpos", .int ((n - 1 - min b (n - 1 - q) : Nat) : Int) t'')] [] s') ?_ ?_
  · refine while_rule (fun k s' => ∃ (j : Nat) (t t' t'' : Tok), j ≤ min b (n - 1 - q) ∧ k = n - j ∧ At s.heap s.heap.objs.size s [("amount", .int ((b - j : Nat) : Int) t'), ("s", .str x t1), ("lpos", .int (l : Int) t), ("rpos", .int ((n - 1 - j : Nat) : Int) t'')] [] s') (n - 0) ⟨0, t, t', t'', by omega, rfl, I⟩ ?_
    clear I
    rintro k s4 ⟨j, t, t', t'', hj, rfl, I⟩
    have F := I.F
    have N := I.N
    have hlx : n - 1 - j < n := by omega
    have hlx' : n - 1 - j < x.cps.size := by omega
    walk_at "go"
    · rename _ = true => hc
      rw [item_nat x _ hlx', blank_iff] at hc
      have hlp : j < n - 1 - q := by
        rcases Nat.lt_or_ge j (n - 1 - q) with h | h
        · exact h
        · have : n - 1 - j = q := by omega
          exact absurd (by rw [← this, Array.getElem?_eq_getElem hlx', hc]) hx.nq
      refine .inl ⟨rfl, ?_⟩
      walk_at "go"
      have e1 : ((b - j : Nat) : Int) - 1 = ((b - (j + 1) : Nat) : Int) := by omega
      have e2 : ((n - 1 - j : Nat) : Int) - 1 = ((n - 1 - (j + 1) : Nat) : Int) := by omega
      exact ⟨rfl, n - (j + 1), by omega, j + 1, _, _, _, by omega, rfl, ⟨frUpd2 (by assumption) (by rw [e1, e2]; rfl), by assumption, I.g, I.d, I.o⟩⟩
    · rename _ = false => hc
      rw [item_nat x _ hlx', blank_not] at hc
      have hlp : j = n - 1 - q := by
        rcases Nat.lt_or_ge j (n - 1 - q) with h | h
        · have := hx.bq (n - 1 - j) (by omega) hlx'
          rw [Array.getElem?_eq_getElem hlx'] at this
          exact absurd (Option.some.inj this) hc
        · omega
      refine .inr ⟨rfl, rfl, ?_⟩
      have e : min b (n - 1 - q) = j := by omega
      rw [e]
      exact ⟨_, _, _, ⟨I.F, I.N, I.g, I.d, I.o⟩⟩
    · have e : min b (n - 1 - q) = j := by omega
      refine .inr ⟨rfl, rfl, ?_⟩
      rw [e]
      exact ⟨_, _, _, ⟨I.F, I.N, I.g, I.d, I.o⟩⟩
  rename At _ _ _ _ _ s3 => I0
  clear I0
  rintro s4 ⟨t, t', t'', I⟩
  generalize hj : min b (n - 1 - q) = j at *
  have F := I.F
  have N := I.N
  walk_at "go"
  rename Fr _ _ _ _ => F'
  have hq := hx.le
  have e : ((n - 1 - j : Nat) : Int) + 1 = ((n - j : Nat) : Int) := by omega
  rw [e, slice_nat x l (n - j) (by omega) (by omega)]
  exact ⟨_, rfl, ⟨F'.keep, I.g, I.d, I.o⟩⟩
end Mine
end
section
open PySem PySem.W PyProof.Rows
set_option maxRecDepth 100000
set_option maxHeartbeats 2000000
namespace Mine
noncomputable def l7 : List (Int × Nat) := [(12272, 361), (12273, 363), (12274, 365), (12275, 367), (12276, 369), (12277, 371), (12278, 373), (12279, 375), (12280, 377), (12281, 379), (12282, 381), (12283, 383)]
noncomputable def l8 : List (Int × Nat) := [(832, 393), (833, 394), (8234, 402), (8235, 403), (8236, 404), (8237, 405), (8206, 395), (8207, 396), (8238, 406), (8298, 412), (8299, 413), (8300, 414), (8301, 415), (8302, 416), (8303, 417)]
noncomputable def elems (l : List (Int × Nat)) : Array (Int × Value) := (l.map fun p => (p.1, Value.int p.1 p.2)).toArray
theorem setOf_list {prog : Program} {w : World} {h : Heap} {a : Addr} {l : List (Int × Nat)} {ep : Nat} {t : SetTable} (ho : h.get? a = some ⟨.type "set", none, .set (elems l) ep t, #[]⟩) (hh : (l.all fun p => hashInt p.1 == p.1) = true)
    (hf : t.fits (elems l).size = true) (hs : l.length < scanBound) : h.SetOf (intKind prog w) a (fun k => (l.map (·.1)).contains k) l.length := by
  refine ⟨_, elems l, ep, t, ho, ⟨rfl, rfl, rfl⟩, rfl, ?_, ?_, by simpa [elems] using hs, hf, by simp [elems]⟩
  · intro e he
    simp only [elems, List.mem_map] at he
    obtain ⟨p, hp, rfl⟩ := he
    have := List.all_eq_true.mp hh p hp
    refine ⟨⟨p.1, ?_, ?_⟩, rfl⟩
    · simp [intKind, Value.isInt]
    · exact (beq_iff_eq.mp this).symm
  · intro k
    simp only [List.contains_iff_mem, List.mem_map, elems]
    constructor
    · rintro ⟨p, hp, rfl⟩
      exact ⟨_, ⟨p, hp, rfl⟩, by simp [intKind, Value.isInt]⟩
    · rintro ⟨e, ⟨p, hp, rfl⟩, hk⟩
      refine ⟨p, hp, ?_⟩
      have := hk
      simp [intKind, Value.isInt] at this
      exact this
section
variable {w : World} {A : Around} {s : Shared} {E : Value → Shared → Prop} (hh : A.handled = none) (hd : A.depth + 1 ≤ 301 + 20 * 3) (hu : A.units + 3 ≤ 100 * 3) (W : Wd w s.heap)
include hh hd hu W
theorem c11_spec (x : Str) (t : Tok) : wpAny (model PR w) A (call (.ref 58) [.str x t]) (fun v s' => v = .bool (x == (" " : Str)) ∧ After s s') E s := by
  obtain ⟨_, _, _, T⟩ := W.t
  have X := W.k
  refine call_fn (n := 3) (f := 58) (c := 57) (i := 7) (binds := [("code", .str x t)]) hh hd hu (by decide) W rfl rfl (BindsTo.of_eq rfl) (by decide +kernel) (locs rfl) rfl rfl rfl (fun h₁ F => ?_)
  have N : News s.heap s.heap.objs.size h₁ [] := News.nil
  w_on
  refine fill_of ?_; k_fill; intro _
  walk_at "go"
  exact ⟨rfl, ⟨F.keep, rfl, rfl, rfl⟩⟩
theorem c7_spec (c : Nat) (t : Tok) : wpAny (model PR w) A (call (.ref 70) [.str ⟨#[c]⟩ t]) (fun v s' => v = .bool ((l7.map (·.1)).contains (c : Int)) ∧ After s s') E s := by
  obtain ⟨_, _, _, T⟩ := W.t
  have X := W.k
  refine call_fn (n := 3) (f := 70) (c := 69) (i := 9) (binds := [("code", .str ⟨#[c]⟩ t)]) hh hd hu (by decide) W rfl rfl (BindsTo.of_eq rfl) (by decide +kernel) (locs rfl) rfl rfl rfl (fun h₁ F => ?_)
  have N : News s.heap s.heap.objs.size h₁ [] := News.nil
  w_on
  refine fill_of ?_; k_fill; intro _
  walk_at "go"
  have hS : h₁.SetOf (intKind PR w) 60 (fun k => (l7.map (·.1)).contains k) 12 := setOf_list (l := l7) (F.keep _ _ (X 60 _ rfl)) (by decide +kernel) (by rfl) (by decide +kernel)
  refine wpAny_inSet_of (knd := intKind PR w) (k := (c : Int)) (by simp [intKind, Value.isInt]) rfl hS ?_
  exact ⟨rfl, ⟨F.keep, rfl, rfl, rfl⟩⟩
theorem c8_spec (c : Nat) (t : Tok) : wpAny (model PR w) A (call (.ref 94) [.str ⟨#[c]⟩ t]) (fun v s' => v = .bool ((l8.map (·.1)).contains (c : Int)) ∧ After s s') E s := by
  obtain ⟨_, _, _, T⟩ := W.t
  have X := W.k
  refine call_fn (n := 3) (f := 94) (c := 93) (i := 11) (binds := [("code", .str ⟨#[c]⟩ t)]) hh hd hu (by decide) W rfl rfl (BindsTo.of_eq rfl) (by decide +kernel) (locs rfl) rfl rfl rfl (fun h₁ F => ?_)
  have N : News s.heap s.heap.objs.size h₁ [] := News.nil
  w_on
  refine fill_of ?_; k_fill; intro _
  walk_at "go"
  have hS : h₁.SetOf (intKind PR w) 84 (fun k => (l8.map (·.1)).contains k) 15 := setOf_list (l := l8) (F.keep _ _ (X 84 _ rfl)) (by decide +kernel) (by rfl) (by decide +kernel)
  refine wpAny_inSet_of (knd := intKind PR w) (k := (c : Int)) (by simp [intKind, Value.isInt]) rfl hS ?_
  exact ⟨rfl, ⟨F.keep, rfl, rfl, rfl⟩⟩
end
end Mine
end
section
open PySem PySem.W PyProof.Rows
set_option maxRecDepth 100000
set_option maxHeartbeats 2000000
namespace Mine
noncomputable def numAt (n b : Int) : Nat → Int
  | 0 => n
  | i + 1 => (numAt n b i).fdiv b
noncomputable def digs (n b : Int) (k : Nat) : List Int := (List.range k).map fun j => (numAt n b j).fmod b
theorem figs_spec {w : World} {A : Around} {s : Shared} {E : Value → Shared → Prop} (hh : A.handled = none) (hd : A.depth + 1 ≤ 301 + 20 * 3) (hu : A.units + 3 ≤ 100 * 3) (W : Wd w s.heap) (n b : Int) (c : Nat) (t1 t2 t3 : Tok) (hbc : (b = 7 ∧ c = 4) ∨ (b = 8 ∧ c = 6)) :
    wpAny (model PR w) A (call (.ref 108) [.int n t1, .int b t2, .int c t3]) (fun v s' => ∃ l vs k, v = .ref l ∧ After s s' ∧ s.heap.get? l = none ∧ s'.heap.get? l = some (PySem.W.listOf vs.toArray k) ∧ IntsAre vs (digs (n.fmod (b ^ c)) b c)) E s := by
  obtain ⟨_, _, _, T⟩ := W.t
  have X := W.k
  refine call_fn (n := 3) (f := 108) (c := 107) (i := 14) (binds := [("number", .int n t1), ("base", .int b t2), ("count", .int c t3)]) hh hd hu (by decide) W rfl rfl (BindsTo.of_eq rfl) (by decide +kernel) (locs rfl) rfl rfl rfl (fun h₁ F => ?_)
  have N : News s.heap s.heap.objs.size h₁ [] := News.nil
  w_on
  refine fill_of ?_; k_fill; intro _
  refine seq (J := fun s' => ∃ t, At s.heap s.heap.objs.size s [("count", .int c t3), ("base", .int b t2), ("number", .int (n.fmod (b ^ c)) t)] [] s') ?_ ?_
  · rcases hbc with ⟨rfl, rfl⟩ | ⟨rfl, rfl⟩ <;> (walk_at "go"; exact ⟨rfl, _, ⟨frUpd (by assumption) rfl, by assumption, rfl, rfl, rfl⟩⟩)
  clear F N
  rintro s1 ⟨t, I⟩
  refine seq (J := fun s' => ∃ l, At s.heap s.heap.objs.size s [("count", .int c t3), ("base", .int b t2), ("number", .int (n.fmod (b ^ c)) t), ("figures", .ref l)] [(l, PySem.W.listOf #[] 0)] s') ?_ ?_
  · have F := I.F
    have N := I.N
    walk_at "go"
    exact ⟨rfl, _, ⟨frUpd (by assumption) rfl, by assumption, I.g, I.d, I.o⟩⟩
  rename At _ _ _ _ _ s1 => I0
  clear I0
  rintro s2 ⟨l, I⟩
  generalize hN : n.fmod (b ^ c) = N₀ at *
  refine seq (J := fun s' => ∃ vs k post t, IntsAre vs (digs N₀ b c) ∧ At s.heap s.heap.objs.size s (([("count", .int c t3), ("base", .int b t2), ("number", .int (numAt N₀ b c) t), ("figures", .ref l)] : NM) ++ post) [(l, PySem.W.listOf vs.toArray k)] s') ?_ ?_
  · refine for_rule (s₀ := s) (g := s.heap) (n := c) (P := fun i v => ∃ t, v = .int (i : Int) t) [l] [] (fun i e led => ∃ t vs k, e = ([("count", .int c t3), ("base", .int b t2), ("number", .int (numAt N₀ b i) t), ("figures", .ref l)] : NM) ∧ led = [(l, PySem.W.listOf vs.toArray k)] ∧ IntsAre vs (digs N₀ b i))
      _ [] _ rfl rfl (by rintro i e led ⟨t, vs, k, rfl, rfl, _⟩; exact ⟨rfl, rfl⟩) ⟨t, [], 0, rfl, rfl, .nil⟩ ?_ ?_ ?_
    · have F := I.F
      have N := I.N
      walk_at "go"
      refine itRange rfl ⟨by assumption, by assumption, I.g, I.d, I.o⟩ (by assumption) (by omega) (by simp)
    · rintro i v e led own post s3 hi ⟨tv, rfl⟩ ⟨t, vs, k, rfl, rfl, hvs⟩ hown I
      have F := I.F
      have N := I.N
      have hl : vs.length = i := by rw [hvs.length]; simp [digs]
      walk_at "go"
      refine append_mine (rest := own) F N (fun p hp e => hown p hp (by rw [e]; exact List.mem_singleton.mpr rfl)) (size_ok hl (by omega)) ?_
      intro h' F' N'
      walk_at "go"
      refine ⟨rfl, _, _, _, post, ⟨_, vs ++ [_], _, rfl, rfl, ?_⟩, frUpd (by assumption) rfl, by rw [← push_list]; assumption, I.g, I.d, I.o⟩
      unfold digs
      rw [List.range_succ, List.map_append]
      exact hvs.append (.cons _ _ .nil)
    · rintro e led post s' ⟨t, vs, k, rfl, rfl, hvs⟩ I'
      exact ⟨rfl, vs, k, post, t, hvs, I'⟩
  rintro s3 ⟨vs, k, post, t', hvs, I'⟩
  have F := I'.F
  have N := I'.N
  walk_at "go"
  have hl := N _ (.head _)
  exact ⟨l, vs, k, rfl, ⟨F.keep, I'.g, I'.d, I'.o⟩, hl.2.2, hl.1, hvs⟩
end Mine
end
section
open PySem PySem.W PyProof.Rows
set_option maxRecDepth 100000
set_option maxHeartbeats 2000000
namespace Mine
noncomputable def seenF (l : List Nat) : List Nat := l.map fun c => if c = 32 then 98 else 105
theorem cat1 {l l' : List Nat} {y : Str} (x : Str) (c : Nat) (hy : y = ⟨#[c]⟩) (h : l' = l ++ [c]) (hx : x = ⟨l.toArray⟩ := by rfl) : x ++ y = ⟨l'.toArray⟩ := by
  subst hy hx h
  refine Str.ext' ?_
  rw [Str.cps_append]
  simp
theorem seen_spec {w : World} {A : Around} {s : Shared} {E : Value → Shared → Prop} (hh : A.handled = none) (hd : A.depth + 1 ≤ 301 + 20 * 2) (hu : A.units + 3 ≤ 100 * 2) (W : Wd w s.heap) (x : Str) (t : Tok) (hx : x.cps.size ≤ 10000) :
    wpAny (model PR w) A (call (.ref 146) [.str x t]) (fun v s' => ∃ t, v = .str ⟨(seenF x.cps.toList).toArray⟩ t ∧ After s s') E s := by
  obtain ⟨_, _, _, T⟩ := W.t
  have X := W.k
  refine call_fn (n := 2) (f := 146) (c := 145) (i := 20) (binds := [("line", .str x t)]) hh hd hu (by decide) W rfl rfl (BindsTo.of_eq rfl) (by decide +kernel) (locs rfl) rfl rfl rfl (fun h₁ F => ?_)
  have N : News s.heap s.heap.objs.size h₁ [] := News.nil
  w_on
  refine fill_of ?_; k_fill; intro _
  refine seq (J := fun s' => ∃ t', At s.heap s.heap.objs.size s [("line", .str x t), ("seen", .str ⟨#[]⟩ t')] [] s') ?_ ?_
  · walk_at "go"
    exact ⟨rfl, _, ⟨frUpd (by assumption) (by rfl), by assumption, rfl, rfl, rfl⟩⟩
  clear F N
  rintro s1 ⟨t', I⟩
  refine seq (J := fun s' => ∃ post t', At s.heap s.heap.objs.size s (([("line", .str x t), ("seen", .str ⟨(seenF x.cps.toList).toArray⟩ t')] : NM) ++ post) [] s') ?_ ?_
  · refine for_rule (s₀ := s) (g := s.heap) (n := x.cps.size) (P := SignAt x) [] [] (fun i e led => ∃ t', e = ([("line", .str x t), ("seen", .str ⟨(seenF (x.cps.toList.take i)).toArray⟩ t')] : NM) ∧ led = [])
      _ [] _ rfl rfl (by rintro i e led ⟨t', rfl, rfl⟩; exact ⟨rfl, rfl⟩) ⟨t', rfl, rfl⟩ ?_ ?_ ?_
    · have F := I.F
      have N := I.N
      walk_at "go"
      exact itStr rfl ⟨I.F, I.N, I.g, I.d, I.o⟩ (by simp)
    · rintro i v e led own post s3 hi ⟨c, u, hc, rfl⟩ ⟨t', rfl, rfl⟩ hown I
      refine seq (J := fun s' => ∃ post, At s.heap s.heap.objs.size s (([("sign", .str ⟨#[c]⟩ u), ("line", .str x t), ("seen", .str ⟨(seenF (x.cps.toList.take i)).toArray⟩ t')] : NM) ++ (((Str.ofString "blank", Value.bool (decide (c = 32))) :: post : NM))) own s') ?_ ?_
      · have F := I.F
        have N := I.N
        walk_at "go"
        refine bot (wpAny_mono (c11_spec rfl (by decide) (by decide) (W.keeps F.keep) _ _) (fun v s' hv => ?_) fun _ _ x => x)
        obtain ⟨rfl, ha⟩ := hv
        have I' := I.keeps ha
        clear F N
        have F := I'.F
        have N := I'.N
        walk_at "go"
        have e : (({ cps := #[c] } : Str) == (" " : Str)) = decide (c = 32) := by
          rw [show (" " : Str) = ⟨#[32]⟩ from by decide +kernel, Bool.eq_iff_iff]
          simp
        refine ⟨rfl, post, ?_⟩
        have F' := ‹Fr _ _ _ (fun y => if y = _ then some (Value.bool _) else _)›
        rw [e] at F'
        exact At.tail (m := ([("sign", .str ⟨#[c]⟩ u), ("line", .str x t), ("seen", .str ⟨(seenF (x.cps.toList.take i)).toArray⟩ t')] : NM)) (post := post) I' F' (by assumption) rfl rfl rfl rfl
      · rintro s4 ⟨post', I⟩
        have hl : ({ cps := (seenF (List.take i x.cps.toList)).toArray } : Str).length ≤ 10000 := by
          show (seenF (List.take i x.cps.toList)).toArray.size ≤ 10000
          simp [seenF]; omega
        have e : seenF (List.take (i + 1) x.cps.toList) = seenF (List.take i x.cps.toList) ++ [if c = 32 then 98 else 105] := by
          unfold seenF
          rw [List.take_add_one, List.map_append]
          simp [hc]
        by_cases h : c = 32
        · simp only [h, decide_true] at I
          have F := I.F
          have N := I.N
          walk_at "go"
          rw [if_pos h] at e
          have F' := ‹Fr _ _ _ (fun y => if y = _ then some (Value.str _ _) else _)›
          rw [cat1 _ 98 (by decide +kernel) e] at F'
          exact ⟨rfl, _, _, _, _, ⟨_, rfl, rfl⟩, frUpd F' rfl, by assumption, I.g, I.d, I.o⟩
        · simp only [h, decide_false] at I
          have F := I.F
          have N := I.N
          walk_at "go"
          rw [if_neg h] at e
          have F' := ‹Fr _ _ _ (fun y => if y = _ then some (Value.str _ _) else _)›
          rw [cat1 _ 105 (by decide +kernel) e] at F'
          exact ⟨rfl, _, _, _, _, ⟨_, rfl, rfl⟩, frUpd F' rfl, by assumption, I.g, I.d, I.o⟩
    · rintro e led post s' ⟨t', rfl, rfl⟩ I'
      rw [show x.cps.toList.take x.cps.size = x.cps.toList by rw [List.take_of_length_le]; simp] at I'
      exact ⟨rfl, post, t', I'⟩
  rintro s3 ⟨post, t', I'⟩
  have F := I'.F
  have N := I'.N
  walk_at "go"
  exact ⟨_, rfl, ⟨F.keep, I'.g, I'.d, I'.o⟩⟩
end Mine
end
section
open PySem PySem.W PyProof.Rows
namespace Mine
theorem sub_list {w : World} {A : Around} {E : Value → Shared → Prop} {s : Shared} {value slice : Expr} {l : Addr} {items : Array Value} {k : Int} {t : Tok} {x : Value} {Q : Value → Shared → Prop} (hl : s.heap.IsList l items) (h0 : 0 ≤ k) (hf : k < 2 ^ 63) (hx : items[k.toNat]? = some x) (h : Q x s)
    (hs : subscripted slice false (.ref l) (.int k t) = operate [.ref l, .int k t] (getItem (.ref l) (.int k t)) := by with_unfolding_all rfl) (ht : ∀ r, letTemporaryGo value (.ref l) r = pure () := by intro _; with_unfolding_all rfl) :
    wpAny (model PR w) A (subscriptTail value slice (.ref l) (.int k t)) Q E s :=
  subscriptTail_builtin hl.typeIs slot_list_getitem.lookup (wpAny_getItem_list hl h0 hf hx h) hs ht
theorem set_mine {w : World} {A : Around} {E : Value → Shared → Prop} {s : Shared} {g : Heap} {L l : Addr} {m : Str → Option Value} {rest : LD} {its : Array Value} {n : Nat} {k : Int} {t : Tok} {v : Value} {Q : Unit → Shared → Prop} (F : Fr g L s.heap m) (N : News g L s.heap ((l, PySem.W.listOf its n) :: rest))
    (hne : ∀ p ∈ rest, p.1 ≠ l) (h0 : 0 ≤ k) (hn : k < its.size) (hz : its.size ≤ 1000)
    (h : ∀ h', Fr g L h' m → News g L h' ((l, PySem.W.listOf (its.setIfInBounds k.toNat v) n) :: rest) → Q () { s with heap := h' }) : wpAny (model PR w) A (setItem (.ref l) (.int k t) v) Q E s := by
  have z := N _ (.head _)
  refine ki_setAt z.1 h0 (by omega) hn (h _ (F.change (Heap.SameBut.update ..) z.2.1 z.2.2) (ki_turn (pre := []) _ N (by simp) hne rfl (by simp)))
theorem list_is {h : Heap} {l : Addr} {its : Array Value} {n : Nat} (e : h.get? l = some (PySem.W.listOf its n)) : h.IsList l its := PySem.IsL.isList (n := n) e
end Mine
end
section
open PySem PySem.W PyProof.Rows
set_option maxRecDepth 100000
set_option maxHeartbeats 2000000
namespace Mine
noncomputable def Four (o : Obj) : Prop := ∃ a b c d ta tb tc td, ∃ k, o = PySem.W.listOf #[.int a ta, .int b tb, .int c tc, .int d td] k
theorem four_set {j : Nat} (h : j < 4) (a b c d : Int) (ta tb tc td : Tok) (v : Int) (tv : Tok) (k : Nat) : Four (PySem.W.listOf (#[Value.int a ta, .int b tb, .int c tc, .int d td].setIfInBounds j (.int v tv)) k) := by
  have : j = 0 ∨ j = 1 ∨ j = 2 ∨ j = 3 := by omega
  rcases this with rfl | rfl | rfl | rfl <;> exact ⟨_, _, _, _, _, _, _, _, _, rfl⟩
theorem cells_spec {w : World} {A : Around} {s : Shared} {E : Value → Shared → Prop} (hh : A.handled = none) (hd : A.depth + 1 ≤ 301 + 20 * 2) (hu : A.units + 3 ≤ 100 * 2) (W : Wd w s.heap) (l : Addr) (items : Array Value) (ns : List Int) (hl : s.heap.IsList l items) (hi : IntsAre items.toList ns) (hn : items.size ≤ 1000) :
    wpAny (model PR w) A (call (.ref 101) [.ref l]) (fun v s' => ∃ r o, v = .ref r ∧ After s s' ∧ s.heap.get? r = none ∧ s'.heap.get? r = some o ∧ Four o) E s := by
  obtain ⟨_, _, _, T⟩ := W.t
  have X := W.k
  refine call_fn (n := 2) (f := 101) (c := 100) (i := 13) (binds := [("script", .ref l)]) hh hd hu (by decide) W rfl rfl (BindsTo.of_eq rfl) (by decide +kernel) (locs rfl) rfl rfl rfl (fun h₁ F => ?_)
  have N : News s.heap s.heap.objs.size h₁ [] := News.nil
  w_on
  refine fill_of ?_; k_fill; intro _
  refine seq (J := fun s' => ∃ r o, Four o ∧ At s.heap s.heap.objs.size s [("script", .ref l), ("cells", .ref r)] [(r, o)] s') ?_ ?_
  · walk_at "go"
    exact ⟨rfl, _, _, ⟨_, _, _, _, _, _, _, _, _, rfl⟩, ⟨frUpd (by assumption) rfl, by assumption, rfl, rfl, rfl⟩⟩
  clear F N
  rintro s1 ⟨r, o, ho, I⟩
  refine seq (J := fun s' => ∃ o post, Four o ∧ At s.heap s.heap.objs.size s (([("script", .ref l), ("cells", .ref r)] : NM) ++ post) [(r, o)] s') ?_ ?_
  · refine for_rule (s₀ := s) (g := s.heap) (n := items.size) (P := fun i v => ∃ t, v = .int (i : Int) t) [r] [] (fun i e led => ∃ o, Four o ∧ e = ([("script", .ref l), ("cells", .ref r)] : NM) ∧ led = [(r, o)])
      _ [] _ rfl rfl (by rintro i e led ⟨o, _, rfl, rfl⟩; exact ⟨rfl, rfl⟩) ⟨o, ho, rfl, rfl⟩ ?_ ?_ ?_
    · have F := I.F
      have N := I.N
      have hl' := hl.at (fun o e => I.F.keep _ o e)
      walk_at "go"
      refine itRange rfl ⟨by assumption, by assumption, I.g, I.d, I.o⟩ (by assumption) (by omega) (by simp)
    · rintro i v e led own post s3 hi' ⟨tv, rfl⟩ ⟨o, ho, rfl, rfl⟩ hown I
      have F := I.F
      have N := I.N
      obtain ⟨a, b, c, d, ta, tb, tc, td, k, rfl⟩ := ho
      have hm0 : 0 ≤ ((i : Int)).fmod 4 := Int.fmod_nonneg_of_pos _ (by decide)
      have hm1 : ((i : Int)).fmod 4 < 4 := Int.fmod_lt_of_pos _ (by decide)
      have hl' := hl.at (fun o e => F.keep _ o e)
      have hx : ∃ x tx, items[((i : Int)).toNat]? = some (.int x tx) := by
        obtain ⟨x, tx, e, _⟩ := hi.at i items[i] (by simp [hi'])
        exact ⟨x, tx, by simp [hi', e]⟩
      obtain ⟨x, tx, hx⟩ := hx
      walk_at "go"
      refine sub_list hl' (by omega) (by omega) hx ?_
      walk_at "go"
      refine set_mine (rest := own) (by assumption) (by assumption) (fun p hp e => hown p hp (by rw [e]; exact List.mem_singleton.mpr rfl)) (by omega) (by simp; omega) (by simp) ?_
      intro h' F' N'
      walk_at "go"
      refine ⟨rfl, _, _, _, post, ⟨_, four_set (by omega) _ _ _ _ _ _ _ _ _ _ _, rfl, rfl⟩, F', N', I.g, I.d, I.o⟩
    · rintro e led post s' ⟨o, ho, rfl, rfl⟩ I'
      exact ⟨rfl, o, post, ho, I'⟩
  rintro s3 ⟨o, post, ho, I'⟩
  have F := I'.F
  have N := I'.N
  walk_at "go"
  have hl := N _ (.head _)
  exact ⟨r, _, rfl, ⟨F.keep, I'.g, I'.d, I'.o⟩, hl.2.2, hl.1, ho⟩
end Mine
end
section
open PySem PySem.W PyProof.Rows
set_option maxRecDepth 100000
set_option maxHeartbeats 2000000
namespace Mine
noncomputable def in7 (c : Nat) : Bool := (l7.map (·.1)).contains (c : Int)
noncomputable def in8 (c : Nat) : Bool := (l8.map (·.1)).contains (c : Int)
noncomputable def kind (c : Nat) : Option Int := if in7 c then some 0 else if in8 c then some 1 else none
noncomputable def beside : List Int := [831, 834, 8205, 8208, 8233, 8239, 8297, 8304, 12271, 12284]
theorem beside_at {j : Int} (h0 : 0 ≤ j) (h1 : j < 10) : 0 ≤ beside.getD j.toNat 0 ∧ beside.getD j.toNat 0 ≤ 1114111 ∧ kind (beside.getD j.toNat 0).toNat = none := by
  obtain ⟨k, rfl⟩ := Int.eq_ofNat_of_zero_le h0
  have hk : k < 10 := by omega
  rw [Int.toNat_natCast]
  exact (by decide +kernel : ∀ k, k < 10 → 0 ≤ beside.getD k 0 ∧ beside.getD k 0 ≤ 1114111 ∧ kind (beside.getD k 0).toNat = none) k hk
theorem frTailUpd {g h : Heap} {L : Addr} {x1 x2 : Str} {v1 v2 : Value} {m post m' : NM} (F : Fr g L h (fun y => if y = x2 then some v2 else if y = x1 then some v1 else (m ++ post).lookup y)) (hx : m.lookup x1 = none) (e : upd x2 v2 (m ++ ((x1, v1) :: post)) = m') : Fr g L h (fun y => m'.lookup y) := by
  subst e
  refine frCongr F fun y => ?_
  rw [lookup_upd, lookup_app, lookup_app, List.lookup_cons]
  by_cases h2 : y = x2
  · rw [if_pos h2, if_pos h2]
  · rw [if_neg h2, if_neg h2]
    by_cases hy : y = x1
    · subst hy; rw [hx]; simp
    · rw [if_neg hy, beq_eq_false_iff_ne.mpr hy]
theorem k7 {j : Int} (h0 : 0 ≤ j) (h1 : j < 12) : kind (12272 + j).toNat = some 0 := by
  obtain ⟨k, rfl⟩ := Int.eq_ofNat_of_zero_le h0
  have hk : k < 12 := by omega
  rw [show (12272 + (k : Int)).toNat = 12272 + k by omega]
  exact (by decide +kernel : ∀ k, k < 12 → kind (12272 + k) = some 0) k hk
theorem k8 {j : Int} (h0 : 0 ≤ j) (h1 : j < 4) : 0 ≤ ([832, 833, 8206, 8207] : List Int).getD j.toNat 0 ∧ ([832, 833, 8206, 8207] : List Int).getD j.toNat 0 ≤ 1114111 ∧ kind (([832, 833, 8206, 8207] : List Int).getD j.toNat 0).toNat = some 1 := by
  obtain ⟨k, rfl⟩ := Int.eq_ofNat_of_zero_le h0
  have hk : k < 4 := by omega
  rw [Int.toNat_natCast]
  exact (by decide +kernel : ∀ k, k < 4 → 0 ≤ ([832, 833, 8206, 8207] : List Int).getD k 0 ∧ ([832, 833, 8206, 8207] : List Int).getD k 0 ≤ 1114111 ∧ kind (([832, 833, 8206, 8207] : List Int).getD k 0).toNat = some 1) k hk
theorem k8' {j : Int} (h0 : 4 ≤ j) (h1 : j < 9) : kind (8230 + j).toNat = some 1 := by
  obtain ⟨k, rfl⟩ := Int.eq_ofNat_of_zero_le (show 0 ≤ j by omega)
  have hk : k < 9 := by omega
  rw [show (8230 + (k : Int)).toNat = 8230 + k by omega]
  exact (by decide +kernel : ∀ k, k < 9 → 4 ≤ k → kind (8230 + k) = some 1) k hk (by omega)
theorem k8'' {j : Int} (h0 : 9 ≤ j) (h1 : j < 15) : kind (8289 + j).toNat = some 1 := by
  obtain ⟨k, rfl⟩ := Int.eq_ofNat_of_zero_le (show 0 ≤ j by omega)
  have hk : k < 15 := by omega
  rw [show (8289 + (k : Int)).toNat = 8289 + k by omega]
  exact (by decide +kernel : ∀ k, k < 15 → 9 ≤ k → kind (8289 + k) = some 1) k hk (by omega)
theorem page_spec {w : World} {A : Around} {s : Shared} {E : Value → Shared → Prop} (hh : A.handled = none) (hd : A.depth + 1 ≤ 301 + 20 * 2) (hu : A.units + 3 ≤ 100 * 2) (W : Wd w s.heap) (l : Addr) (items : Array Value) (ns : List Int) (hl : s.heap.IsList l items) (hi : IntsAre items.toList ns) (hn : items.size = 10) (hb : ∀ x ∈ ns, x = 0 ∨ x = 1)
    (a b c : Int) (ta tb tc : Tok) (ha : 0 ≤ a) (ha' : a < 12) (hb0 : 0 ≤ b) (hb' : b < 15) (hc : 0 ≤ c) (hc' : c < 1024) :
    wpAny (model PR w) A (call (.ref 120) [.ref l, .int a ta, .int b tb, .int c tc]) (fun v s' => ∃ (cs : List Nat) (t : Tok), v = .str ⟨cs.toArray⟩ t ∧ cs.filterMap kind = ns ∧ cs.length ≤ 20 ∧ After s s') E s := by
  obtain ⟨_, _, _, T⟩ := W.t
  have X := W.k
  refine call_fn (n := 2) (f := 120) (c := 119) (i := 16) (binds := [("row", .ref l), ("seven", .int a ta), ("eight", .int b tb), ("strange", .int c tc)]) hh hd hu (by decide) W rfl rfl (BindsTo.of_eq rfl) (by decide +kernel) (locs rfl) rfl rfl rfl (fun h₁ F => ?_)
  have N : News s.heap s.heap.objs.size h₁ [] := News.nil
  w_on
  refine fill_of ?_; k_fill; intro _
  show wpAny _ _ (execs (_ :: _) _) _ _ _
  with_reducible refine seq (J := fun s' => ∃ r k bs, IntsAre bs beside ∧ At s.heap s.heap.objs.size s [("strange", .int c tc), ("eight", .int b tb), ("seven", .int a ta), ("row", .ref l), ("beside", .ref r)] [(r, PySem.W.listOf bs.toArray k)] s') ?_ ?_
  · walk_at "go"
    exact ⟨rfl, _, _, [_, _, _, _, _, _, _, _, _, _], .cons _ _ (.cons _ _ (.cons _ _ (.cons _ _ (.cons _ _ (.cons _ _ (.cons _ _ (.cons _ _ (.cons _ _ (.cons _ _ .nil))))))))), ⟨frUpd (by assumption) rfl, by assumption, rfl, rfl, rfl⟩⟩
  clear F N
  rintro s1 ⟨r, k, bs, hbs, I⟩
  refine seq (J := fun s' => ∃ t, At s.heap s.heap.objs.size s [("strange", .int c tc), ("eight", .int b tb), ("seven", .int a ta), ("row", .ref l), ("beside", .ref r), ("page", .str ⟨#[]⟩ t)] [(r, PySem.W.listOf bs.toArray k)] s') ?_ ?_
  · have F := I.F
    have N := I.N
    walk_at "go"
    exact ⟨rfl, _, ⟨frUpd (by assumption) rfl, by assumption, I.g, I.d, I.o⟩⟩
  clear I
  rintro s2 ⟨t, I⟩
  refine seq (J := fun s' => ∃ (cs : List Nat) (t : Tok) (post : NM) (led : LD), cs.filterMap kind = ns ∧ cs.length ≤ 20 ∧ At s.heap s.heap.objs.size s (([("strange", .int c tc), ("eight", .int b tb), ("seven", .int a ta), ("row", .ref l), ("beside", .ref r), ("page", .str ⟨cs.toArray⟩ t)] : NM) ++ post) led s') ?_ ?_
  · refine for_rule (s₀ := s) (g := s.heap) (n := 10) (P := fun i v => ∃ t, v = .int (i : Int) t) [r] [] (fun i e led => ∃ (cs : List Nat) (t : Tok), cs.filterMap kind = ns.take i ∧ cs.length ≤ 2 * i ∧ e = ([("strange", .int c tc), ("eight", .int b tb), ("seven", .int a ta), ("row", .ref l), ("beside", .ref r), ("page", .str ⟨cs.toArray⟩ t)] : NM) ∧ led = [(r, PySem.W.listOf bs.toArray k)])
      _ [] _ rfl rfl (by rintro i e led ⟨cs, t, _, _, rfl, rfl⟩; exact ⟨rfl, rfl⟩) ⟨[], t, rfl, by simp, rfl, rfl⟩ ?_ ?_ ?_
    · have F := I.F
      have N := I.N
      walk_at "go"
      refine itRange rfl ⟨by assumption, by assumption, I.g, I.d, I.o⟩ (by assumption) (by omega) (by simp)
    · rintro i v e led own post s3 hi' ⟨tv, rfl⟩ ⟨cs, t, hk, hcs, rfl, rfl⟩ hown I
      refine seq (J := fun s' => ∃ (cs' : List Nat) (t : Tok), cs'.filterMap kind = ns.take i ∧ cs'.length ≤ 2 * i + 1 ∧ At s.heap s.heap.objs.size s ((("k", .int (i : Int) tv) :: (([("strange", .int c tc), ("eight", .int b tb), ("seven", .int a ta), ("row", .ref l), ("beside", .ref r), ("page", .str ⟨cs'.toArray⟩ t)] : NM) ++ post))) ([(r, PySem.W.listOf bs.toArray k)] ++ ([] ++ own)) s') ?_ ?_
      · have F := I.F
        have N := I.N
        have hm0 : 0 ≤ (c + (i : Int)).fmod 10 := Int.fmod_nonneg_of_pos _ (by decide)
        have hm1 : (c + (i : Int)).fmod 10 < 10 := Int.fmod_lt_of_pos _ (by decide)
        have hxx := beside_at hm0 hm1
        have hlen : ({ cps := cs.toArray } : Str).length ≤ 100 := by
          show cs.toArray.size ≤ 100
          simp; omega
        walk_at "go"
        · refine ⟨rfl, cs ++ [(beside.getD ((c + (i : Int)).fmod 10).toNat 0).toNat], _, by rw [List.filterMap_append, hk, List.filterMap_cons, hxx.2.2]; simp, by simp; omega, frUpd ‹Fr _ _ _ (fun y => if y = _ then some (Value.str _ _) else _)› (by rw [cat1 (l' := cs ++ [(beside.getD ((c + (i : Int)).fmod 10).toNat 0).toNat]) _ _ rfl rfl]; rfl), by assumption, I.g, I.d, I.o⟩
        · exact ⟨rfl, cs, t, hk, by omega, F, N, I.g, I.d, I.o⟩
      · rintro s4 ⟨cs', t', hk', hcs', I⟩
        have F := I.F
        have N := I.N
        have hl' := hl.at (fun o e => F.keep _ o e)
        obtain ⟨x, tx, hx, hxx⟩ := hi.at i items[i] (by simp)
        have hx' : items[((i : Int)).toNat]? = some (.int x tx) := by
          simp [← hx]
        have hmem := List.mem_of_getElem? hxx
        have hlen : ({ cps := cs'.toArray } : Str).length ≤ 100 := by
          show cs'.toArray.size ≤ 100
          simp; omega
        have hm0 : 0 ≤ (a + (i : Int)).fmod 12 := Int.fmod_nonneg_of_pos _ (by decide)
        have hm1 : (a + (i : Int)).fmod 12 < 12 := Int.fmod_lt_of_pos _ (by decide)
        have hp0 : 0 ≤ (b + (i : Int)).fmod 15 := Int.fmod_nonneg_of_pos _ (by decide)
        have hp1 : (b + (i : Int)).fmod 15 < 15 := Int.fmod_lt_of_pos _ (by decide)
        walk_at "go"
        refine sub_list hl' (by omega) (by omega) hx' ?_
        walk_at "go"
        · have hkd := k7 hm0 hm1
          have hz : x = 0 := by assumption
          subst hz
          exact ⟨rfl, _, _, _, post, ⟨cs' ++ [(12272 + (a + (i : Int)).fmod 12).toNat], _, by rw [List.filterMap_append, hk', List.take_add_one, hxx, List.filterMap_cons, hkd]; rfl, by simp; omega, rfl, rfl⟩, frUpd ‹Fr _ _ _ (fun y => if y = _ then some (Value.str _ _) else _)› (by rw [cat1 (l' := cs' ++ [(12272 + (a + (i : Int)).fmod 12).toNat]) _ _ rfl rfl]; rfl), by assumption, I.g, I.d, I.o⟩
        · obtain ⟨q0, q1, q2⟩ := k8 hp0 ‹_ < (4 : Int)›
          have hz : x = 1 := (hb _ hmem).resolve_left (by assumption)
          subst hz
          refine chr_of_range q0 q1 ?_
          walk_at "go"
          refine ⟨rfl, _, _, _, ("place", _) :: post, ⟨cs' ++ [(([832, 833, 8206, 8207] : List Int).getD ((b + (i : Int)).fmod 15).toNat 0).toNat], _, by rw [List.filterMap_append, hk', List.take_add_one, hxx, List.filterMap_cons, q2]; rfl, by simp; omega, rfl, rfl⟩, frTailUpd (m := ([("k", .int (i : Int) tv), ("strange", .int c tc), ("eight", .int b tb), ("seven", .int a ta), ("row", .ref l), ("beside", .ref r), ("page", .str ⟨cs'.toArray⟩ t')] : NM)) (post := post) ‹Fr _ _ _ (fun y => if y = _ then some (Value.str _ _) else _)› rfl (by rw [cat1 (l' := cs' ++ [(([832, 833, 8206, 8207] : List Int).getD ((b + (i : Int)).fmod 15).toNat 0).toNat]) _ _ rfl rfl]; rfl), fun p hp => ‹News _ _ _ ((_, PySem.W.listOf #[_, _, _, _] _) :: _)› p (List.mem_cons_of_mem _ hp), I.g, I.d, I.o⟩
        · have hkd := k8' (j := (b + (i : Int)).fmod 15) (by omega) (by omega)
          have hz : x = 1 := (hb _ hmem).resolve_left (by assumption)
          subst hz
          exact ⟨rfl, _, _, _, ("place", _) :: post, ⟨cs' ++ [(8230 + (b + (i : Int)).fmod 15).toNat], _, by rw [List.filterMap_append, hk', List.take_add_one, hxx, List.filterMap_cons, hkd]; rfl, by simp; omega, rfl, rfl⟩, frTailUpd (m := ([("k", .int (i : Int) tv), ("strange", .int c tc), ("eight", .int b tb), ("seven", .int a ta), ("row", .ref l), ("beside", .ref r), ("page", .str ⟨cs'.toArray⟩ t')] : NM)) (post := post) ‹Fr _ _ _ (fun y => if y = _ then some (Value.str _ _) else _)› rfl (by rw [cat1 (l' := cs' ++ [(8230 + (b + (i : Int)).fmod 15).toNat]) _ _ rfl rfl]; rfl), by assumption, I.g, I.d, I.o⟩
        · have hkd := k8'' (j := (b + (i : Int)).fmod 15) (by omega) (by omega)
          have hz : x = 1 := (hb _ hmem).resolve_left (by assumption)
          subst hz
          exact ⟨rfl, _, _, _, ("place", _) :: post, ⟨cs' ++ [(8289 + (b + (i : Int)).fmod 15).toNat], _, by rw [List.filterMap_append, hk', List.take_add_one, hxx, List.filterMap_cons, hkd]; rfl, by simp; omega, rfl, rfl⟩, frTailUpd (m := ([("k", .int (i : Int) tv), ("strange", .int c tc), ("eight", .int b tb), ("seven", .int a ta), ("row", .ref l), ("beside", .ref r), ("page", .str ⟨cs'.toArray⟩ t')] : NM)) (post := post) ‹Fr _ _ _ (fun y => if y = _ then some (Value.str _ _) else _)› rfl (by rw [cat1 (l' := cs' ++ [(8289 + (b + (i : Int)).fmod 15).toNat]) _ _ rfl rfl]; rfl), by assumption, I.g, I.d, I.o⟩
    · rintro e led post s' ⟨cs, t, hk, hcs, rfl, rfl⟩ I'
      exact ⟨rfl, cs, t, post, _, by rw [hk, List.take_of_length_le]; rw [← hi.length]; simp [hn], by omega, I'⟩
  rintro s3 ⟨cs, t', post, led, h1, h2, I'⟩
  have F := I'.F
  have N := I'.N
  walk_at "go"
  exact ⟨cs, _, rfl, h1, h2, ⟨F.keep, I'.g, I'.d, I'.o⟩⟩
end Mine
end
section
open PySem PySem.W PyProof.Rows
namespace Mine
noncomputable def padN (m : Nat) (ink : List Nat) (n : Nat) : List Nat := List.replicate m 32 ++ ink ++ List.replicate n 32
theorem blank1 : Str.ofString " " = ⟨#[32]⟩ := by decide +kernel
theorem mulS {ch : Str} {c : Nat} (hc : ch = ⟨#[c]⟩) (n : Int) : Txt.mul ch n = ⟨(List.replicate n.toNat c).toArray⟩ := by
  subst hc
  refine Str.ext' (Array.toList_inj.mp ?_)
  rw [mul_one_list]
theorem catL (a b : List Nat) : (⟨a.toArray⟩ : Str) ++ ⟨b.toArray⟩ = ⟨(a ++ b).toArray⟩ := by
  refine Str.ext' ?_
  rw [Str.cps_append]; simp
theorem pad_mul (m n : Nat) (ink : List Nat) (st : Int) : Txt.mul (Str.ofString " ") st ++ ⟨(padN m ink n).toArray⟩ = ⟨(padN (m + st.toNat) ink n).toArray⟩ := by
  rw [mulS blank1, catL]
  unfold padN
  rw [Nat.add_comm m, List.append_assoc, List.append_assoc, ← List.append_assoc (List.replicate st.toNat 32), List.replicate_append_replicate]
theorem pad_len (m n : Nat) (ink : List Nat) : (padN m ink n).length = m + ink.length + n := by simp [padN]; omega
theorem pad_ends {x y : Nat} (hx : x ≠ 32) (hy : y ≠ 32) (m n : Nat) : Ends ⟨(padN m [x, 32, y] n).toArray⟩ m (m + 2) := by
  have hl : ∀ i, i < m → (padN m [x, 32, y] n)[i]? = some 32 := by
    intro i hi
    unfold padN
    rw [List.append_assoc, List.getElem?_append_left (by simpa using hi)]
    simp [hi]
  have hm : ∀ j, j < 3 → (padN m [x, 32, y] n)[m + j]? = [x, 32, y][j]? := by
    intro j hj
    unfold padN
    rw [List.append_assoc, List.getElem?_append_right (by simp), List.getElem?_append_left (by simp; omega)]
    simp
  have hr : ∀ i, m + 2 < i → i < m + 3 + n → (padN m [x, 32, y] n)[i]? = some 32 := by
    intro i h1 h2
    unfold padN
    rw [List.getElem?_append_right (by simp; omega)]
    rw [List.getElem?_replicate]
    simp only [List.length_append, List.length_replicate, List.length_cons, List.length_nil]
    rw [if_pos (by omega)]
  refine ⟨by omega, by simp [padN], ?_, ?_, ?_, ?_⟩
  · intro i hi; simpa using hl i hi
  · have := hm 0 (by omega)
    simp only [Nat.add_zero] at this
    rw [List.getElem?_toArray, this]; simpa using hx
  · rw [List.getElem?_toArray, hm 2 (by omega)]; simpa using hy
  · intro i h1 h2
    rw [List.getElem?_toArray]
    refine hr i h1 ?_
    simpa [padN, Nat.add_assoc, Nat.add_comm, Nat.add_left_comm] using h2
theorem pad_strip (m n a : Nat) (x y : Nat) : (padN m [x, 32, y] n).toArray.extract (min a m) ((padN m [x, 32, y] n).toArray.size - min (a - min a m) ((padN m [x, 32, y] n).toArray.size - 1 - (m + 2))) = (padN (m - a) [x, 32, y] (n - (a - m))).toArray := by
  have hs : (padN m [x, 32, y] n).toArray.size = m + 3 + n := by simp [padN]; omega
  rw [hs, show m + 3 + n - 1 - (m + 2) = n by omega]
  rw [← Array.toList_inj, Array.toList_extract, List.extract_eq_take_drop]
  simp only [List.toList_toArray]
  unfold padN
  have e1 : List.drop (min a m) (List.replicate m 32 ++ [x, 32, y] ++ List.replicate n 32) = List.replicate (m - a) 32 ++ [x, 32, y] ++ List.replicate n 32 := by
    rw [List.append_assoc, List.drop_append_of_le_length (by simp; omega), List.drop_replicate, show m - min a m = m - a by omega, List.append_assoc]
  rw [e1]
  rw [List.take_append, List.take_of_length_le (by simp; omega), List.take_replicate]
  congr 2
  simp; omega
end Mine
end
section
open PySem PySem.W PyProof.Rows
set_option maxRecDepth 100000
set_option maxHeartbeats 2000000
namespace Mine
noncomputable def lstep (s : Nat × Nat) (t : Int) : Nat × Nat := if t > 0 then (s.1 + t.toNat, s.2) else (s.1 - (-t).toNat, s.2 - ((-t).toNat - s.1))
noncomputable def stepsOf (ps qs : List Int) (c : Nat) : List Int := if in7 c then ps else if in8 c then qs else []
noncomputable def lineF (ps qs : List Int) (s : Nat × Nat) (cs : List Nat) : Nat × Nat := cs.foldl (fun s c => (stepsOf ps qs c).foldl lstep s) s
noncomputable def Sml (ps : List Int) : Prop := ps.length ≤ 2 ∧ ∀ x ∈ ps, -3 ≤ x ∧ x ≤ 3
theorem frTail2 {g h : Heap} {L : Addr} {x1 x2 : Str} {v1 v2 : Value} {m post : NM} (F : Fr g L h (fun y => if y = x2 then some v2 else if y = x1 then some v1 else (m ++ post).lookup y)) (h1 : m.lookup x1 = none) (h2 : m.lookup x2 = none) (hn : x2 ≠ x1) : Fr g L h (fun y => (m ++ ((x2, v2) :: (x1, v1) :: post)).lookup y) :=
  frCongr F fun y => by
    rw [lookup_app, lookup_app, List.lookup_cons, List.lookup_cons]
    by_cases hy : y = x2
    · subst hy; rw [h2]; simp
    · rw [if_neg hy, beq_eq_false_iff_ne.mpr hy]
      by_cases hz : y = x1
      · subst hz; rw [h1]; simp
      · rw [if_neg hz, beq_eq_false_iff_ne.mpr hz]
theorem in78 {c : Nat} (h : in7 c = true) : in8 c = false := by
  have all : ∀ x ∈ l7.map (·.1), (l8.map (·.1)).contains x = false := by decide +kernel
  exact all _ (List.contains_iff_mem.mp h)
theorem line_spec {w : World} {A : Around} {s : Shared} {E : Value → Shared → Prop} (hh : A.handled = none) (hd : A.depth + 1 ≤ 301 + 20 * 2) (hu : A.units + 3 ≤ 100 * 2) (W : Wd w s.heap) (cs : List Nat) (l p q : Addr) (vp vq : Array Value) (ps qs : List Int) (hcs : cs.length ≤ 20)
    (hl : s.heap.IsList l #[.ref p, .ref q]) (hp : s.heap.IsList p vp) (hq : s.heap.IsList q vq) (hip : IntsAre vp.toList ps) (hiq : IntsAre vq.toList qs) (sp : Sml ps) (sq : Sml qs) (x y : Nat) (hx : x ≠ 32) (hy : y ≠ 32) (m n : Nat) (hm : m + n ≤ 1000) (t1 t2 : Tok) :
    wpAny (model PR w) A (call (.ref 139) [.str ⟨cs.toArray⟩ t1, .ref l, .str ⟨(padN m [x, 32, y] n).toArray⟩ t2]) (fun v s' => ∃ t, v = .str ⟨(padN (lineF ps qs (m, n) cs).1 [x, 32, y] (lineF ps qs (m, n) cs).2).toArray⟩ t ∧ After s s') E s := by
  obtain ⟨_, _, _, T⟩ := W.t
  have X := W.k
  refine call_fn (n := 2) (f := 139) (c := 138) (i := 19) (binds := [("page", .str ⟨cs.toArray⟩ t1), ("told", .ref l), ("line", .str ⟨(padN m [x, 32, y] n).toArray⟩ t2)]) hh hd hu (by decide) W rfl rfl (BindsTo.of_eq rfl) (by decide +kernel) (locs rfl) rfl rfl rfl (fun h₁ F => ?_)
  have N : News s.heap s.heap.objs.size h₁ [] := News.nil
  w_on
  refine fill_of ?_; k_fill; intro _
  show wpAny _ _ (execs (_ :: _) _) _ _ _
  with_reducible refine seq (J := fun s' => ∃ post t, At s.heap s.heap.objs.size s (([("line", .str ⟨(padN (lineF ps qs (m, n) cs).1 [x, 32, y] (lineF ps qs (m, n) cs).2).toArray⟩ t), ("told", .ref l), ("page", .str ⟨cs.toArray⟩ t1)] : NM) ++ post) [] s') ?_ ?_
  · refine for_rule (s₀ := s) (g := s.heap) (n := cs.length) (P := SignAt ⟨cs.toArray⟩) [] [] (fun i e led => ∃ m' n' t, lineF ps qs (m, n) (cs.take i) = (m', n') ∧ m' + n' ≤ 1000 + 6 * i ∧ e = ([("line", .str ⟨(padN m' [x, 32, y] n').toArray⟩ t), ("told", .ref l), ("page", .str ⟨cs.toArray⟩ t1)] : NM) ∧ led = [])
      _ [] _ rfl rfl (by rintro i e led ⟨m', n', t, _, _, rfl, rfl⟩; exact ⟨rfl, rfl⟩) ⟨m, n, t2, rfl, by omega, rfl, rfl⟩ ?_ ?_ ?_
    · walk_at "go"
      exact itStr rfl ⟨F, N, rfl, rfl, rfl⟩ (by simp)
    · rintro i v e led own post s3 hi ⟨c, u, hc, rfl⟩ ⟨m', n', t, he, hmn, rfl, rfl⟩ hown I
      refine seq (J := fun s' => ∃ post, At s.heap s.heap.objs.size s ((("sign", .str ⟨#[c]⟩ u) :: [("line", .str ⟨(padN m' [x, 32, y] n').toArray⟩ t), ("told", .ref l), ("page", .str ⟨cs.toArray⟩ t1)] : NM) ++ (("seven", .bool (in7 c)) :: ("eight", .bool (in8 c)) :: post : NM)) own s') ?_ ?_
      · have F := I.F
        have N := I.N
        walk_at "go"
        refine bot (wpAny_mono (c7_spec rfl (by decide) (by decide) (W.keeps F.keep) _ _) (fun v s' hv => ?_) fun _ _ x => x)
        obtain ⟨rfl, ha⟩ := hv
        have I' := I.keeps ha
        clear F N
        have F := I'.F
        have N := I'.N
        walk_at "go"
        refine bot (wpAny_mono (c8_spec rfl (by decide) (by decide) (W.keeps F.keep) _ _) (fun v s' hv => ?_) fun _ _ x => x)
        obtain ⟨rfl, ha⟩ := hv
        have I := I'.keeps ha
        clear I' F N
        have F := I.F
        have N := I.N
        walk_at "go"
        rename Fr _ _ _ (fun y => if y = _ then _ else _) => F2
        rename News _ _ _ _ => N2
        exact ⟨rfl, post, frTail2 (m := (("sign", .str ⟨#[c]⟩ u) :: [("line", .str ⟨(padN m' [x, 32, y] n').toArray⟩ t), ("told", .ref l), ("page", .str ⟨cs.toArray⟩ t1)] : NM)) F2 rfl rfl (by decide +kernel), fun p hp => N2 p (List.mem_cons_of_mem _ hp), I.g, I.d, I.o⟩
      clear I
      rintro s4 ⟨post, I⟩
      refine seq (J := fun s' => ∃ r its post, s'.heap.IsList r its ∧ r ≠ s.heap.objs.size ∧ IntsAre its.toList (stepsOf ps qs c) ∧ At s.heap s.heap.objs.size s ((("sign", .str ⟨#[c]⟩ u) :: [("line", .str ⟨(padN m' [x, 32, y] n').toArray⟩ t), ("told", .ref l), ("page", .str ⟨cs.toArray⟩ t1)] : NM) ++ (("steps", .ref r) :: post : NM)) own s') ?_ ?_
      · have F := I.F
        have N := I.N
        have hl' := hl.at (fun o e => F.keep _ o e)
        unfold stepsOf
        cases e7 : in7 c with
        | true =>
          have e8 : in8 c = false := in78 e7
          rw [e7, e8] at F
          walk_at "go"
          rename Fr _ _ _ (fun y => if y = _ then _ else _) => F2
          obtain ⟨op, hop, _⟩ := id hp
          exact ⟨rfl, p, vp, _, hp.at (fun o e => F2.keep _ o e), Nat.ne_of_lt (Heap.lt_size hop), by simpa using hip, frTail (m := (("sign", .str ⟨#[c]⟩ u) :: [("line", .str ⟨(padN m' [x, 32, y] n').toArray⟩ t), ("told", .ref l), ("page", .str ⟨cs.toArray⟩ t1)] : NM)) F2 rfl, by assumption, I.g, I.d, I.o⟩
        | false =>
          cases e8 : in8 c with
          | true =>
            rw [e7, e8] at F
            walk_at "go"
            rename Fr _ _ _ (fun y => if y = _ then _ else _) => F2
            obtain ⟨op, hop, _⟩ := id hq
            exact ⟨rfl, q, vq, _, hq.at (fun o e => F2.keep _ o e), Nat.ne_of_lt (Heap.lt_size hop), by simpa using hiq, frTail (m := (("sign", .str ⟨#[c]⟩ u) :: [("line", .str ⟨(padN m' [x, 32, y] n').toArray⟩ t), ("told", .ref l), ("page", .str ⟨cs.toArray⟩ t1)] : NM)) F2 rfl, by assumption, I.g, I.d, I.o⟩
          | false =>
            rw [e7, e8] at F
            walk_at "go"
            rename Fr _ _ _ (fun y => if y = _ then _ else _) => F2
            rename News _ _ _ _ => N2
            exact ⟨rfl, _, #[], _, list_is (N2 _ (.head _)).1, (N2 _ (.head _)).2.1, .nil, frTail (m := (("sign", .str ⟨#[c]⟩ u) :: [("line", .str ⟨(padN m' [x, 32, y] n').toArray⟩ t), ("told", .ref l), ("page", .str ⟨cs.toArray⟩ t1)] : NM)) F2 rfl, fun p hp => N2 p (List.mem_cons_of_mem _ hp), I.g, I.d, I.o⟩
      clear I
      rintro s5 ⟨r, its, post, hr, hrL, hits, I⟩
      have hsm : Sml (stepsOf ps qs c) := by
        unfold stepsOf
        split
        · exact sp
        · split
          · exact sq
          · exact ⟨by simp, by simp⟩
      have hsz : its.size = (stepsOf ps qs c).length := by rw [← hits.length]; simp
      refine seq (J := fun s' => ∃ post m'' n'' t, (stepsOf ps qs c).foldl lstep (m', n') = (m'', n'') ∧ m'' + n'' ≤ 1000 + 6 * (i + 1) ∧ At s.heap s.heap.objs.size s ((("sign", .str ⟨#[c]⟩ u) :: [("line", .str ⟨(padN m'' [x, 32, y] n'').toArray⟩ t), ("told", .ref l), ("page", .str ⟨cs.toArray⟩ t1)] : NM) ++ post) own s') ?_ ?_
      · refine for_rule (s₀ := s) (g := s.heap) (n := its.size) (P := fun i v => its[i]? = some v) [] own (fun j e led => ∃ m'' n'' t, ((stepsOf ps qs c).take j).foldl lstep (m', n') = (m'', n'') ∧ m'' + n'' ≤ 1000 + 6 * i + 3 * j ∧ e = (("sign", .str ⟨#[c]⟩ u) :: [("line", .str ⟨(padN m'' [x, 32, y] n'').toArray⟩ t), ("told", .ref l), ("page", .str ⟨cs.toArray⟩ t1)] : NM) ∧ led = [])
          _ (("steps", .ref r) :: post) _ rfl rfl (by rintro i e led ⟨_, _, _, _, _, rfl, rfl⟩; exact ⟨rfl, rfl⟩) ⟨m', n', t, rfl, by omega, rfl, rfl⟩ ?_ ?_ ?_
        · have F := I.F
          have N := I.N
          walk_at "go"
          exact itList rfl I hr hrL (by simp) (by simp)
        · rintro j v e led own' post' s6 hj hv ⟨m'', n'', t', he', hmn', rfl, rfl⟩ hown' I
          obtain ⟨st, ts, rfl, hst⟩ := hits.at j v (by simpa using hv)
          have hb := hsm.2 st (List.mem_of_getElem? hst)
          have hj2 : j < 2 := by have := hsm.1; omega
          have hlen : ({ cps := (padN m'' [x, 32, y] n'').toArray } : Str).length ≤ 2000 := by
            show (padN m'' [x, 32, y] n'').toArray.size ≤ 2000
            simp [padN]; omega
          have F := I.F
          have N := I.N
          walk_at "go"
          · rename Fr _ _ _ (fun y => if y = _ then _ else _) => F2
            rename 0 < st => hpos
            exact ⟨rfl, _, _, _, post', ⟨m'' + st.toNat, n'', _, by rw [List.take_add_one, hst]; simp [List.foldl_append, he', lstep, hpos], by omega, rfl, rfl⟩, frUpd F2 (by rw [pad_mul]; rfl), by assumption, I.g, I.d, I.o⟩
          · rename ¬ 0 < st => hneg
            obtain ⟨a, ha⟩ := Int.eq_ofNat_of_zero_le (show 0 ≤ -st by omega)
            rw [ha]
            refine bot (wpAny_mono (strip_spec (A := AA 2) (s := { s6 with toks := s6.toks + 1 + 1 }) rfl (by decide) (by decide) (W.keeps F.keep) _ a _ _ m'' (m'' + 2) (pad_ends hx hy _ _) (by show ({ cps := (padN m'' [x, 32, y] n'').toArray } : Str).length ≤ 10000; omega)) (fun v s' hv => ?_) fun _ _ x => x)
            obtain ⟨t3, rfl, haf⟩ := hv
            have I' := I.keeps ⟨haf.k, haf.g, haf.d, haf.o⟩
            clear F N I
            have F := I'.F
            have N := I'.N
            walk_at "go"
            rename Fr _ _ _ (fun y => if y = _ then _ else _) => F2
            have hst' : (-st).toNat = a := by omega
            exact ⟨rfl, _, _, _, post', ⟨m'' - a, n'' - (a - m''), _, by rw [List.take_add_one, hst]; simp [List.foldl_append, he', lstep, hneg, hst'], by omega, rfl, rfl⟩, frUpd F2 (by rw [pad_strip]; rfl), by assumption, I'.g, I'.d, I'.o⟩
        · rintro e led post' s' ⟨m'', n'', t', he', hmn', rfl, rfl⟩ I'
          rw [List.take_of_length_le (by omega)] at he'
          exact ⟨rfl, post', m'', n'', t', he', by have := hsm.1; omega, I'⟩
      clear I
      rintro s6 ⟨post, m'', n'', t, he', hmn', I⟩
      exact wpAny_execs_nil ⟨rfl, _, _, _, post, ⟨m'', n'', t, by rw [List.take_add_one, show cs[i]? = some c by simpa using hc]; unfold lineF at he ⊢; rw [List.foldl_append, he]; exact he', hmn', rfl, rfl⟩, I⟩
    · rintro e led post s' ⟨m', n', t, he, hmn, rfl, rfl⟩ I'
      rw [List.take_of_length_le (Nat.le_refl _)] at he
      exact ⟨rfl, post, t, by rw [he]; exact I'⟩
  rintro s3 ⟨post, t', I'⟩
  have F := I'.F
  have N := I'.N
  walk_at "go"
  exact ⟨_, rfl, ⟨F.keep, I'.g, I'.d, I'.o⟩⟩
end Mine
end
section
open PySem PySem.W PyProof.Rows
set_option maxRecDepth 100000
namespace Mine
/-- the tests of a comprehension -/
noncomputable abbrev testsOf (ifs : List Expr) (env : Env) : Sem Bool :=
  forIn ifs true fun c r => if r = true then do let ok ← isTrue c env (eval c env); pure (ForInStep.yield ok) else pure (ForInStep.yield r)
theorem loop_own {w : World} {A : Around} {R : Result → Shared → Prop} {s : Shared} {elt target iter : Expr} {ifs : List Expr} {scope : Scope} {pos : Pos} {it acc : Value} {env : Env} (I : Nat → Shared → Prop)
    (turn : ∀ n s, I n s → wpAny (model PR w) A (pyNext it) (fun r s₁ => match r with
      | none => R (.ok .next) s₁
      | some v => wpAny (model PR w) A (letOwnedTupleGo target it v) (fun _ s₁ => wpAny (model PR w) A (assign target env v) (fun _ s₂ =>
          wpAny (model PR w) A (testsOf ifs env) (fun ok s₃ =>
            if ok = true then wpAny (model PR w) A (eval elt env) (fun x s₄ =>
              wpAny (model PR w) A (call (.builtin "list.append") [acc, x]) (fun _ s₅ => ∃ m, m < n ∧ I m s₅) Bot s₄) Bot s₃
            else ∃ m, m < n ∧ I m s₃) Bot s₂) Bot s₁) Bot s₁) Bot s)
    (n : Nat) (h : I n s) :
    codeAny (model PR w) A (.compLoop (.ListComp elt [⟨target, iter, ifs, 0⟩] scope pos) 0 it acc env) R s := by
  refine codeAny_loop rfl I (fun n s hI => ?_) n h
  show wpAny _ A ((compTurn (.ListComp elt [⟨target, iter, ifs, 0⟩] scope pos) 0 it acc env).onRaise (fun x => do noteFrame x env; theTreesLotGoes x)) _ _ s
  refine wpAny_noted (bot ?_)
  rw [compTurn_list]
  refine wpAny_bind (wpAny_standAt (wpAny_bind (wpAny_mono (turn n s hI) (fun r s₁ h₁ => ?_) fun _ _ h' => h')))
  cases r with
  | none => exact wpAny_pure h₁
  | some v =>
    refine wpAny_bind (wpAny_mono h₁ (fun _ s₂ h₂ => ?_) fun _ _ h' => h')
    refine wpAny_bind (wpAny_mono h₂ (fun _ s₂ h₂ => wpAny_bind (wpAny_mono h₂ (fun ok s₃ h₃ => ?_) fun _ _ h' => h')) fun _ _ h' => h')
    cases ok with
    | false => exact wpAny_pure ⟨rfl, h₃⟩
    | true =>
      exact wpAny_bind (wpAny_bind (wpAny_mono h₃ (fun x s₄ h₄ => wpAny_bind (wpAny_mono h₄ (fun _ s₅ h₅ => wpAny_pure (wpAny_pure ⟨rfl, h₅⟩)) fun _ _ h' => h')) fun _ _ h' => h'))

/-- one turn of a comprehension's loop, in the comprehension's own frame C -/
noncomputable def Turn (w : World) (A : Around) (target elt : Expr) (ifs : List Expr) (scope : Scope) (cl : List (Str × Addr)) (env : Env) (g : Heap) (s₂ : Shared) (n : Nat) (P : Nat → Value → Prop) (J : Nat → List Value → LD → Prop) : Prop :=
  ∀ C i v ys own hid post s₃, i < n → P i v → J i ys own → g.objs.size ≤ C → At g C s₂ post (own ++ hid) s₃ →
    wpAny (model PR w) A (assign target (compEnvC scope cl C env) v) (fun _ s₄ => wpAny (model PR w) A (testsOf ifs (compEnvC scope cl C env)) (fun ok s₅ =>
      if ok = true then wpAny (model PR w) A (eval elt (compEnvC scope cl C env)) (fun y s₆ => Done (∃ own' post', J (i + 1) (ys ++ [y]) own' ∧ (∀ p ∈ own', p ∈ own ∨ ∀ q ∈ hid, p.1 ≠ q.1) ∧ At g C s₂ post' (own' ++ hid) s₆)) Bot s₅
      else Done (∃ own' post', J (i + 1) ys own' ∧ (∀ p ∈ own', p ∈ own ∨ ∀ q ∈ hid, p.1 ≠ q.1) ∧ At g C s₂ post' (own' ++ hid) s₅)) Bot s₄) Bot s₃

/-- the state that stays hidden from a turn -/
noncomputable def hidden (g h : Heap) (D : Addr) (fp : List Addr) : LD :=
  ((D :: fp).filter fun b => (g.get? b).isNone).filterMap fun b => (h.get? b).map fun o => (b, o)
theorem mem_hidden {g h : Heap} {D : Addr} {fp : List Addr} {p : Addr × Obj} : p ∈ hidden g h D fp ↔ p.1 ∈ D :: fp ∧ g.get? p.1 = none ∧ h.get? p.1 = some p.2 := by
  unfold hidden
  simp only [List.mem_filterMap, List.mem_filter, Option.isNone_iff_eq_none, Option.map_eq_some_iff]
  constructor
  · rintro ⟨b, ⟨hb, hg⟩, o, ho, rfl⟩; exact ⟨hb, hg, ho⟩
  · rintro ⟨hb, hg, ho⟩; exact ⟨p.1, ⟨hb, hg⟩, p.2, ho, rfl⟩

theorem comp_loop {w : World} {A : Around} {elt target iter : Expr} {ifs : List Expr} {scope : Scope} {cl : List (Str × Addr)} {pos : Pos} {env : Env} {s₂ s : Shared} {g : Heap} {I D C : Addr} {fp wr : List Addr} {n : Nat} {P : Nat → Value → Prop} {St : Nat → Heap → Prop}
    {R : Result → Shared → Prop} (W : Walks PR w A I fp wr n P St) (hsz : n ≤ sizeLine) (J : Nat → List Value → LD → Prop) (h0 : J 0 [] [])
    (hlet : ∀ i v (s : Shared) (Q : Unit → Shared → Prop), St i s.heap → Q () s → wpAny (model PR w) A (letOwnedTupleGo target (.ref I) v) Q Bot s)
    (hal : ∀ i h, St i h → ∀ b ∈ fp, ∃ o, h.get? b = some o)
    (hwr : ∀ b ∈ wr, g.get? b = none) (hgD : g.get? D = none) (hgC : g.objs.size ≤ C) (hDC : D ≠ C) (hDf : D ∉ fp) (hCf : C ∉ fp) (hJl : ∀ i ys own, J i ys own → ys.length ≤ i)
    (hst : St 0 s.heap) (hacc : s.heap.PlainList D #[]) (hA : At g C s₂ [] [] s)
    (turn : Turn w A target elt ifs scope cl env g s₂ n P J)
    (hR : ∀ s' post ys own, J n ys own → s'.heap.PlainList D ys.toArray → At g C s₂ post own s' → (∀ p ∈ own, p.1 ≠ D) → R (.ok .next) s') :
    codeAny (model PR w) A (.compLoop (.ListComp elt [⟨target, iter, ifs, 0⟩] scope pos) 0 (.ref I) (.ref D) (compEnvC scope cl C env)) R s := by
  have hCw : C ∉ wr := fun h => hCf (W.sub _ h)
  have hDw : D ∉ wr := fun h => hDf (W.sub _ h)
  refine loop_own
    (fun k s' => ∃ i ys own post, k = n + 1 - i ∧ i ≤ n ∧ J i ys own ∧ St i s'.heap ∧ s'.heap.PlainList D ys.toArray ∧
      (∀ p ∈ own, p.1 ≠ D ∧ p.1 ∉ fp) ∧ At g C s₂ post own s') ?_ (n + 1) ⟨0, [], [], [], rfl, Nat.zero_le _, h0, hst, hacc, by simp, hA⟩
  rintro k s' ⟨i, ys, own, post, rfl, hi, hJ, hst', hacc', hown, I'⟩
  have pass : ∀ h₁ tk₁, (∀ b o, b ∉ wr → s'.heap.get? b = some o → h₁.get? b = some o) → At g C s₂ post own { s' with heap := h₁, toks := tk₁ } := fun h₁ tk₁ hk₁ =>
    ⟨⟨I'.F.ns.at' fun o e => hk₁ _ o hCw e, fun b o e => hk₁ b o (fun hb => by rw [hwr b hb] at e; cases e) (I'.F.keep b o e), I'.F.above⟩,
      fun p hp => ⟨hk₁ _ _ (fun hb => (hown p hp).2 (W.sub _ hb)) (I'.N p hp).1, (I'.N p hp).2⟩, I'.g, I'.d, I'.o⟩
  by_cases hlt : i < n
  · refine W.item i _ _ _ hlt hst' fun v h₁ tk₁ hPv hst₁ hk₁ => ?_
    have I₁ := pass h₁ tk₁ hk₁
    refine hlet (i + 1) v _ _ hst₁ ?_
    have hD₁ : ({ s' with heap := h₁, toks := tk₁ } : Shared).heap.PlainList D ys.toArray := hacc'.at fun o e => hk₁ _ o hDw e
    obtain ⟨dn, hDo⟩ := id hD₁
    have Ih : At g C s₂ post (own ++ hidden g h₁ D fp) { s' with heap := h₁, toks := tk₁ } :=
      ⟨I₁.F, fun p hp => by
        rcases List.mem_append.mp hp with hp | hp
        · exact I₁.N p hp
        · obtain ⟨a, b, c⟩ := mem_hidden.mp hp
          refine ⟨c, ?_, b⟩
          rcases List.mem_cons.mp a with a | a
          · rw [a]; exact hDC
          · rintro e; exact hCf (e ▸ a), I₁.g, I₁.d, I₁.o⟩
    -- what a turn keeps
    have after : ∀ s₆ own' post', (∀ p ∈ own', p ∈ own ∨ ∀ q ∈ hidden g h₁ D fp, p.1 ≠ q.1) → At g C s₂ post' (own' ++ hidden g h₁ D fp) s₆ →
        (∀ b ∈ D :: fp, ∀ o, h₁.get? b = some o → s₆.heap.get? b = some o) ∧ (∀ p ∈ own', p.1 ≠ D ∧ p.1 ∉ fp) ∧ At g C s₂ post' own' s₆ := by
      intro s₆ own' post' hf I₆
      refine ⟨fun b hb o e => ?_, fun p hp => ?_, I₆.sub fun p hp => List.mem_append_left _ hp⟩
      · cases hg : g.get? b with
        | some o' =>
          have e1 := I₁.F.keep _ _ hg
          have e2 := I₆.F.keep _ _ hg
          rw [e2, ← e1]; exact e
        | none => exact (I₆.N (b, o) (List.mem_append_right _ (mem_hidden.mpr ⟨hb, hg, e⟩))).1
      · rcases hf p hp with h | h
        · exact hown p h
        · refine ⟨h (D, _) (mem_hidden.mpr ⟨.head _, hgD, hDo⟩), fun hb => ?_⟩
          obtain ⟨o, e⟩ := hal _ _ hst₁ _ hb
          exact h (p.1, o) (mem_hidden.mpr ⟨List.mem_cons_of_mem _ hb, (I₆.N p (List.mem_append_left _ hp)).2.2, e⟩) rfl
    refine wpAny_mono (turn C i v ys own (hidden g h₁ D fp) post _ hlt hPv hJ hgC Ih) (fun _ s₄ h₄ => wpAny_mono h₄ (fun ok s₅ h₅ => ?_) fun _ _ x => x) fun _ _ x => x
    cases ok with
    | false =>
      obtain ⟨own', post', hJ', hf, I₆⟩ := h₅
      obtain ⟨k1, k2, I₇⟩ := after _ _ _ hf I₆
      exact ⟨n + 1 - (i + 1), by omega, i + 1, ys, own', post', rfl, hlt, hJ', W.frame _ _ _ hst₁ fun b hb o e => k1 b (List.mem_cons_of_mem _ hb) o e, hD₁.at fun o e => k1 D (.head _) o e, k2, I₇⟩
    | true =>
      refine wpAny_mono h₅ (fun y s₆ h₆ => ?_) fun _ _ x => x
      obtain ⟨own', post', hJ', hf, I₆⟩ := h₆
      obtain ⟨k1, k2, I₇⟩ := after _ _ _ hf I₆
      refine wpAny_list_append_plain (items := ys.toArray) (hsz := by have := hJl _ _ _ hJ; rw [List.size_toArray]; omega) (hD₁.at fun o e => k1 D (.head _) o e) fun h₅ hl₅ hs₅ => ?_
      refine ⟨n + 1 - (i + 1), by omega, i + 1, ys ++ [y], own', post', rfl, hlt, hJ', W.frame _ _ _ hst₁ fun b hb o e => hs₅.extBut b o (fun h => hDf (h ▸ hb)) (k1 b (List.mem_cons_of_mem _ hb) o e), by rw [← push_list]; exact hl₅, k2, ?_⟩
      exact ⟨I₇.F.change hs₅ hDC hgD, fun p hp => ⟨hs₅.extBut _ _ (k2 p hp).1 (I₇.N p hp).1, (I₇.N p hp).2⟩, I₇.g, I₇.d, I₇.o⟩
  · have hin : i = n := by omega
    subst hin
    refine W.done _ _ _ hst' fun h₁ tk₁ hk₁ => ?_
    exact hR _ post ys own hJ (hacc'.at fun o e => hk₁ _ o hDw e) (pass h₁ tk₁ hk₁) fun p hp => (hown p hp).1

theorem comp_block {w : World} {A : Around} {E : Value → Shared → Prop} {elt target iter : Expr} {ifs : List Expr} {scope : Scope} {cl : List (Str × Addr)} {pos : Pos} {env : Env} {s₂ : Shared} {g : Heap} {I : Addr} {fp wr : List Addr} {n : Nat} {P : Nat → Value → Prop} {St : Nat → Heap → Prop}
    {RR : Value → Addr → Result → Shared → Prop} (W : Walks PR w A I fp wr n P St) (hsz : n ≤ sizeLine) (J : Nat → List Value → LD → Prop) (h0 : J 0 [] [])
    (hcell : ∀ y ∈ scope.names, y.2 ≠ .cell) (hkind : scope.kind = .function)
    (hlet : ∀ i v (s : Shared) (Q : Unit → Shared → Prop), St i s.heap → Q () s → wpAny (model PR w) A (letOwnedTupleGo target (.ref I) v) Q Bot s)
    (hal : ∀ i h, St i h → ∀ b ∈ fp, ∃ o, h.get? b = some o)
    (hwr : ∀ b ∈ wr, g.get? b = none) (hg : ∀ b o, g.get? b = some o → s₂.heap.get? b = some o) (hgs : g.objs.size ≤ s₂.heap.objs.size) (hJl : ∀ i ys own, J i ys own → ys.length ≤ i)
    (hst : St 0 s₂.heap) (turn : Turn w A target elt ifs scope cl env g s₂ n P J)
    (hRR : ∀ D C s' post ys own, J n ys own → s'.heap.PlainList D ys.toArray → At g C s₂ post own s' → (∀ p ∈ own, p.1 ≠ D) → D ≠ C → g.get? D = none → g.get? C = none → RR (.ref D) C (.ok .next) s') :
    wpAny (model PR w) A (newList []) (fun acc s₃ => wpAny (model PR w) A (newFunctionEnv scope env.globals cl [] env.qual none .none (some env)) (fun cenv s₄ =>
      codeAny (model PR w) A (.compStart (.ListComp elt [⟨target, iter, ifs, 0⟩] scope pos) 0 (.ref I) acc { cenv with scope := relabel scope env }) (RR acc cenv.locals) s₄) E s₃) E s₂ := by
  refine wpAny_newObj_type (wpAny_newFunctionEnv hcell (by intro y hy; simp at hy) (fun h₁ hns₁ hsb₁ => ?_) hkind)
  dsimp only at hns₁ hsb₁ ⊢
  generalize hH2 : s₂.heap.push { cls := .type "list", dict := none, data := .seq ([] : List Value).toArray } = H2 at hns₁ hsb₁ ⊢
  have hC : H2.objs.size = s₂.heap.objs.size + 1 := by rw [← hH2, Heap.size_push]
  have hDC : s₂.heap.objs.size ≠ H2.objs.size := by rw [hC]; exact Nat.ne_of_lt (Nat.lt_succ_self _)
  have below : ∀ b, b < s₂.heap.objs.size → b ≠ H2.objs.size ∧ b ≠ s₂.heap.objs.size := fun b hb => ⟨by rw [hC]; exact Nat.ne_of_lt (Nat.lt_succ_of_lt hb), Nat.ne_of_lt hb⟩
  have hfp : ∀ b ∈ fp, b < s₂.heap.objs.size := fun b hb => let ⟨o, e⟩ := hal _ _ hst b hb; Heap.lt_size e
  have hDf : s₂.heap.objs.size ∉ fp := fun hm => Nat.lt_irrefl _ (hfp _ hm)
  have hCf : H2.objs.size ∉ fp := fun hm => by have := hfp _ hm; rw [hC] at this; exact Nat.lt_irrefl _ (Nat.lt_of_succ_lt this)
  have old : ∀ b o, s₂.heap.get? b = some o → h₁.get? b = some o := fun b o e => hsb₁.extBut b o (below b (Heap.lt_size e)).1 (Heap.get?_push_of_some _ (hH2 ▸ Heap.get?_push_of_some _ e))
  have hacc : h₁.PlainList s₂.heap.objs.size #[] := ⟨_, hsb₁.extBut _ _ hDC (Heap.get?_push_of_some _ (hH2 ▸ Heap.get?_push_size _ rfl))⟩
  have hst₁ : St 0 h₁ := W.frame _ _ _ hst fun b _ o e => old b o e
  have fresh : ∀ a, s₂.heap.objs.size ≤ a → g.get? a = none := fun a ha => by
    cases e : g.get? a with
    | none => rfl
    | some o' => have := Heap.lt_size e; exact absurd this (by show ¬ a < g.objs.size; exact Nat.not_lt.mpr (Nat.le_trans hgs ha))
  have hF : Fr g H2.objs.size h₁ (fun y => List.lookup y ([] : NM)) := ⟨hns₁, fun b o e => old b o (hg b o e), by rw [hC]; omega⟩
  have loop : ∀ s₃ : Shared, s₃ = { s₂ with heap := h₁, toks := s₂.toks + ([] : List (Str × Value)).length } →
      codeAny (model PR w) A (.compLoop (.ListComp elt [⟨target, iter, ifs, 0⟩] scope pos) 0 (.ref I) (.ref s₂.heap.objs.size) (compEnvC scope cl H2.objs.size env))
        (RR (.ref s₂.heap.objs.size) H2.objs.size) s₃ := by
    rintro s₃ rfl
    exact comp_loop (s₂ := s₂) W hsz J h0 hlet hal hwr (fresh _ (Nat.le_refl _)) (by rw [hC]; omega) hDC hDf hCf hJl hst₁ hacc ⟨hF, fun p hp => (by cases hp), rfl, rfl, rfl⟩ turn
      fun s' post ys own hJ hl hA hne => hRR _ _ s' post ys own hJ hl hA hne hDC (fresh _ (Nat.le_refl _)) (fresh _ (by rw [hC]; omega))
  exact codeAny_compStart_list (loop _ rfl) (W.self 0 _ _ _ hst₁ (loop _ rfl))

/-- what an iterator's making gives a comprehension -/
noncomputable def ItC (w : World) (A : Around) (s₁ : Shared) (target : Expr) (n : Nat) (P : Nat → Value → Prop) (it : Value) (s₂ : Shared) : Prop :=
  ∃ I fp wr St, it = .ref I ∧ Walks PR w A I fp wr n P St ∧ (∀ i v (s : Shared) (Q : Unit → Shared → Prop), St i s.heap → Q () s → wpAny (model PR w) A (letOwnedTupleGo target (.ref I) v) Q Bot s) ∧
    (∀ i h, St i h → ∀ b ∈ fp, ∃ o, h.get? b = some o) ∧ (∀ b ∈ wr, s₁.heap.get? b = none) ∧ St 0 s₂.heap ∧ After s₁ s₂ ∧ s₁.heap.objs.size ≤ s₂.heap.objs.size

theorem eval_comp {w : World} {A : Around} {env : Env} {s s₀ : Shared} {elt target iter : Expr} {ifs : List Expr} {scope : Scope} {cl : List (Str × Addr)} {pos : Pos} {Q : Value → Shared → Prop} {g : Heap} {L : Addr} {n : Nat}
    (J : Nat → List Value → LD → Prop) (m : NM) (led : LD) (h0 : J 0 [] []) (hJl : ∀ i ys own, J i ys own → ys.length ≤ i) (hsz : n ≤ sizeLine)
    (hclos : closureFor scope env = pure cl) (hcell : ∀ y ∈ scope.names, y.2 ≠ .cell) (hkind : scope.kind = .function) (hnames : ∀ y ∈ scope.names, y.2 = .local → scope.names.lookup y.1 = some .local)
    (hit : wpAny (model PR w) A (eval iter env) (fun xv s₁ => Done (∃ P, At g L s₀ m led s₁ ∧ wpAny (model PR w) A (pyIter xv) (ItC w A s₁ target n P) Bot s₁ ∧ ∀ s₂, After s₁ s₂ → Turn w A target elt ifs scope cl env s₁.heap s₂ n P J)) Bot s)
    (done : ∀ D k ys own s', J n ys own → (∀ p ∈ own ++ led, p.1 ≠ D) → At g L s₀ m ((D, PySem.W.listOf ys.toArray k) :: (own ++ led)) s' → Q (.ref D) s')
    (hs : ∀ x, foldedSetIterable iter env x = pure x := by intro _; rfl) :
    wpAny (model PR w) A (eval (.ListComp elt [⟨target, iter, ifs, 0⟩] scope pos) env) Q Bot s := by
  rw [eval_ListComp]
  refine wpAny_comprehension_free (use := none) rfl hs hclos hkind hnames (wpAny_mono hit (fun xv s₁ (h₁ : ∃ P : Nat → Value → Prop, _ ∧ _ ∧ _) => let ⟨P, h₁⟩ := h₁; wpAny_mono h₁.2.1 (fun it s₂ h₂ => ?_) fun _ _ e => e.elim) fun _ _ e => e.elim)
  obtain ⟨I1, -, turn⟩ := h₁
  obtain ⟨I, fp, wr, St, rfl, W, hlet, hal, hwr, hst, haf, hsz'⟩ := h₂
  refine comp_block (g := s₁.heap) (RR := fun acc C => compPost (model PR w) A Bot none Q acc C) W hsz J h0 hcell hkind hlet hal hwr haf.k hsz' hJl hst (turn s₂ haf) ?_
  intro D C s' post ys own hJ hl hA hne hDC hgD hgC
  refine ⟨_, hA.F.ns, fun h'' hs'' => ?_⟩
  obtain ⟨k, hk⟩ := hl
  have old : ∀ b o, s₁.heap.get? b = some o → h''.get? b = some o := fun b o e => hs''.extBut b o (by rintro rfl; rw [hgC] at e; cases e) (hA.F.keep b o e)
  have ne : ∀ b, s₁.heap.get? b = none → b ≠ L ∧ g.get? b = none := by
    intro b hb
    constructor
    · rintro rfl
      obtain ⟨o, _, _, ho, _⟩ := I1.F.ns
      rw [hb] at ho
      cases ho
    · cases e : g.get? b with
      | none => rfl
      | some o => rw [I1.F.keep _ _ e] at hb; cases hb
  refine done D k ys own _ hJ (fun p hp => by
    rcases List.mem_append.mp hp with hp | hp
    · exact hne p hp
    · rintro rfl
      have := (I1.N p hp).1
      rw [hgD] at this; cases this) ⟨⟨I1.F.ns.at' fun o e => old _ o e, fun b o e => old b o (I1.F.keep b o e), I1.F.above⟩, fun p hp => ?_, ?_, ?_, ?_⟩
  · rcases List.mem_cons.mp hp with rfl | hp
    · exact ⟨hs''.extBut _ _ hDC hk, ne D hgD⟩
    · rcases List.mem_append.mp hp with hp | hp
      · obtain ⟨e1, e2, e3⟩ := hA.N p hp
        exact ⟨hs''.extBut _ _ e2 e1, ne _ e3⟩
      · exact ⟨old _ _ (I1.N p hp).1, (I1.N p hp).2⟩
  · exact (hA.g.trans haf.g).trans I1.g
  · exact (hA.d.trans haf.d).trans I1.d
  · exact (hA.o.trans haf.o).trans I1.o
end Mine
end
section
open PySem PySem.W PyProof.Rows
set_option maxRecDepth 100000
namespace Mine
theorem fresh_at (h : Heap) : h.get? h.objs.size = none := by
  cases e : h.get? h.objs.size with
  | none => rfl
  | some o => exact absurd (Heap.lt_size e) (Nat.lt_irrefl _)
theorem itcList {w : World} {A : Around} {s : Shared} {l : Addr} {items : Array Value} {target : Expr} (hh : A.handled = none) (hl : s.heap.IsList l items) :
    wpAny (model PR w) A (pyIter (.ref l)) (ItC w A s target items.size fun i v => items[i]? = some v) Bot s := by
  obtain ⟨ol, hol, _⟩ := id hl
  have hlt := Heap.lt_size hol
  refine wpAny_pyIter_list hl ⟨s.heap.objs.size, [s.heap.objs.size, l], [s.heap.objs.size], _, rfl, Walks.list hh _ l (Nat.ne_of_lt hlt) items, fun i v s Q st hQ => letGo_listiter st.1 hQ, ?_, ?_, ⟨⟨_, Heap.get?_push_size _ rfl, rfl, rfl⟩, hl.at fun o e => Heap.get?_push_of_some _ e⟩, ⟨fun b o e => Heap.get?_push_of_some _ e, rfl, rfl, rfl⟩, ?_⟩
  · rintro i h ⟨⟨o, ho, _⟩, o', ho', _⟩ b hb
    rcases List.mem_cons.mp hb with rfl | hb
    · exact ⟨_, ho⟩
    · rw [List.mem_singleton.mp hb]; exact ⟨_, ho'⟩
  · intro b hb; rw [List.mem_singleton.mp hb]; exact fresh_at _
  · show s.heap.objs.size ≤ (s.heap.push _).objs.size
    rw [Heap.size_push]; exact Nat.le_succ _
theorem itcTuple {w : World} {A : Around} {s : Shared} {l : Addr} {items : Array Value} {target : Expr} (hh : A.handled = none) (hl : s.heap.IsTuple l items) :
    wpAny (model PR w) A (pyIter (.ref l)) (ItC w A s target items.size fun i v => items[i]? = some v) Bot s := by
  obtain ⟨ol, hol, _⟩ := id hl
  have hlt := Heap.lt_size hol
  refine wpAny_pyIter_tuple hl ⟨s.heap.objs.size, [s.heap.objs.size, l], [s.heap.objs.size], _, rfl, Walks.tuple hh _ l (Nat.ne_of_lt hlt) items, fun i v s Q st hQ => letGo_tupleiter st.1 hQ, ?_, ?_, ⟨⟨_, Heap.get?_push_size _ rfl, rfl, rfl⟩, hl.at fun o e => Heap.get?_push_of_some _ e⟩, ⟨fun b o e => Heap.get?_push_of_some _ e, rfl, rfl, rfl⟩, ?_⟩
  · rintro i h ⟨⟨o, ho, _⟩, o', ho', _⟩ b hb
    rcases List.mem_cons.mp hb with rfl | hb
    · exact ⟨_, ho⟩
    · rw [List.mem_singleton.mp hb]; exact ⟨_, ho'⟩
  · intro b hb; rw [List.mem_singleton.mp hb]; exact fresh_at _
  · show s.heap.objs.size ≤ (s.heap.push _).objs.size
    rw [Heap.size_push]; exact Nat.le_succ _

theorem assign_comp {w : World} {A : Around} {env : Env} {s s₀ : Shared} {elt target iter : Expr} {y : Str} {py : Pos} {ifs : List Expr} {scope : Scope} {cl : List (Str × Addr)} {pos spos : Pos} {Q : Flow → Shared → Prop} {g : Heap} {n : Nat}
    (J : Nat → List Value → LD → Prop) (m : NM) (led : LD) (h0 : J 0 [] []) (hJl : ∀ i ys own, J i ys own → ys.length ≤ i) (hsz : n ≤ sizeLine)
    (hsw : swapsWith (.ListComp elt [⟨target, iter, ifs, 0⟩] scope pos) (some (.Name y py)) spos.line env = pure true)
    (hclos : closureFor scope env = pure cl) (hcell : ∀ y ∈ scope.names, y.2 ≠ .cell) (hkind : scope.kind = .function) (hnames : ∀ y ∈ scope.names, y.2 = .local → scope.names.lookup y.1 = some .local)
    (hy : env.kindOf y = some .local) (hp : (env.scope.kind == .class || (env.scope.kind == .module && env.locals != env.globals)) = false)
    (hit : wpAny (model PR w) A (eval iter env) (fun xv s₁ => Done (∃ P, At g env.locals s₀ m led s₁ ∧ wpAny (model PR w) A (pyIter xv) (ItC w A s₁ target n P) Bot s₁ ∧ ∀ s₂, After s₁ s₂ → Turn w A target elt ifs scope cl env s₁.heap s₂ n P J)) Bot s)
    (done : ∀ D k ys own s', J n ys own → (∀ p ∈ own ++ led, p.1 ≠ D) → At g env.locals s₀ (upd y (.ref D) m) ((D, PySem.W.listOf ys.toArray k) :: (own ++ led)) s' → Q .next s')
    (hs : ∀ x, foldedSetIterable iter env x = pure x := by intro _; rfl) :
    wpAny (model PR w) A (exec (.Assign [.Name y py] (.ListComp elt [⟨target, iter, ifs, 0⟩] scope pos) spos) env) Q Bot s := by
  rw [exec_Assign_Name_used _ _ _ _ hsw]
  refine wpAny_bind (wpAny_standAt (wpAny_bind ?_))
  show wpAny _ A (do let _ ← comprehension (.ListComp elt [⟨target, iter, ifs, 0⟩] scope pos) scope env _ (newList []) false (eval iter env) (some (assign (.Name y py) env))) _ _ s
  refine wpAny_bind (wpAny_mono (wpAny_comprehension_free (use := some (assign (.Name y py) env)) (Q := fun _ s' => Q .next s') rfl hs hclos hkind hnames
    (wpAny_mono hit (fun xv s₁ (h₁ : ∃ P : Nat → Value → Prop, _ ∧ _ ∧ _) => let ⟨P, h₁⟩ := h₁; wpAny_mono h₁.2.1 (fun it s₂ h₂ => ?_) fun _ _ e => e.elim) fun _ _ e => e.elim)) (fun _ s' hq => wpAny_pure (wpAny_pure hq)) fun _ _ e => e)
  obtain ⟨I1, -, turn⟩ := h₁
  obtain ⟨I, fp, wr, St, rfl, W, hlet, hal, hwr, hst, haf, hsz'⟩ := h₂
  refine comp_block (g := s₁.heap) (RR := fun acc C => compPost (model PR w) A Bot (some (assign (.Name y py) env)) (fun _ s' => Q .next s') acc C) W hsz J h0 hcell hkind hlet hal hwr haf.k hsz' hJl hst (turn s₂ haf) ?_
  intro D C s' post ys own hJ hl hA hne hDC hgD hgC
  obtain ⟨k, hk⟩ := hl
  have ne : ∀ b, s₁.heap.get? b = none → b ≠ env.locals ∧ g.get? b = none := by
    intro b hb
    constructor
    · rintro rfl
      obtain ⟨o, _, _, ho, _⟩ := I1.F.ns
      rw [hb] at ho
      cases ho
    · cases e : g.get? b with
      | none => rfl
      | some o => rw [I1.F.keep _ _ e] at hb; cases hb
  have hLC := (ne C hgC).1
  show wpAny _ A (assign (.Name y py) env (.ref D)) _ _ _
  refine wpAny_assign_Name (wpAny_storeName_local hy (I1.F.ns.at' fun o e => hA.F.keep _ o e) (fun h₂ hn₂ hs₂ => ?_) hp)
  refine ⟨_, hA.F.ns.sameBut hs₂ hLC, fun h₃ hs₃ => ?_⟩
  have up : ∀ b o, b ≠ env.locals → b ≠ C → s'.heap.get? b = some o → h₃.get? b = some o := fun b o h1 h2 e => hs₃.extBut b o h2 (hs₂.extBut b o h1 e)
  have old : ∀ b o, b ≠ env.locals → s₁.heap.get? b = some o → h₃.get? b = some o := fun b o h1 e => up b o h1 (by rintro rfl; rw [hgC] at e; cases e) (hA.F.keep b o e)
  have hgL : ∀ b o, g.get? b = some o → b ≠ env.locals := fun b o e h => by
    have h1 := Heap.lt_size e
    rw [h] at h1
    exact absurd h1 (Nat.not_lt.mpr I1.F.above)
  refine done D k ys own _ hJ (fun p hp => by
    rcases List.mem_append.mp hp with hp | hp
    · exact hne p hp
    · rintro rfl
      have := (I1.N p hp).1
      rw [hgD] at this; cases this) ⟨frUpd ⟨hn₂.sameBut hs₃ (Ne.symm hLC), fun b o e => old b o (hgL b o e) (I1.F.keep b o e), I1.F.above⟩ rfl, fun p hp => ?_, ?_, ?_, ?_⟩
  · rcases List.mem_cons.mp hp with rfl | hp
    · exact ⟨up _ _ (ne D hgD).1 hDC hk, ne D hgD⟩
    · rcases List.mem_append.mp hp with hp | hp
      · obtain ⟨e1, e2, e3⟩ := hA.N p hp
        exact ⟨up _ _ (ne _ e3).1 e2 e1, ne _ e3⟩
      · exact ⟨old _ _ (I1.N p hp).2.1 (I1.N p hp).1, (I1.N p hp).2⟩
  · exact (hA.g.trans haf.g).trans I1.g
  · exact (hA.d.trans haf.d).trans I1.d
  · exact (hA.o.trans haf.o).trans I1.o
end Mine
end
section
open PySem PySem.W PyProof.Rows PySem.Calls
set_option maxRecDepth 100000
namespace Mine
theorem call_fnC {w : World} {A : Around} {n : Nat} {s : Shared} {f c i : Nat} {name : Str} {dflt md : Value} {vals : List Value} {binds : List (Str × Value)} {P : Value → Shared → Prop} {E : Value → Shared → Prop}
    (hh : A.handled = none) (hd : A.depth + 1 ≤ 301 + 20 * n) (hu : A.units + 3 ≤ 100 * n) (hn : n < 20) (W : Wd w s.heap)
    (hf : (K w.params).lookup f = some ⟨.type "function", none, .func (fnAt i name dflt md (.ref c)), #[]⟩) (hc : codeIn (K w.params) (.ref c) name = true)
    (hbind : BindsTo s (fnAt i name dflt md (.ref c)) ⟨vals, []⟩ binds)
    (hkind : ∀ n, ∀ x ∈ binds, (scAt i).names.lookup x.1 = some .local ∨ ((scAt i).names.lookup x.1 = some .cell ∧ ((cellsFrom n (scAt i).names []).lookup x.1).isSome = true))
    (hnd : ((cellsFrom 0 (scAt i).names []).map (·.1)).Nodup)
    (hco : (scAt i).isCoroutine = false) (hgen : (scAt i).isGenerator = false) (hk : (scAt i).kind = .function)
    (h : ∀ h₁ tk cells, Fr s.heap s.heap.objs.size h₁ (bindL (envOfC name (scAt i) s.heap.objs.size f (.ref c)).kindOf binds fun _ => none) → News s.heap s.heap.objs.size h₁ cells →
      CellsAre (bindC (envOfC name (scAt i) s.heap.objs.size f (.ref c)).kindOf binds fun _ => none) (cellsFrom (s.heap.objs.size + 1) (scAt i).names []) cells →
      wpAny (model PR w) (AA n) (execs (bodyAt i) (envOfC name (scAt i) s.heap.objs.size f (.ref c)))
      (fun fl s' => Done (P (match fl with | .ret v => v | _ => .none) s')) Bot { s with heap := h₁, toks := tk }) :
    wpAny (model PR w) A (call (.ref f) vals) P E s := by
  obtain ⟨_, _, _, T⟩ := W.t
  refine wpAny_call ?_
  refine codeAny_call_function (fd := fnAt i name dflt md (.ref c)) (by show A.depth < 1000; omega) (W.k _ _ hf) rfl hco hgen rfl (codeRec_of W.k hc) (hbind _ _ _ _ ?_)
  refine wpAny_newFunctionEnv_cells hk (hkind _) fun env' he s' x => ?_
  subst he
  refine ⟨T.nolimit.keeps x.toInCall.keep, codeAny_func ?_⟩
  obtain ⟨h₁, tk, rfl, _⟩ := x.done
  have hk₁ := x.toInCall.keep
  obtain ⟨cells, NC, Y⟩ := Cl.news (h₀ := s.heap) (Nat.le_refl _) fun n c hm => ⟨x.cell n c (lookup_of_mem_nodup (cellsFrom_names (scAt i).names 0 (s.heap.objs.size + 1) [] [] rfl ▸ hnd) hm), x.above n c hm⟩
  refine up (A' := AA n) hh hd hu rfl rfl (bot ?_)
  exact h h₁ tk cells ⟨x.toInCall.ns, fun b o e => hk₁ b o e, Nat.le_refl _⟩ NC Y
theorem store_comp {w : World} {A : Around} {E : Value → Shared → Prop} {s : Shared} {g : Heap} {C : Addr} {m : Str → Option Value} {led : LD} {scope : Scope} {cl : List (Str × Addr)} {env : Env} {x : Str} {v : Value} {Q : Unit → Shared → Prop}
    (F : Fr g C s.heap m) (N : News g C s.heap led) (h : ∀ h', Fr g C h' (fun y => if y = x then some v else m y) → News g C h' led → Q () { s with heap := h', toks := s.toks + 1 })
    (hk : scope.kind = .function := by rfl) (hx : (compEnvC scope cl C env).kindOf x = some .local := by rfl) : wpAny (model PR w) A (storeName (compEnvC scope cl C env) x v) Q E s :=
  wpAny_storeName_local hx F.ns (fun h' hn hs => h h' (F.set hn hs) (N.set hs)) (by show (scope.kind == .class || (scope.kind == .module && _)) = false; rw [hk]; rfl)
theorem load_comp {w : World} {A : Around} {E : Value → Shared → Prop} {s : Shared} {g : Heap} {C : Addr} {m : Str → Option Value} {scope : Scope} {cl : List (Str × Addr)} {env : Env} {x : Str} {pos : Pos} {v : Value} {Q : Value → Shared → Prop}
    (F : Fr g C s.heap m) (hv : m x = some v) (h : Q v s)
    (hk : (compEnvC scope cl C env).scope.kind = .function := by rfl) (hx : (compEnvC scope cl C env).kindOf x = some .local := by rfl) (hd : (x == ("__debug__" : Str)) = false := by decide) :
    wpAny (model PR w) A (eval (.Name x pos) (compEnvC scope cl C env)) Q E s := wpAny_Name (wpAny_loadName_local hk hx F.ns hv h) hd
theorem cell_comp {w : World} {A : Around} {E : Value → Shared → Prop} {s : Shared} {g : Heap} {C c : Addr} {m : Str → Option Value} {scope : Scope} {cl : List (Str × Addr)} {env : Env} {x : Str} {pos : Pos} {v : Value} {Q : Value → Shared → Prop}
    (F : Fr g C s.heap m) (hc : cl.lookup x = some c) (hv : g.IsCell c (some v)) (h : Q v s)
    (hk : (compEnvC scope cl C env).scope.kind = .function := by rfl) (hx : (compEnvC scope cl C env).kindOf x = some .cell := by rfl) (hd : (x == ("__debug__" : Str)) = false := by decide) :
    wpAny (model PR w) A (eval (.Name x pos) (compEnvC scope cl C env)) Q E s :=
  wpAny_Name (wpAny_loadName_cell hk hx hc (let ⟨o, ho, r⟩ := hv; ⟨o, F.keep _ _ ho, r⟩) h) hd
theorem built_comp {w : World} {A : Around} {E : Value → Shared → Prop} {s : Shared} {g h₀ : Heap} {C : Addr} {K : Frag} {m mg mb : Str → Option Value} {p : Program} {loose : List Str} {scope : Scope} {cl : List (Str × Addr)} {env : Env} {x : Str} {pos : Pos} {v : Value} {Q : Value → Shared → Prop}
    (F : Fr g C s.heap m) (keep : ∀ b o, h₀.get? b = some o → g.get? b = some o) (X : K.In h₀) (T : TopRead p loose mg mb h₀) (e : nsIn K mainGlobals x = some none) (hv : bootBuiltins x = some v) (hn : x ≠ "__name__") (h : Q v s)
    (hg : env.globals = mainGlobals := by rfl) (hb : env.builtins = builtinsNs := by rfl) (hk : (compEnvC scope cl C env).scope.kind = .function := by rfl) (hx : (compEnvC scope cl C env).kindOf x = some .globalImplicit := by rfl) (hd : (x == ("__debug__" : Str)) = false := by decide) :
    wpAny (model PR w) A (eval (.Name x pos) (compEnvC scope cl C env)) Q E s :=
  Name_function_global hk hx (loadGlobal_builtin (env := compEnvC scope cl C env) (by show s.heap.Ns env.globals mg; rw [hg]; exact T.g.keeps fun b o q => F.keep _ _ (keep _ _ q)) (mg_none_of X T.g e) (by show s.heap.Ns env.builtins mb; rw [hb]; exact T.b.keeps fun b o q => F.keep _ _ (keep _ _ q)) ((T.builtins x hn).trans hv) h) hd
end Mine
end
local macro_rules | `(tactic| walk_at "comp1") => `(tactic| (first | ((with_reducible show wpAny _ _ (storeName (compEnvC _ _ _ _) _ _) _ _ _); refine Mine.store_comp (by assumption) (by assumption) ?_; intro _ _ _) | ((with_reducible show wpAny _ _ (eval (Expr.Name _ _) (compEnvC _ _ _ _)) _ _ _); refine Mine.load_comp (by assumption) (by rfl) ?_) | ((fail_if_success (with_reducible show wpAny _ _ (eval (Expr.Name _ _) (compEnvC _ _ _ _)) _ _ _)); (fail_if_success (with_reducible show wpAny _ _ (subscriptTail _ _ _ _) _ _ _)); (fail_if_success (with_reducible show wpAny _ _ (call (Value.builtin _) _) _ _ _)); walk1)))
local macro_rules | `(tactic| walk_at "comp2") => `(tactic| (first | ((with_reducible show wpAny _ _ (storeName (compEnvC _ _ _ _) _ _) _ _ _); refine Mine.store_comp (by assumption) (by assumption) ?_; intro _ _ _) | ((with_reducible show wpAny _ _ (eval (Expr.Name _ _) (compEnvC _ _ _ _)) _ _ _); refine Mine.load_comp (by assumption) (by rfl) ?_) | ((fail_if_success (with_reducible show wpAny _ _ (eval (Expr.Name _ _) (compEnvC _ _ _ _)) _ _ _)); (fail_if_success (with_reducible show wpAny _ _ (subscriptTail _ _ _ _) _ _ _)); (fail_if_success (with_reducible show wpAny _ _ (eval (Expr.ListComp _ _ _ _) _) _ _ _)); (fail_if_success (with_reducible show wpAny _ _ (call _ _) _ _ _)); (fail_if_success (with_reducible show wpAny _ _ (call (Value.builtin _) _) _ _ _)); walk1)))
section
open PySem PySem.W PyProof.Rows
set_option maxRecDepth 100000
namespace Mine
theorem hit_of {w : World} {A : Around} {target elt : Expr} {ifs : List Expr} {scope : Scope} {cl : List (Str × Addr)} {env : Env} {g : Heap} {L : Addr} {s₀ s₁ : Shared} {m : NM} {led led' : LD} {n : Nat} {xv : Value} {J : Nat → List Value → LD → Prop} (P : Nat → Value → Prop)
    (I : At g L s₀ m led' s₁) (hs : ∀ p ∈ led, p ∈ led') (h : ∀ s₁, At g L s₀ m led' s₁ → wpAny (model PR w) A (pyIter xv) (ItC w A s₁ target n P) Bot s₁ ∧ ∀ s₂, After s₁ s₂ → Turn w A target elt ifs scope cl env s₁.heap s₂ n P J) :
    Done (∃ P, At g L s₀ m led s₁ ∧ wpAny (model PR w) A (pyIter xv) (ItC w A s₁ target n P) Bot s₁ ∧ ∀ s₂, After s₁ s₂ → Turn w A target elt ifs scope cl env s₁.heap s₂ n P J) :=
  ⟨P, I.sub hs, h s₁ I⟩
theorem at_after {g : Heap} {L : Addr} {s₀ s s' : Shared} {m : NM} {led : LD} (k : After s s') (F : Fr g L s.heap (fun y => m.lookup y)) (N : News g L s.heap led) (hg : s.gens = s₀.gens) (hd : s.drawn = s₀.drawn) (ho : s.os = s₀.os) : At g L s₀ m led s' := At.keeps ⟨F, N, hg, hd, ho⟩ k
theorem cell_ne {h : Heap} {a b : Addr} {o : Obj} {its : Array Value} {k : Nat} {v : Option Value} (e1 : h.get? a = some (PySem.W.listOf its k)) (e2 : h.get? b = some o) (d : o.data = .cell v) : b ≠ a := by
  rintro rfl
  rw [e1] at e2
  cases e2
  cases d
theorem tup_is {h : Heap} {l : Addr} {its : Array Value} (e : h.get? l = some { cls := .type "tuple", data := .seq its }) : h.IsTuple l its := ⟨_, e, rfl, _, rfl⟩
/-- what a call has made -/
noncomputable def Made (s s' : Shared) (led : LD) : Prop := ∀ x ∈ led, s'.heap.get? x.1 = some x.2 ∧ s.heap.get? x.1 = none
theorem At.made {g : Heap} {L : Addr} {s₀ s s' : Shared} {m : NM} {led led' : LD} (I : At g L s₀ m led s) (ha : After s s') (M : Made s s' led') : At g L s₀ m (led' ++ led) s' := by
  have I' := I.keeps ha
  refine ⟨I'.F, fun p hp => ?_, I'.g, I'.d, I'.o⟩
  rcases List.mem_append.mp hp with hp | hp
  · refine ⟨(M p hp).1, ?_, ?_⟩
    · intro e
      obtain ⟨o, _, _, ho, _⟩ := I.F.ns
      rw [← e, (M p hp).2] at ho; cases ho
    · cases h : g.get? p.1 with
      | none => rfl
      | some o => have := I.F.keep _ _ h; rw [(M p hp).2] at this; cases this
  · exact I'.N p hp
end Mine
end
section
open PySem PySem.W PyProof.Rows
namespace Mine
theorem min3 {w : World} {A : Around} {E : Value → Shared → Prop} {s : Shared} {a b c : Int} {t u x : Tok} {Q : Value → Shared → Prop} (hh : A.handled = none)
    (h : ∀ t' s', After s s' → Q (.int (min (min a b) c) t') s') : wpAny (model PR w) A (call (.builtin "min") [.int a t, .int b u, .int c x]) Q E s := by
  refine min_three_ints hh fun h' tk hk => ?_
  have key : ∀ t' y, y = min (min a b) c → Q (.int y t') { s with heap := h', toks := tk } := fun t' y e => e ▸ h t' _ ⟨hk, rfl, rfl, rfl⟩
  by_cases hba : b < a <;> by_cases hc1 : c < b <;> by_cases hc2 : c < a <;> simp only [hba, hc1, hc2, if_true, if_false] <;> exact key _ _ (by omega)
/-- the least of a list of ints that begins so -/
noncomputable def minL (a : Int) (l : List Int) : Int := l.foldl min a
theorem minL_mem (a : Int) (l : List Int) : minL a l ∈ a :: l := by
  induction l generalizing a with
  | nil => simp [minL]
  | cons b l ih =>
    have := ih (min a b)
    unfold minL at this ⊢
    rw [List.foldl_cons]
    rcases List.mem_cons.mp this with h | h
    · rw [h]
      rcases Int.le_total a b with h | h
      · rw [Int.min_eq_left h]; simp
      · rw [Int.min_eq_right h]; simp
    · exact List.mem_cons_of_mem _ (List.mem_cons_of_mem _ h)
theorem minL_le (a : Int) (l : List Int) : ∀ x ∈ a :: l, minL a l ≤ x := by
  induction l generalizing a with
  | nil => intro x hx; rw [List.mem_singleton.mp hx]; exact Int.le_refl _
  | cons b l ih =>
    intro x hx
    have h := ih (min a b)
    unfold minL at h ⊢
    rw [List.foldl_cons]
    have h0 := h (min a b) (.head _)
    rcases List.mem_cons.mp hx with rfl | hx
    · omega
    · rcases List.mem_cons.mp hx with rfl | hx
      · omega
      · exact h x (List.mem_cons_of_mem _ hx)
theorem minList {w : World} {A : Around} {E : Value → Shared → Prop} {s : Shared} {l : Addr} {vs : List Value} {a : Int} {ns : List Int} {Q : Value → Shared → Prop} (hh : A.handled = none) (hl : s.heap.IsList l vs.toArray) (hi : IntsAre vs (a :: ns))
    (h : ∀ t' s', After s s' → Q (.int (minL a ns) t') s') : wpAny (model PR w) A (call (.builtin "min") [.ref l]) Q E s := by
  obtain ⟨xs, e⟩ := hi.allInts.items
  have hns : a :: ns = xs.toList.map (·.1) := by
    rw [← hi.numsOf, ← nums_intItems, ← e]
  have hsz : 0 < xs.size := by
    rw [← Array.length_toList, ← List.length_map (f := Prod.fst), ← hns]; exact Nat.succ_pos _
  rw [e] at hl
  refine min_intList hh hl hsz fun v h' tk hv hk => ?_
  obtain ⟨t, rfl⟩ := intItems_at hv
  obtain ⟨h1, h2⟩ := argBest_lt (PySem.numAt xs) (xs.size - 1)
  generalize hM : PySem.numAt xs (argBest (fun i j => decide (PySem.numAt xs i < PySem.numAt xs j)) (xs.size - 1)) = M at *
  have hm : M ∈ a :: ns := by
    rw [hns, ← hM, numAt_eq]; exact getD_mem (by rw [List.length_map, Array.length_toList]; exact Nat.lt_of_le_of_lt h1 (by omega))
  have hle : ∀ x ∈ a :: ns, M ≤ x := by
    intro x hx
    rw [hns] at hx
    obtain ⟨j, hj, rfl⟩ := mem_getD hx
    rw [List.length_map, Array.length_toList] at hj
    rw [← numAt_eq]; exact h2 j (by omega)
  have : M = minL a ns := Int.le_antisymm (hle _ (minL_mem _ _)) (minL_le _ _ _ hm)
  rw [this]
  exact h t _ ⟨hk, rfl, rfl, rfl⟩
end Mine
end
section
open PySem PySem.W PyProof.Rows
namespace Mine
theorem seq_iadd : seqSlot? (.type "list") (dunderI "add") = pure (some (.builtin "list.__iadd__")) := PyProof.Rows.seqSlot_of PySem.F.slot_list_iadd.lookup (by decide +kernel)
theorem fills_iadd : fillsInplaceSlot (.type "list") "add" (Operator.Add == .Add) = pure false := by
  unfold fillsInplaceSlot
  show (typeLookup (.type "list") (dunderI "add") >>= fun fi => pure (fi.isSome && !isSeqSlot fi)) = pure false
  rw [PySem.F.slot_list_iadd.lookup]; rfl
theorem iadd_lists {w : World} {A : Around} {E : Value → Shared → Prop} {s : Shared} {g : Heap} {L l b : Addr} {m : Str → Option Value} {rest : LD} {its its2 : Array Value} {n n2 : Nat} {Q : Value → Shared → Prop} (F : Fr g L s.heap m)
    (N : News g L s.heap ((b, PySem.W.listOf its2 n2) :: (l, PySem.W.listOf its n) :: rest)) (hne : ∀ p ∈ rest, p.1 ≠ l) (hlb : b ≠ l) (hz : its.size + its2.size ≤ 1000)
    (h : ∀ h' k, Fr g L h' m → News g L h' ((b, PySem.W.listOf its2 n2) :: (l, PySem.W.listOf (its ++ its2) k) :: rest) → Q (.ref l) { s with heap := h' }) : wpAny (model PR w) A (inplaceOp .Add (.ref l) (.ref b)) Q E s := by
  have zb := N _ (.head _)
  have zl := N _ (.tail _ (.head _))
  have hTl : s.TypeIs (.ref l) "list" := ⟨_, zl.1, rfl⟩
  have hTb : s.TypeIs (.ref b) "list" := ⟨_, zb.1, rfl⟩
  unfold inplaceOp
  refine wpAny_holding ?_
  refine wpAny_bind (wpAny_typeOf hTl (wpAny_bind (wpAny_of_eq fills_iadd ?_)))
  show wpAny _ A (if false = true then _ else _) Q E s
  rw [if_neg Bool.false_ne_true]
  refine wpAny_bind (binaryOp1_none (nm := "add") hTl hTb noFill_list_add ?_)
  refine wpAny_bind (wpAny_of_eq seq_iadd ?_)
  refine wpAny_bind (wpAny_rule ?_)
  refine call_meets PySem.F.slot_list_iadd hTl PySem.F.entry_list_iadd (PySem.F.args_list_iadd_2 _ _) (PySem.AutoSeq1.list___iadd___list_list_0 l its n b its2 n2 ?_ ?_ ?_) ⟨zl.1, zb.1, ?_⟩
  · exact extend_door (Nat.le_trans hz (by decide))
  · exact Nat.le_trans (Nat.le_trans (Nat.le_add_right _ _) hz) (by decide)
  · exact Nat.le_trans hz (by decide)
  · exact (h _ _ (F.change (Heap.SameBut.update ..) zl.2.1 zl.2.2) (ki_turn (pre := [(b, _)]) (fun x => x ++ its2) N (by simpa using hlb) hne rfl rfl))
end Mine
end
section
open PySem PySem.W PyProof.Rows
set_option maxRecDepth 100000
set_option maxHeartbeats 2000000
namespace Mine
noncomputable def pr1 : List (Int × Int) := [(0, 0), (1, 2), (3, 3), (4, 5)]
noncomputable def pr2 : List (Int × Int) := [(1, 0), (1, 1), (4, 3), (4, 4)]
noncomputable def lowA (x y m : Int) (l : List (Int × Int)) : List Int := l.map fun p => p.1 * x + p.2 * y + m
noncomputable def lowV (a b c d : Int) : List Int := lowA (a + b) (c + d) (min (min 0 a) (a + b)) pr1 ++ lowA (a + b) (c + d) (min (min 0 c) (c + d)) pr2
/-- the lowest depth by counts -/
noncomputable def lowF (a b c d : Int) : Int := match lowV a b c d with
  | [] => 0
  | x :: l => minL x l
theorem pairs_at {h : Heap} {D1 D2 D3 D4 : Addr} {l : List (Int × Int)} (hl : l.length = 4) (hb : ∀ p ∈ l, 0 ≤ p.1 ∧ p.1 ≤ 5 ∧ 0 ≤ p.2 ∧ p.2 ≤ 5) (h1 : ∃ t u, h.IsTuple D1 #[.int (l[0]!).1 t, .int (l[0]!).2 u]) (h2 : ∃ t u, h.IsTuple D2 #[.int (l[1]!).1 t, .int (l[1]!).2 u])
    (h3 : ∃ t u, h.IsTuple D3 #[.int (l[2]!).1 t, .int (l[2]!).2 u]) (h4 : ∃ t u, h.IsTuple D4 #[.int (l[3]!).1 t, .int (l[3]!).2 u]) {i : Nat} {v : Value} (hi : i < 4) (hv : (#[.ref D1, .ref D2, .ref D3, .ref D4] : Array Value)[i]? = some v) :
    ∃ D p q tp tq, v = .ref D ∧ h.IsTuple D #[.int p tp, .int q tq] ∧ l[i]? = some (p, q) ∧ 0 ≤ p ∧ p ≤ 5 ∧ 0 ≤ q ∧ q ≤ 5 := by
  have key : ∀ j, j < 4 → l[j]? = some (l[j]!) := fun j hj => by simp [hl, hj]
  have b : ∀ j, j < 4 → _ := fun j hj => hb _ (List.mem_of_getElem? (key j hj))
  obtain rfl | rfl | rfl | rfl : i = 0 ∨ i = 1 ∨ i = 2 ∨ i = 3 := by omega
  · obtain ⟨t, u, h⟩ := h1
    exact ⟨_, _, _, _, _, (Option.some.inj hv).symm, h, key 0 hi, b 0 hi⟩
  · obtain ⟨t, u, h⟩ := h2
    exact ⟨_, _, _, _, _, (Option.some.inj hv).symm, h, key 1 hi, b 1 hi⟩
  · obtain ⟨t, u, h⟩ := h3
    exact ⟨_, _, _, _, _, (Option.some.inj hv).symm, h, key 2 hi, b 2 hi⟩
  · obtain ⟨t, u, h⟩ := h4
    exact ⟨_, _, _, _, _, (Option.some.inj hv).symm, h, key 3 hi, b 3 hi⟩
theorem low_spec {w : World} {A : Around} {s : Shared} {E : Value → Shared → Prop} (hh : A.handled = none) (hd : A.depth + 1 ≤ 301 + 20 * 2) (hu : A.units + 3 ≤ 100 * 2) (W : Wd w s.heap) (l : Addr) (a b c d : Int) (ta tb tc td : Tok) (hl : s.heap.IsList l #[.int a ta, .int b tb, .int c tc, .int d td]) (ra : -3 ≤ a ∧ a ≤ 3) (rb : -3 ≤ b ∧ b ≤ 3) (rc : -3 ≤ c ∧ c ≤ 3) (rd : -3 ≤ d ∧ d ≤ 3) :
    wpAny (model PR w) A (call (.ref 125) [.ref l]) (fun v s' => ∃ t, v = .int (lowF a b c d) t ∧ After s s') E s := by
  obtain ⟨_, _, _, T⟩ := W.t
  have X := W.k
  refine call_fnC (n := 2) (f := 125) (c := 124) (i := 17) (binds := [("steps", .ref l)]) hh hd hu (by decide) W rfl rfl (BindsTo.of_eq rfl) ?_ (by decide +kernel) rfl rfl rfl (fun h₁ tk cells F N Y => ?_)
  · intro n x hx
    rw [List.mem_singleton.mp hx]
    exact Or.inr ⟨by rfl, by rfl⟩
  obtain ⟨o1, o2, o3, rfl, e1, e2, e3⟩ := Y.three
  clear Y
  replace e1 : o1.data = .cell none := e1
  replace e2 : o2.data = .cell none := e2
  replace e3 : o3.data = .cell (some (.ref l)) := e3
  replace F : Fr s.heap s.heap.objs.size h₁ (fun y => List.lookup y ([] : NM)) := F
  generalize h1 : s.heap.objs.size + 1 + 1 + 1 = c1 at N
  generalize h2 : s.heap.objs.size + 1 + 1 = c2 at N
  generalize h3 : s.heap.objs.size + 1 = c3 at N
  w_on
  refine fill_of ?_; k_fill; intro _
  show wpAny _ _ (execs (_ :: _) _) _ _ _
  with_reducible refine seq (J := fun s' => ∃ o1 o2 tx ty, o1.data = .cell (some (.int (c + d) ty)) ∧ o2.data = .cell (some (.int (a + b) tx)) ∧ At s.heap s.heap.objs.size s [] [(s.heap.objs.size + 1 + 1 + 1, o1), (s.heap.objs.size + 1 + 1, o2), (s.heap.objs.size + 1, o3)] s') ?_ ?_
  · have hl' := hl.at (fun o e => F.keep _ o e)
    subst h1 h2 h3
    walk_at "go"
    rename_i dx hy oy F2 N2 dy
    exact ⟨rfl, oy, _, _, _, dy, dx, F2, fun p hp => N2 p (List.mem_cons_of_mem _ hp), rfl, rfl, rfl⟩
  clear F N e1 e2 h1 h2 h3
  clear c1 c2 c3 o1 o2
  rintro s1 ⟨o1, o2, tx, ty, e1, e2, I⟩
  show wpAny _ _ (execs (_ :: _) _) _ _ _
  with_reducible refine seq (J := fun s' => ∃ vs r k, IntsAre vs (lowA (a + b) (c + d) (min (min 0 a) (a + b)) pr1) ∧ At s.heap s.heap.objs.size s [("reached", .ref r)] [(r, PySem.W.listOf vs.toArray k), (s.heap.objs.size + 1 + 1 + 1, o1), (s.heap.objs.size + 1 + 1, o2), (s.heap.objs.size + 1, o3)] s') ?_ ?_
  · with_reducible refine assign_comp (s₀ := s) (g := s.heap) (n := 4) (cl := [("y", s.heap.objs.size + 1 + 1 + 1), ("x", s.heap.objs.size + 1 + 1), ("steps", s.heap.objs.size + 1)]) (fun i ys own => IntsAre ys (lowA (a + b) (c + d) (min (min 0 a) (a + b)) (pr1.take i)) ∧ own = []) [] ([(s.heap.objs.size + 1 + 1 + 1, o1), (s.heap.objs.size + 1 + 1, o2), (s.heap.objs.size + 1, o3)] : LD) ?_ ?_ ?_ ?_ ?_ ?_ ?_ ?_ ?_ ?_ ?_ ?_ ?_
    · exact ⟨.nil, rfl⟩
    · rintro i ys own ⟨h, -⟩; rw [h.length]; simp [lowA]; omega
    · decide
    · rfl
    · rfl
    · decide +kernel
    · rfl
    · decide +kernel
    · rfl
    · rfl
    · have F := I.F
      have N := I.N
      walk_at "go"
      rename_i D1 h1 l1 D2 h2 l2 D3 h3 l3 D4 h4 l4 l5 h5 F2 N2 _
      refine hit_of (s₀ := s) (fun i v => (#[.ref D1, .ref D2, .ref D3, .ref D4] : Array Value)[i]? = some v) ⟨F2, N2, I.g, I.d, I.o⟩ (fun p hp => by repeat (first | exact hp | refine List.mem_cons_of_mem _ ?_)) ?_
      clear F2 N2
      intro s₁ I1
      have N1 := I1.N
      refine ⟨itcList (A := AA 2) (items := #[.ref D1, .ref D2, .ref D3, .ref D4]) rfl (list_is (N1 _ (.head _)).1), ?_⟩
      have cy : Heap.IsCell s₁.heap (s.heap.objs.size + 1 + 1 + 1) (some (.int (c + d) ty)) := ⟨o1, (N1 (s.heap.objs.size + 1 + 1 + 1, o1) (by simp)).1, e1⟩
      have cx : Heap.IsCell s₁.heap (s.heap.objs.size + 1 + 1) (some (.int (a + b) tx)) := ⟨o2, (N1 (s.heap.objs.size + 1 + 1, o2) (by simp)).1, e2⟩
      have cs : Heap.IsCell s₁.heap (s.heap.objs.size + 1) (some (.ref l)) := ⟨o3, (N1 (s.heap.objs.size + 1, o3) (by simp)).1, e3⟩
      have t4 := tup_is (N1 _ (.tail _ (.head _))).1
      have t3 := tup_is (N1 _ (.tail _ (.tail _ (.head _)))).1
      have t2 := tup_is (N1 _ (.tail _ (.tail _ (.tail _ (.head _))))).1
      have t1 := tup_is (N1 _ (.tail _ (.tail _ (.tail _ (.tail _ (.head _)))))).1
      dsimp only at t1 t2 t3 t4
      clear N1
      have hk1 := I1.F.keep
      intro s₂ haf C i v ys own hid post s₃ hi hP hJ hC IC
      obtain ⟨D, p, q, tp, tq, rfl, ht, hpq, hp0, hp5, hq0, hq5⟩ := pairs_at (l := pr1) rfl (by decide) ⟨_, _, t1⟩ ⟨_, _, t2⟩ ⟨_, _, t3⟩ ⟨_, _, t4⟩ hi hP
      obtain ⟨hJ, rfl⟩ := hJ
      clear t1 t2 t3 t4 hP I I1
      have F := IC.F
      have N := IC.N
      have ht' := ht.at (fun o e => F.keep _ o e)
      have hl' := hl.at (fun o e => F.keep _ o (hk1 _ o e))
      iterate 14 (try walk_at "comp1")
      refine cell_comp (by assumption) (by rfl) cx ?_
      iterate 8 (try walk_at "comp1")
      refine cell_comp (by assumption) (by rfl) cy ?_
      iterate 12 (try walk_at "comp1")
      refine built_comp (by assumption) hk1 X (topRead_of T) (by rfl) (by rfl) (by decide +kernel) ?_
      iterate 12 (try walk_at "comp1")
      refine cell_comp (by assumption) (by rfl) cs ?_
      iterate 12 (try walk_at "comp1")
      rename Fr _ _ _ _ => F9
      refine sub_list (hl.at (fun o e => F9.keep _ o (hk1 _ o e))) (by decide) (by decide) rfl ?_
      iterate 12 (try walk_at "comp1")
      refine cell_comp (by assumption) (by rfl) cx ?_
      iterate 12 (try walk_at "comp1")
      rename News _ _ _ _ => N9
      refine min3 (A := AA 2) rfl (fun t' s' haf' => ?_)
      have I9 : At s₁.heap C s₂ (upd "j" (.int q tq) (upd "i" (.int p tp) post)) hid s' := at_after haf' (frUpd2 F9 rfl) N9 IC.g IC.d IC.o
      clear F9 N9 F N haf'
      have F := I9.F
      have N := I9.N
      iterate 4 (try walk_at "comp1")
      refine ⟨[], _, ⟨?_, rfl⟩, (fun p hp => by cases hp), ⟨F, N, I9.g, I9.d, I9.o⟩⟩
      rw [List.take_add_one, hpq]
      unfold lowA at hJ ⊢
      rw [List.map_append]
      exact hJ.append (.cons _ _ .nil)
    · rintro D k ys own s' ⟨h, rfl⟩ - I'
      exact ⟨rfl, ys, D, k, h, I'⟩
    · intro x; rfl
  clear I
  rintro s2 ⟨vs, r, k, hvs, I⟩
  show wpAny _ _ (execs (_ :: _) _) _ _ _
  with_reducible refine seq (J := fun s' => ∃ vs r k, IntsAre vs (lowV a b c d) ∧ At s.heap s.heap.objs.size s [("reached", .ref r)] [(r, PySem.W.listOf vs.toArray k)] s') ?_ ?_
  · with_reducible refine wpAny_AugAssign_Name ?_
    refine wpAny_loadName_local rfl rfl I.F.ns rfl ?_
    with_reducible refine eval_comp (s₀ := s) (g := s.heap) (L := s.heap.objs.size) (n := 4) (cl := [("y", s.heap.objs.size + 1 + 1 + 1), ("x", s.heap.objs.size + 1 + 1), ("steps", s.heap.objs.size + 1)]) (fun i ys own => IntsAre ys (lowA (a + b) (c + d) (min (min 0 c) (c + d)) (pr2.take i)) ∧ own = []) [("reached", .ref r)] ([(r, PySem.W.listOf vs.toArray k), (s.heap.objs.size + 1 + 1 + 1, o1), (s.heap.objs.size + 1 + 1, o2), (s.heap.objs.size + 1, o3)] : LD) ?_ ?_ ?_ ?_ ?_ ?_ ?_ ?_ ?_ ?_
    · exact ⟨.nil, rfl⟩
    · rintro i ys own ⟨h, -⟩; rw [h.length]; simp [lowA]; omega
    · decide
    · rfl
    · decide +kernel
    · rfl
    · decide +kernel
    · have F := I.F
      have N := I.N
      walk_at "go"
      rename_i D1 h1 l1 D2 h2 l2 D3 h3 l3 D4 h4 l4 l5 h5 F2 N2 _
      refine hit_of (s₀ := s) (fun i v => (#[.ref D1, .ref D2, .ref D3, .ref D4] : Array Value)[i]? = some v) ⟨F2, N2, I.g, I.d, I.o⟩ (fun p hp => by repeat (first | exact hp | refine List.mem_cons_of_mem _ ?_)) ?_
      clear F2 N2
      intro s₁ I1
      have N1 := I1.N
      refine ⟨itcList (A := AA 2) (items := #[.ref D1, .ref D2, .ref D3, .ref D4]) rfl (list_is (N1 _ (.head _)).1), ?_⟩
      have cy : Heap.IsCell s₁.heap (s.heap.objs.size + 1 + 1 + 1) (some (.int (c + d) ty)) := ⟨o1, (N1 (s.heap.objs.size + 1 + 1 + 1, o1) (by simp)).1, e1⟩
      have cx : Heap.IsCell s₁.heap (s.heap.objs.size + 1 + 1) (some (.int (a + b) tx)) := ⟨o2, (N1 (s.heap.objs.size + 1 + 1, o2) (by simp)).1, e2⟩
      have cs : Heap.IsCell s₁.heap (s.heap.objs.size + 1) (some (.ref l)) := ⟨o3, (N1 (s.heap.objs.size + 1, o3) (by simp)).1, e3⟩
      have t4 := tup_is (N1 _ (.tail _ (.head _))).1
      have t3 := tup_is (N1 _ (.tail _ (.tail _ (.head _)))).1
      have t2 := tup_is (N1 _ (.tail _ (.tail _ (.tail _ (.head _))))).1
      have t1 := tup_is (N1 _ (.tail _ (.tail _ (.tail _ (.tail _ (.head _)))))).1
      dsimp only at t1 t2 t3 t4
      clear N1
      have hk1 := I1.F.keep
      intro s₂ haf C i v ys own hid post s₃ hi hP hJ hC IC
      obtain ⟨D, p, q, tp, tq, rfl, ht, hpq, hp0, hp5, hq0, hq5⟩ := pairs_at (l := pr2) rfl (by decide) ⟨_, _, t1⟩ ⟨_, _, t2⟩ ⟨_, _, t3⟩ ⟨_, _, t4⟩ hi hP
      obtain ⟨hJ, rfl⟩ := hJ
      clear t1 t2 t3 t4 hP I I1
      have F := IC.F
      have N := IC.N
      have ht' := ht.at (fun o e => F.keep _ o e)
      have hl' := hl.at (fun o e => F.keep _ o (hk1 _ o e))
      iterate 14 (try walk_at "comp1")
      refine cell_comp (by assumption) (by rfl) cx ?_
      iterate 8 (try walk_at "comp1")
      refine cell_comp (by assumption) (by rfl) cy ?_
      iterate 12 (try walk_at "comp1")
      refine built_comp (by assumption) hk1 X (topRead_of T) (by rfl) (by rfl) (by decide +kernel) ?_
      iterate 12 (try walk_at "comp1")
      refine cell_comp (by assumption) (by rfl) cs ?_
      iterate 12 (try walk_at "comp1")
      rename Fr _ _ _ _ => F9
      refine sub_list (hl.at (fun o e => F9.keep _ o (hk1 _ o e))) (by decide) (by decide) rfl ?_
      iterate 12 (try walk_at "comp1")
      refine cell_comp (by assumption) (by rfl) cy ?_
      iterate 12 (try walk_at "comp1")
      rename News _ _ _ _ => N9
      refine min3 (A := AA 2) rfl (fun t' s' haf' => ?_)
      have I9 : At s₁.heap C s₂ (upd "j" (.int q tq) (upd "i" (.int p tp) post)) hid s' := at_after haf' (frUpd2 F9 rfl) N9 IC.g IC.d IC.o
      clear F9 N9 F N haf'
      have F := I9.F
      have N := I9.N
      iterate 4 (try walk_at "comp1")
      refine ⟨[], _, ⟨?_, rfl⟩, (fun p hp => by cases hp), ⟨F, N, I9.g, I9.d, I9.o⟩⟩
      rw [List.take_add_one, hpq]
      unfold lowA at hJ ⊢
      rw [List.map_append]
      exact hJ.append (.cons _ _ .nil)
    · rintro D k' ys own s' ⟨h, rfl⟩ hDn I'
      have hne : ∀ p ∈ ([(s.heap.objs.size + 1 + 1 + 1, o1), (s.heap.objs.size + 1 + 1, o2), (s.heap.objs.size + 1, o3)] : LD), p.1 ≠ r := by
        intro p hp
        have hr := (I.N _ (.head _)).1
        have hp1 := (I.N p (List.mem_cons_of_mem _ hp)).1
        have hd : ∃ v, p.2.data = .cell v := by
          simp only [List.mem_cons, List.not_mem_nil, or_false] at hp
          rcases hp with rfl | rfl | rfl
          · exact ⟨_, e1⟩
          · exact ⟨_, e2⟩
          · exact ⟨_, e3⟩
        exact cell_ne hr hp1 hd.choose_spec
      have F := I'.F
      have N := I'.N
      have z1 := hvs.length
      have z2 := h.length
      refine iadd_lists F N hne (fun e => hDn _ (.head _) e.symm) (by simp [z1, z2, lowA, pr1, pr2]) ?_
      intro h' k2 F' N'
      refine wpAny_storeName_local rfl F'.ns (fun h2 hn hs => ?_) rfl
      have F2 := F'.set hn hs
      have N2 := N'.set hs
      refine ⟨rfl, vs ++ ys, r, k2, hvs.append h, ?_⟩
      refine ⟨frUpd F2 rfl, fun p hp => N2 p ?_, I'.g, I'.d, I'.o⟩
      rw [List.mem_singleton.mp hp]
      simp
    · intro x; rfl
  rintro s3 ⟨vs', r', k', hvs', I⟩
  have F := I.F
  have N := I.N
  walk_at "go"
  refine minList (A := AA 2) rfl (list_is (N _ (.head _)).1) hvs' (fun t' s' haf => ?_)
  exact ⟨t', rfl, ⟨fun b o e => haf.k _ _ (F.keep _ _ e), haf.g.trans I.g, haf.d.trans I.d, haf.o.trans I.o⟩⟩
end Mine
end
section
open PySem PySem.W PyProof.Rows
set_option maxRecDepth 100000
set_option maxHeartbeats 2000000
namespace Mine
noncomputable abbrev Two := Array UInt8 × Array UInt8
noncomputable def pick (a b : Two) (x : Int) : Two := if x = 0 then a else b
/-- the two pieces, two runs each -/
noncomputable def Pcs (h : Heap) (P : Addr) (a b : Two) : Prop := ∃ p q t1 t2 t3 t4, h.IsList P #[.ref p, .ref q] ∧ h.IsList p #[.bytes a.1 t1, .bytes a.2 t2] ∧ h.IsList q #[.bytes b.1 t3, .bytes b.2 t4]
theorem Pcs.keeps {h h' : Heap} {P : Addr} {a b : Two} (x : Pcs h P a b) (k : ∀ b o, h.get? b = some o → h'.get? b = some o) : Pcs h' P a b := by
  obtain ⟨p, q, t1, t2, t3, t4, h1, h2, h3⟩ := x
  exact ⟨p, q, t1, t2, t3, t4, h1.at (fun o e => k _ o e), h2.at (fun o e => k _ o e), h3.at (fun o e => k _ o e)⟩
theorem Pcs.its {h : Heap} {P : Addr} {a b : Two} (z : Pcs h P a b) {x : Int} (hx : x = 0 ∨ x = 1) : ∃ its p t1 t2, h.IsList P its ∧ its[x.toNat]? = some (.ref p) ∧ h.IsList p #[.bytes (pick a b x).1 t1, .bytes (pick a b x).2 t2] := by
  obtain ⟨p, q, t1, t2, t3, t4, h1, h2, h3⟩ := z
  rcases hx with rfl | rfl
  · exact ⟨_, p, t1, t2, h1, rfl, h2⟩
  · exact ⟨_, q, t3, t4, h1, rfl, h3⟩
/-- the depths ahead of the last -/
noncomputable def trail : Int → List Int → List Int
  | _, [] => []
  | s, t :: ts => s :: trail (s + t) ts
theorem trail_snoc (ts : List Int) (t : Int) : ∀ s, trail s (ts ++ [t]) = trail s ts ++ [s + ts.sum] := by
  induction ts with
  | nil => intro s; simp [trail]
  | cons u ts ih => intro s; simp [trail, ih, Int.add_assoc]
theorem trail_len (ts : List Int) : ∀ s, (trail s ts).length = ts.length := by
  induction ts with
  | nil => intro s; rfl
  | cons u ts ih => intro s; simp [trail, ih]
noncomputable def minD : Int → List Int → Int
  | s, [] => s
  | s, t :: ts => min s (minD (s + t) ts)
theorem minD_mem (ts : List Int) : ∀ s, minD s ts ∈ trail s ts ++ [s + ts.sum] := by
  induction ts with
  | nil => intro s; simp [minD, trail]
  | cons t ts ih =>
    intro s
    have := ih (s + t)
    simp only [minD, trail, List.cons_append, List.mem_cons, List.sum_cons, ← Int.add_assoc]
    rcases Int.le_total s (minD (s + t) ts) with h | h
    · left; rw [Int.min_eq_left h]
    · right; rw [Int.min_eq_right h]; exact this
theorem minD_le (ts : List Int) : ∀ s, ∀ x ∈ trail s ts ++ [s + ts.sum], minD s ts ≤ x := by
  induction ts with
  | nil => intro s x hx; simp [trail] at hx; simp [minD, hx]
  | cons t ts ih =>
    intro s x hx
    simp only [trail, List.cons_append, List.mem_cons, List.sum_cons, ← Int.add_assoc] at hx
    simp only [minD]
    rcases hx with rfl | hx
    · omega
    · have := ih (s + t) x hx; omega
/-- what the runs of a row tell -/
noncomputable def tells (a b : Two) (ns : List Int) : List Int := ns.flatMap fun x => [pd (pick a b x).1, pd (pick a b x).2]
theorem tells_take (a b : Two) (ns : List Int) (i : Nat) (x : Int) (h : ns[i]? = some x) : tells a b (ns.take (i + 1)) = tells a b (ns.take i) ++ [pd (pick a b x).1, pd (pick a b x).2] := by
  unfold tells
  rw [List.take_add_one, h, List.flatMap_append]
  simp
theorem tells_len (a b : Two) (ns : List Int) : (tells a b ns).length = 2 * ns.length := by
  induction ns with
  | nil => rfl
  | cons x ns ih => unfold tells at ih ⊢; simp [ih]; omega
theorem sub_last {w : World} {A : Around} {E : Value → Shared → Prop} {s : Shared} {value slice : Expr} {l : Addr} {vi : List Value} {v : Value} {u : Tok} {Q : Value → Shared → Prop} (hl : s.heap.IsList l (vi ++ [v]).toArray) (h : Q v s)
    (hs : subscripted slice false (.ref l) (.int (-1) u) = operate [.ref l, .int (-1) u] (getItem (.ref l) (.int (-1) u)) := by with_unfolding_all rfl) (hg : ∀ r, letTemporaryGo value (.ref l) r = pure () := by intro _; with_unfolding_all rfl) :
    wpAny (model PR w) A (subscriptTail value slice (.ref l) (.int (-1) u)) Q E s :=
  subscriptTail_builtin hl.typeIs slot_list_getitem.lookup (wpAny_getItem_list_neg hl (by decide) (by simp; omega) (by decide) (by
    have e : ((-1 : Int) + ((vi ++ [v]).toArray.size : Int)).toNat = vi.length := by simp; omega
    rw [e]; simp) h) hs hg
theorem depths_spec {w : World} {A : Around} {s : Shared} {E : Value → Shared → Prop} (hh : A.handled = none) (hd : A.depth + 1 ≤ 301 + 20 * 2) (hu : A.units + 3 ≤ 100 * 2) (W : Wd w s.heap) (l P : Addr) (items : Array Value) (ns : List Int) (a b : Two) (hl : s.heap.IsList l items) (hi : IntsAre items.toList ns) (hn : items.size = 10) (hb : ∀ x ∈ ns, x = 0 ∨ x = 1)
    (hP : Pcs s.heap P a b) (hsz : ∀ x, (pick a b x).1.size ≤ 1000 ∧ (pick a b x).2.size ≤ 1000) (d : Int) (td : Tok) :
    wpAny (model PR w) A (call (.ref 132) [.ref l, .ref P, .int d td]) (fun v s' => ∃ r t1 t2, v = .ref r ∧ Made s s' [(r, { cls := .type "tuple", data := .seq #[.int (minD d (tells a b ns)) t1, .int (d + (tells a b ns).sum) t2] })] ∧ After s s') E s := by
  obtain ⟨_, _, _, T⟩ := W.t
  have X := W.k
  refine call_fn (n := 2) (f := 132) (c := 131) (i := 18) (binds := [("row", .ref l), ("pieces", .ref P), ("start", .int d td)]) hh hd hu (by decide) W rfl rfl (BindsTo.of_eq rfl) (by decide +kernel) (locs rfl) rfl rfl rfl (fun h₁ F => ?_)
  have N : News s.heap s.heap.objs.size h₁ [] := News.nil
  w_on
  refine fill_of ?_; k_fill; intro _
  show wpAny _ _ (execs (_ :: _) _) _ _ _
  with_reducible refine seq (J := fun s' => ∃ D k, At s.heap s.heap.objs.size s [("start", .int d td), ("pieces", .ref P), ("row", .ref l), ("depths", .ref D)] [(D, PySem.W.listOf ([] ++ [Value.int d td]).toArray k)] s') ?_ ?_
  · walk_at "go"
    exact ⟨rfl, _, _, ⟨frUpd (by assumption) rfl, by assumption, rfl, rfl, rfl⟩⟩
  clear F N
  rintro s1 ⟨D, k, I⟩
  refine seq (J := fun s' => ∃ post vi t k, IntsAre vi (trail d (tells a b ns)) ∧ At s.heap s.heap.objs.size s (([("start", .int d td), ("pieces", .ref P), ("row", .ref l), ("depths", .ref D)] : NM) ++ post) [(D, PySem.W.listOf (vi ++ [Value.int (d + (tells a b ns).sum) t]).toArray k)] s') ?_ ?_
  · refine for_rule (s₀ := s) (g := s.heap) (n := items.size) (P := fun i v => items[i]? = some v) [D] [] (fun i e led => ∃ vi t k, IntsAre vi (trail d (tells a b (ns.take i))) ∧ e = ([("start", .int d td), ("pieces", .ref P), ("row", .ref l), ("depths", .ref D)] : NM) ∧ led = [(D, PySem.W.listOf (vi ++ [Value.int (d + (tells a b (ns.take i)).sum) t]).toArray k)])
      _ [] [(D, PySem.W.listOf ([] ++ [Value.int d td]).toArray k)] rfl rfl (by rintro i e led ⟨vi, t, k, _, rfl, rfl⟩; exact ⟨rfl, rfl⟩) ⟨[], td, k, .nil, rfl, by simp [tells]⟩ ?_ ?_ ?_
    · have F := I.F
      have N := I.N
      have hl' := hl.at (fun o e => F.keep _ o e)
      obtain ⟨ol, hol, _⟩ := id hl
      have hlL : l ≠ s.heap.objs.size := Nat.ne_of_lt (Heap.lt_size hol)
      have hlD : l ≠ D := by
        rintro rfl
        have := (N _ (.head _)).2.2
        rw [hol] at this; cases this
      walk_at "go"
      exact itList rfl I hl' hlL (by simpa using hlD) (by simp)
    · rintro i v e led own post s3 hi' hv ⟨vi, t, k, hvi, rfl, rfl⟩ hown I
      obtain ⟨x, tx, rfl, hx⟩ := hi.at i v (by simpa using hv)
      have hx01 := hb x (List.mem_of_getElem? hx)
      obtain ⟨its, p, t1, t2, hPi, hPx, hp⟩ := hP.its hx01
      have hsz' := hsz x
      rw [tells_take a b ns i x hx]
      generalize hpr : pick a b x = pr at *
      have hlen : (trail d (tells a b (ns.take i))).length ≤ 2 * i := by rw [trail_len, tells_len, List.length_take]; omega
      generalize hts : tells a b (ns.take i) = ts at *
      refine seq (J := fun s' => ∃ vi t k post, IntsAre vi (trail d (ts ++ [pd pr.1, pd pr.2])) ∧ At s.heap s.heap.objs.size s ((("letter", .int x tx) :: [("start", .int d td), ("pieces", .ref P), ("row", .ref l), ("depths", .ref D)] : NM) ++ post) ([(D, PySem.W.listOf (vi ++ [Value.int (d + (ts ++ [pd pr.1, pd pr.2]).sum) t]).toArray k)] ++ own) s') ?_ ?_
      refine for_rule (s₀ := s) (g := s.heap) (n := 2) (P := fun j v => (#[.bytes pr.1 t1, .bytes pr.2 t2] : Array Value)[j]? = some v) [D] own (fun j e led => ∃ vi t k, IntsAre vi (trail d (ts ++ [pd pr.1, pd pr.2].take j)) ∧ e = (("letter", .int x tx) :: [("start", .int d td), ("pieces", .ref P), ("row", .ref l), ("depths", .ref D)] : NM) ∧ led = [(D, PySem.W.listOf (vi ++ [Value.int (d + (ts ++ [pd pr.1, pd pr.2].take j).sum) t]).toArray k)])
        _ post [(D, PySem.W.listOf (vi ++ [Value.int (d + ts.sum) t]).toArray k)] rfl rfl (by rintro i e led ⟨vi, t, k, _, rfl, rfl⟩; exact ⟨rfl, rfl⟩) ⟨vi, t, k, by simpa using hvi, rfl, by simp⟩ ?_ ?_ ?_
      · have F := I.F
        have N := I.N
        walk_at "go"
        obtain ⟨op, hop, _⟩ := id hp
        refine sub_list (hPi.at (fun o e => F.keep _ o e)) (by omega) (by omega) hPx ?_
        refine itList rfl I (hp.at (fun o e => F.keep _ o e)) (Nat.ne_of_lt (Heap.lt_size hop)) (fun hm => ?_) (by simp)
        have := (N _ (.head _)).2.2
        rw [List.mem_singleton.mp hm] at hop
        rw [hop] at this; cases this
      · rintro j v e led own' post' s4 hj hv ⟨vi, t, k, hvi, rfl, rfl⟩ hown' I
        obtain ⟨bj, tj, rfl, hbs, hpd⟩ : ∃ (bj : Array UInt8) (tj : Tok), v = .bytes bj tj ∧ bj.size ≤ 1000 ∧ [pd pr.1, pd pr.2][j]? = some (pd bj) := by
          obtain rfl | rfl : j = 0 ∨ j = 1 := by omega
          · exact ⟨pr.1, t1, (Option.some.inj hv).symm, hsz'.1, rfl⟩
          · exact ⟨pr.2, t2, (Option.some.inj hv).symm, hsz'.2, rfl⟩
        have hlen2 : vi.length ≤ 900 := by
          have := hvi.length
          rw [trail_len, List.length_append, List.length_take] at this
          rw [trail_len] at hlen
          omega
        have F := I.F
        have N := I.N
        walk_at "go"
        refine bot (wpAny_mono (paren2 (A := AA 2) (s := { s4 with toks := s4.toks + 1 + 1 }) rfl (by decide) (by decide) (W.keeps F.keep) bj (Nat.le_trans hbs (by decide)) _ _ _) (fun v s' hv => ?_) fun _ _ x => x)
        obtain ⟨t3, rfl, haf⟩ := hv
        have I' := I.keeps ⟨haf.k, haf.g, haf.d, haf.o⟩
        clear F N I
        have F := I'.F
        have N := I'.N
        walk_at "go"
        refine append_mine (rest := own ++ own') F N (fun p hp e => ?_) (size_ok rfl (by simp; omega)) ?_
        · rcases List.mem_append.mp hp with hp | hp
          · exact hown p hp (by rw [e]; exact List.mem_singleton.mpr rfl)
          · exact hown' p hp (by rw [e]; exact List.mem_singleton.mpr rfl)
        intro h' F' N'
        walk_at "go"
        rw [push_list] at N'
        refine ⟨rfl, _, _, _, post', ⟨vi ++ [Value.int (d + (ts ++ List.take j [pd pr.1, pd pr.2]).sum) t], t3, k + 1, ?_, rfl, rfl⟩, F', ?_, I'.g, I'.d, I'.o⟩
        · rw [List.take_add_one, hpd, ← List.append_assoc, Option.toList_some, trail_snoc]
          exact hvi.append (.cons _ _ .nil)
        · have e : (ts ++ List.take (j + 1) [pd pr.1, pd pr.2]).sum = (ts ++ List.take j [pd pr.1, pd pr.2]).sum + pd bj := by
            rw [List.take_add_one, hpd, Option.toList_some, ← List.append_assoc, List.sum_append, List.sum_singleton]
          rw [e, ← Int.add_assoc]
          exact N'
      · rintro e led post' s' ⟨vi, t, k, hvi, rfl, rfl⟩ I'
        exact ⟨rfl, vi, t, k, post', hvi, I'⟩
      clear I
      rintro s5 ⟨vi, t, k, post, hvi, I⟩
      exact wpAny_execs_nil ⟨rfl, _, _, _, post, ⟨vi, t, k, hvi, rfl, rfl⟩, I⟩
    · rintro e led post s' ⟨vi, t, k, hvi, rfl, rfl⟩ I'
      rw [List.take_of_length_le (by rw [← hi.length]; simp)] at I' hvi
      exact ⟨rfl, post, vi, t, k, hvi, I'⟩
  clear I
  rintro s2 ⟨post, vi, t, k, hvi, I⟩
  have F := I.F
  have N := I.N
  walk_at "go"
  rename_i M' t' k' hM hle t2 D' h' F' N' _
  have e : M' = minD d (tells a b ns) := Int.le_antisymm (hle _ (minD_mem _ _)) (minD_le _ _ _ hM)
  subst e
  exact ⟨D', _, _, rfl, (fun x hx => by rw [List.mem_singleton.mp hx]; exact ⟨(N' _ (.head _)).1, (N' _ (.head _)).2.2⟩), ⟨F'.keep, I.g, I.d, I.o⟩⟩
end Mine
end
section
open PySem PySem.W PyProof.Rows PySem.Calls
set_option maxRecDepth 100000
namespace Mine
/-- as ItAt, for a loop whose turns make things that stay -/
noncomputable def ItGr (w : World) (A : Around) (g : Heap) (L : Addr) (s₀ : Shared) (m : List (Str × Value)) (led : List (Addr × Obj)) (n : Nat) (P : Nat → Value → Prop) (it : Value) (s : Shared) : Prop :=
  ∃ I fp wr St, it = .ref I ∧ Walks PR w A I fp wr n P St ∧ L ∉ fp ∧ (∀ b ∈ wr, g.get? b = none) ∧ (∀ p ∈ led, p.1 ∉ wr) ∧ (∀ i h, St i h → ∀ b ∈ wr, ∃ o, h.get? b = some o) ∧ (∀ b ∈ fp, b ∈ wr) ∧ St 0 s.heap ∧ At g L s₀ m led s
theorem itRangeGr {w : World} {A : Around} {g : Heap} {L r : Addr} {s₀ s : Shared} {m : List (Str × Value)} {led : List (Addr × Obj)} {n : Nat} {t u v : Tok} (hh : A.handled = none) (I : At g L s₀ m led s) (hr : IsRange s.heap r 0 n 1 t u v) (hn : n < 2 ^ 62) :
    wpAny (model PR w) A (pyIter (.ref r)) (ItGr w A g L s₀ m led n fun i v => ∃ t, v = .int (i : Int) t) Bot s := by
  obtain ⟨f1, f2, f3⟩ := I.fresh
  have hn' : (n : Int) < 2 ^ 62 := by exact_mod_cast hn
  have hs : Builtin.Range.small 0 (n : Int) 1 = true := small_one (by decide) (by decide) (by omega) hn'
  have hz : (Builtin.Range.rangeSize 0 (n : Int) 1 : Int) = (n : Int) := by
    unfold Builtin.Range.rangeSize
    split <;> split <;> simp_all <;> omega
  have W := Walks.range (prog := PR) (w := w) hh s.heap.objs.size 0 1 n
  simp only [Int.mul_one, Int.zero_add] at W
  refine wpAny_pyIter_range hr hs ⟨_, _, _, _, rfl, W, ?_, ?_, ?_, ?_, fun b hb => hb, ?_, I.push _⟩
  · intro h; exact f1 (List.mem_singleton.mp h)
  · intro b hb; rw [List.mem_singleton.mp hb]; exact f2
  · intro p hp h; exact f3 p hp (List.mem_singleton.mp h)
  · intro i h hst b hb
    rw [List.mem_singleton.mp hb]
    exact ⟨_, hst⟩
  · show IsRangeIter _ _ _ _ _
    rw [hz]
    have e : (n : Int) - ((0 : Nat) : Int) = n := by simp
    rw [e]
    exact Heap.get?_push_size _ rfl

theorem for_grow {w : World} {A : Around} {env : Env} {x : Str} {px pos : Pos} {iter : Expr} {body : List Stmt} {Q : Flow → Shared → Prop} {s s₀ : Shared} {g : Heap} {n : Nat} {P : Nat → Value → Prop}
    (J : Nat → List (Str × Value) → List (Addr × Obj) → Prop) (e₀ post : List (Str × Value)) (led₀ : List (Addr × Obj))
    (hx : env.kindOf x = some .local) (hk : env.scope.kind = .function)
    (hJ : ∀ i e led, J i e led → e.lookup x = none) (h0 : J 0 e₀ led₀)
    (hit : wpAny (model PR w) A (eval iter env) (fun xv s₁ => wpAny (model PR w) A (pyIter xv) (ItGr w A g env.locals s₀ (e₀ ++ post) led₀ n P) Bot s₁) Bot s)
    (turn : ∀ i v e led own post s₁, i < n → P i v → J i e led → (∀ p ∈ led, ∀ q ∈ own, p.1 ≠ q.1) → At g env.locals s₀ ((x, v) :: (e ++ post)) (led ++ own) s₁ →
      wpAny (model PR w) A (execs body env) (fun fl s' => Done (fl = .next ∧ ∃ u e' led' post', J (i + 1) e' led' ∧ (∀ p ∈ led', ∀ q ∈ own, p.1 ≠ q.1) ∧ At g env.locals s₀ ((x, u) :: (e' ++ post')) (led' ++ own) s')) Bot s₁)
    (done : ∀ e led post' s', J n e led → At g env.locals s₀ (e ++ post') led s' → Q .next s')
    (hs : ∀ x, foldedSetIterable iter env x = pure x := by intro _; rfl) :
    wpAny (model PR w) A (exec (.For (.Name x px) iter body [] pos) env) Q Bot s := by
  refine wpAny_For (wpAny_mono hit (fun xv s₁ h₁ => wpAny_mono h₁ (fun it s₂ h₂ => ?_) fun _ _ e => e.elim) fun _ _ e => e.elim) hs
  obtain ⟨I, fp, wr, St, rfl, W, hL, hwr, hled, hal, hfw, hst, I0⟩ := h₂
  have hp : (env.scope.kind == .class || (env.scope.kind == .module && env.locals != env.globals)) = false := by rw [hk]; rfl
  refine PyProof.Rows.codeAny_forLoop_frV (R := fun r s' => match r with | .ok f => Q f s' | .error e => cameBackBy (model PR w) A env Bot e s') W hx hp hL hwr hled hst I0.F I0.N
    (fun i m news => ∃ μ e post, m = (fun y => List.lookup y μ) ∧ Off x μ (e ++ post) ∧ J i e news) ⟨_, e₀, post, rfl, fun _ _ => rfl, h0⟩ ?_ ?_
  · rintro i v m₁ news₁ s₁ own ⟨h, tk, rfl⟩ hi hP ⟨μ, e, post, rfl, hoff, hJi⟩ ha ho hog hof hst₁ F₁ N₁
    have I1 : At g env.locals s₀ ((x, v) :: (e ++ post)) (news₁ ++ own) { s₂ with heap := h, toks := tk } :=
      ⟨frCongr F₁ fun y => by
        rw [List.lookup_cons]
        by_cases hy : y = x
        · subst hy; simp
        · rw [if_neg hy, beq_eq_false_iff_ne.mpr hy]; exact hoff y hy, fun p hp => N₁ p (by
        rcases List.mem_append.mp hp with hp | hp
        · exact List.mem_append_right _ hp
        · exact List.mem_append_left _ hp), I0.g, I0.d, I0.o⟩
    refine wpAny_mono (turn i v e news₁ own post _ hi hP hJi (fun p hp q hq h => ha p hp (h ▸ hfw _ (ho q hq))) I1) (fun fl s' hd => ?_) fun _ _ e => e.elim
    obtain ⟨rfl, u, e', led', post', hJ', hfr, I'⟩ := hd
    refine LoopStepV.next ?_
    obtain ⟨h', g', d', tk', o'⟩ := s'
    have e1 : g' = s₂.gens := I'.g.trans I0.g.symm
    have e2 : d' = s₂.drawn := I'.d.trans I0.d.symm
    have e3 : o' = s₂.os := I'.o.trans I0.o.symm
    subst e1 e2 e3
    refine ⟨rfl, h', tk', _, led', rfl, I'.F, fun p hp => I'.N p (by
        rcases List.mem_append.mp hp with hp | hp
        · exact List.mem_append_right _ hp
        · exact List.mem_append_left _ hp), ?_, _, e', post', rfl, fun y hy => by rw [List.lookup_cons, beq_eq_false_iff_ne.mpr hy], hJ'⟩
    intro p hp hw
    obtain ⟨o, ho'⟩ := hal _ _ hst₁ _ hw
    exact hfr p hp _ (hof _ (W.sub _ hw) (hwr _ hw) _ ho') rfl
  · rintro h' tk m' news' F' N' ha ⟨μ, e, post, rfl, hoff, hJn⟩
    obtain ⟨post', hp'⟩ := hoff.tail (hJ _ _ _ hJn)
    exact done e _ post' _ hJn ⟨frCongr F' hp', N', I0.g, I0.d, I0.o⟩
end Mine
end
section
open PySem PySem.W PyProof.Rows
set_option maxRecDepth 100000
set_option maxHeartbeats 2000000
namespace Mine
local macro_rules | `(tactic| walk_at "binaryOp Add bytes bytes") => `(tactic| ((with_reducible show wpAny _ _ (binaryOp Operator.Add (Value.bytes _ _) (Value.bytes _ _)) _ _ _); (refine KBy.add_bytes (by (simp only [Array.size_append, List.size_toArray, List.length_cons, List.length_nil]; omega)) ?_); intro _ _))
noncomputable def units : List (List UInt8) := [[40], [41], [92, 34], [92, 92], [92, 41], [10, 40], [32, 40], [233, 41]]
noncomputable def unit (f : Int) : List UInt8 := units.getD f.toNat []
noncomputable def runL (t : Int) : List UInt8 := List.replicate t.toNat 40 ++ List.replicate (-t).toNat 41
noncomputable def piece0 (f g a : Int) : List UInt8 := [92, 34] ++ unit f ++ unit g ++ [34] ++ runL a
noncomputable def piece1 (b h : Int) : List UInt8 := runL b ++ [34] ++ unit h ++ [34]
noncomputable def UnitsAre (us : Array Value) : Prop := ∃ t0 t1 t2 t3 t4 t5 t6 t7, us = #[.bytes #[40] t0, .bytes #[41] t1, .bytes #[92, 34] t2, .bytes #[92, 92] t3, .bytes #[92, 41] t4, .bytes #[10, 40] t5, .bytes #[32, 40] t6, .bytes #[233, 41] t7]
/-- the piece lists made so far -/
noncomputable def PiecesAre (ts fs : List Int) (ps : LD) : Prop := ∀ (j : Nat) (p : Addr × Obj), ps[j]? = some p → ∃ t t' k, p.2 = PySem.W.listOf #[.bytes (piece0 (fs.getD (3 * j) 0) (fs.getD (3 * j + 1) 0) (ts.getD (2 * j) 0)).toArray t, .bytes (piece1 (ts.getD (2 * j + 1) 0) (fs.getD (3 * j + 2) 0)).toArray t'] k
theorem slice2 {ts : List Int} (h : ts.length = 4) {i : Nat} (hi : i < 2) : List.take (min (2 * (i : Int) + 2).toNat ts.length - (2 * (i : Int)).toNat) (List.drop (2 * (i : Int)).toNat ts) = [ts.getD (2 * i) 0, ts.getD (2 * i + 1) 0] := by
  obtain ⟨a, b, c, d, rfl⟩ : ∃ a b c d, ts = [a, b, c, d] := by
    match ts, h with
    | [a, b, c, d], _ => exact ⟨a, b, c, d, rfl⟩
  obtain rfl | rfl : i = 0 ∨ i = 1 := by omega
  · rfl
  · rfl
theorem ints2 {vs : List Value} {x y : Int} (h : IntsAre vs [x, y]) : ∃ t u, vs = [.int x t, .int y u] := by
  cases h with
  | cons _ t h => cases h with
    | cons _ u h => cases h with
      | nil => exact ⟨_, _, rfl⟩
theorem getD_in {l : List Int} {i : Nat} (h : i < l.length) : l.getD i 0 ∈ l := by
  rw [List.getD_eq_getElem?_getD, List.getElem?_eq_getElem h]
  exact List.getElem_mem h
theorem updTail {y : Str} {v : Value} {m post : NM} (h : m.lookup y = none) : ∀ z, (upd y v (m ++ post)).lookup z = (m ++ ((y, v) :: post)).lookup z := by
  intro z
  rw [lookup_upd, lookup_app, lookup_app, List.lookup_cons]
  by_cases hz : z = y
  · subst hz; rw [h]; simp
  · rw [if_neg hz, beq_eq_false_iff_ne.mpr hz]
theorem take_map {α β : Type} (f : α → β) {a b : α} {j : Nat} {x : α} (h : [a, b][j]? = some x) : [f a, f b][j]? = some (f x) := by
  rw [show [f a, f b] = [a, b].map f from rfl, List.getElem?_map, h]; rfl
theorem slice3 {ts : List Int} (h : ts.length = 6) {i : Nat} (hi : i < 2) : List.take (min (3 * (i : Int) + 3).toNat ts.length - (3 * (i : Int)).toNat) (List.drop (3 * (i : Int)).toNat ts) = [ts.getD (3 * i) 0, ts.getD (3 * i + 1) 0, ts.getD (3 * i + 2) 0] := by
  obtain ⟨a, b, c, d, e, f, rfl⟩ : ∃ a b c d e f, ts = [a, b, c, d, e, f] := by
    match ts, h with
    | [a, b, c, d, e, f], _ => exact ⟨a, b, c, d, e, f, rfl⟩
  obtain rfl | rfl : i = 0 ∨ i = 1 := by omega
  · rfl
  · rfl
theorem ints3 {vs : List Value} {x y z : Int} (h : IntsAre vs [x, y, z]) : ∃ t u v, vs = [.int x t, .int y u, .int z v] := by
  cases h with
  | cons _ t h =>
    obtain ⟨u, v, rfl⟩ := ints2 h
    exact ⟨t, u, v, rfl⟩
theorem take_map3 {α β : Type} (f : α → β) {a b c : α} {j : Nat} {x : α} (h : [a, b, c][j]? = some x) : [f a, f b, f c][j]? = some (f x) := by
  rw [show [f a, f b, f c] = [a, b, c].map f from rfl, List.getElem?_map, h]; rfl
theorem unit_at {us : Array Value} (h : UnitsAre us) {x : Int} (h0 : 0 ≤ x) (h8 : x < 8) : ∃ t, us[x.toNat]? = some (.bytes (unit x).toArray t) := by
  obtain ⟨t0, t1, t2, t3, t4, t5, t6, t7, rfl⟩ := h
  obtain ⟨k, rfl⟩ := Int.eq_ofNat_of_zero_le h0
  obtain rfl | rfl | rfl | rfl | rfl | rfl | rfl | rfl : k = 0 ∨ k = 1 ∨ k = 2 ∨ k = 3 ∨ k = 4 ∨ k = 5 ∨ k = 6 ∨ k = 7 := by omega
  all_goals exact ⟨_, rfl⟩
theorem bytes1 {vs : List Value} {x : List UInt8} {r : List (List UInt8)} (h : BytesAre vs (x :: r)) : ∃ t vs', vs = .bytes x.toArray t :: vs' ∧ BytesAre vs' r := by
  generalize hl : x :: r = l at h
  cases h with
  | nil => cases hl
  | cons b t h => cases hl; exact ⟨t, _, rfl, h⟩
theorem bytes0 {vs : List Value} (h : BytesAre vs []) : vs = [] := by
  generalize hl : ([] : List (List UInt8)) = l at h
  cases h with
  | nil => rfl
  | cons b t h => cases hl
theorem bytes2 {vs : List Value} {x y : List UInt8} (h : BytesAre vs [x, y]) : ∃ t u, vs = [.bytes x.toArray t, .bytes y.toArray u] := by
  obtain ⟨t, _, rfl, h1⟩ := bytes1 h
  obtain ⟨u, _, rfl, h2⟩ := bytes1 h1
  rw [bytes0 h2]
  exact ⟨t, u, rfl⟩
theorem bytes3 {vs : List Value} {x y z : List UInt8} (h : BytesAre vs [x, y, z]) : ∃ t u v, vs = [.bytes x.toArray t, .bytes y.toArray u, .bytes z.toArray v] := by
  obtain ⟨t, _, rfl, h1⟩ := bytes1 h
  obtain ⟨u, v, rfl⟩ := bytes2 h1
  exact ⟨t, u, v, rfl⟩
theorem unit_len (x : Int) : (unit x).length ≤ 2 := by
  unfold unit
  rw [List.getD_eq_getElem?_getD]
  by_cases h : x.toNat < units.length
  · rw [List.getElem?_eq_getElem h]
    exact (by decide : ∀ y ∈ units, y.length ≤ 2) _ (List.getElem_mem h)
  · rw [List.getElem?_eq_none (by omega)]; simp
theorem runL_len {x : Int} (h : -3 ≤ x ∧ x ≤ 3) : (runL x).length ≤ 6 := by
  unfold runL; simp; omega
noncomputable def pieceAt (ts fs : List Int) (j : Nat) : Two := ((piece0 (fs.getD (3 * j) 0) (fs.getD (3 * j + 1) 0) (ts.getD (2 * j) 0)).toArray, (piece1 (ts.getD (2 * j + 1) 0) (fs.getD (3 * j + 2) 0)).toArray)
theorem piece0_eq (f g a : Int) : #[(92 : UInt8), 34] ++ (unit f).toArray ++ (unit g).toArray ++ #[34] ++ (runL a).toArray = (piece0 f g a).toArray := by
  unfold piece0
  generalize unit f = x
  generalize unit g = y
  generalize runL a = z
  simp
theorem piece1_eq (h b : Int) : (runL b).toArray ++ #[(34 : UInt8)] ++ (unit h).toArray ++ #[34] = (piece1 b h).toArray := by
  unfold piece1
  generalize unit h = x
  generalize runL b = z
  simp
theorem split_head {g h : Heap} {L a : Addr} {o : Obj} {rest : LD} (N : News g L h ((a, o) :: rest)) : ∃ o', o' = o ∧ (h.get? a = some o' ∧ a ≠ L ∧ g.get? a = none) ∧ News g L h rest := ⟨o, rfl, N _ (.head _), fun p hp => N p (.tail _ hp)⟩
theorem state_of {α : Type} {M : Model} {A : Around} {t : Sem α} {Q : α → Shared → Prop} {E : Value → Shared → Prop} {S s : Shared} (hz : Heap) (e1 : S.heap = hz) (e2 : S.gens = s.gens) (e3 : S.drawn = s.drawn) (e4 : S.os = s.os)
    (h : ∀ S' : Shared, S'.heap = hz → S'.gens = s.gens → S'.drawn = s.drawn → S'.os = s.os → wpAny M A t Q E S') : wpAny M A t Q E S := h S e1 e2 e3 e4
theorem allLt_mem {d : Addr} : ∀ {l : LD}, AllLt d l → ∀ p ∈ l, @LT.lt Nat _ p.1 d
  | [], _, p, hp => by cases hp
  | q :: r, h, p, hp => by
    rcases List.mem_cons.mp hp with e | hp
    · rw [e]; exact h.1
    · exact allLt_mem (l := r) h.2 p hp
noncomputable def PcsL (P : Addr) (a b : Two) (led : LD) : Prop := ∃ p q t1 t2 t3 t4 k k1 k2, led = [(P, PySem.W.listOf #[.ref p, .ref q] k), (p, PySem.W.listOf #[.bytes a.1 t1, .bytes a.2 t2] k1), (q, PySem.W.listOf #[.bytes b.1 t3, .bytes b.2 t4] k2)]
theorem PcsL.pcs {h : Heap} {P : Addr} {a b : Two} {led : LD} (x : PcsL P a b led) (H : ∀ p ∈ led, h.get? p.1 = some p.2) : Pcs h P a b := by
  obtain ⟨p, q, t1, t2, t3, t4, k, k1, k2, rfl⟩ := x
  exact ⟨p, q, t1, t2, t3, t4, list_is (H _ (.head _)), list_is (H _ (.tail _ (.head _))), list_is (H _ (.tail _ (.tail _ (.head _))))⟩
theorem pcs_of {g h : Heap} {L P : Addr} {ps rest : LD} {k : Nat} {ts fs : List Int} (N : News g L h ((P, PySem.W.listOf (ps.map fun p => Value.ref p.1).toArray k) :: (ps ++ rest))) (hps : ps.length = 2) (hpp : PiecesAre ts fs ps) : ∃ led, PcsL P (pieceAt ts fs 0) (pieceAt ts fs 1) led ∧ ∀ x ∈ led, h.get? x.1 = some x.2 ∧ g.get? x.1 = none := by
  obtain ⟨x, y, rfl⟩ : ∃ x y, ps = [x, y] := by
    obtain ⟨x, r, e⟩ := List.exists_cons_of_length_eq_add_one hps
    have hr : r.length = 1 := by rw [e, List.length_cons] at hps; omega
    obtain ⟨y, r', e'⟩ := List.exists_cons_of_length_eq_add_one hr
    have hr' : r' = [] := List.length_eq_zero_iff.mp (by rw [e', List.length_cons] at hr; omega)
    exact ⟨x, y, by rw [e, e', hr']⟩
  obtain ⟨t1, t2, k1, h1⟩ := hpp 0 x rfl
  obtain ⟨t3, t4, k2, h2⟩ := hpp 1 y rfl
  have z0 := N _ (.head _)
  have z1 := N x (.tail _ (.head _))
  have z2 := N y (.tail _ (.tail _ (.head _)))
  refine ⟨_, ⟨x.1, y.1, t1, t2, t3, t4, k, k1, k2, rfl⟩, ?_⟩
  intro x' hx
  rcases List.mem_cons.mp hx with e | hx
  · rw [e]; exact ⟨z0.1, z0.2.2⟩
  · rcases List.mem_cons.mp hx with e | hx
    · rw [e]; exact ⟨z1.1.trans (congrArg some h1), z1.2.2⟩
    · rw [List.mem_singleton.mp hx]; exact ⟨z2.1.trans (congrArg some h2), z2.2.2⟩
theorem pieces_spec {w : World} {A : Around} {s : Shared} {E : Value → Shared → Prop} (hh : A.handled = none) (hd : A.depth + 1 ≤ 301 + 20 * 2) (hu : A.units + 3 ≤ 100 * 2) (W : Wd w s.heap) (l d : Addr) (vs ds : List Value) (ts fs : List Int) (hl : s.heap.IsList l vs.toArray) (hi : IntsAre vs ts) (hn : ts.length = 4) (hb : ∀ x ∈ ts, -3 ≤ x ∧ x ≤ 3)
    (hd' : s.heap.IsList d ds.toArray) (hj : IntsAre ds fs) (hn' : fs.length = 6) (hb' : ∀ x ∈ fs, 0 ≤ x ∧ x < 8) :
    wpAny (model PR w) A (call (.ref 113) [.ref l, .ref d]) (fun v s' => ∃ P led, v = .ref P ∧ PcsL P (pieceAt ts fs 0) (pieceAt ts fs 1) led ∧ Made s s' led ∧ After s s') E s := by
  obtain ⟨_, _, _, T⟩ := W.t
  have X := W.k
  refine call_fnC (n := 2) (f := 113) (c := 112) (i := 15) (binds := [("steps", .ref l), ("dress", .ref d)]) hh hd hu (by decide) W rfl rfl (BindsTo.of_eq rfl) ?_ (by decide +kernel) rfl rfl rfl (fun h₁ tk cells F N Y => ?_)
  · intro n x hx
    simp only [List.mem_cons, List.not_mem_nil, or_false] at hx
    rcases hx with rfl | rfl <;> exact Or.inl (by rfl)
  obtain ⟨o1, rfl, e1⟩ := Y.one
  clear Y
  replace e1 : o1.data = .cell none := e1
  replace F : Fr s.heap s.heap.objs.size h₁ (fun y => List.lookup y ([("steps", .ref l), ("dress", .ref d)] : NM)) := frUpd2 (x1 := "steps") (x2 := "dress") (m := []) F rfl
  w_on
  refine fill_of ?_; k_fill; intro _
  show wpAny _ _ (execs (_ :: _) _) _ _ _
  with_reducible refine seq (J := fun s' => ∃ o1 U us k, o1.data = .cell (some (.ref U)) ∧ UnitsAre us ∧ At s.heap s.heap.objs.size s [("steps", .ref l), ("dress", .ref d)] [(U, PySem.W.listOf us k), (s.heap.objs.size + 1, o1)] s') ?_ ?_
  · walk_at "go"
    rename_i U h2 _ h3 o2 F2 N2 d2
    exact ⟨rfl, o2, U, _, _, d2, ⟨_, _, _, _, _, _, _, _, rfl⟩, ⟨F2, N2, rfl, rfl, rfl⟩⟩
  clear F N e1
  rintro s1 ⟨o1, U, us, k, e1, hus, I⟩
  show wpAny _ _ (execs (_ :: _) _) _ _ _
  with_reducible refine seq (J := fun s' => ∃ P k', (∀ p ∈ ([(U, PySem.W.listOf us k), (s.heap.objs.size + 1, o1)] : LD), p.1 ≠ P) ∧ At s.heap s.heap.objs.size s [("steps", .ref l), ("dress", .ref d), ("pieces", .ref P)] [(P, PySem.W.listOf #[] k'), (U, PySem.W.listOf us k), (s.heap.objs.size + 1, o1)] s') ?_ ?_
  · have F := I.F
    have N := I.N
    walk_at "go"
    rename_i P' h2 hlt h3 F3 N3
    refine ⟨rfl, P', _, ?_, frUpd F3 rfl, N3, I.g, I.d, I.o⟩
    intro p hp
    simp only [List.mem_cons, List.not_mem_nil, or_false] at hp
    rcases hp with rfl | rfl
    · exact Nat.ne_of_lt hlt.1
    · exact Nat.ne_of_lt hlt.2
  clear I
  rintro s2 ⟨P, k', hUP, I⟩
  with_reducible refine seq (J := fun s' => ∃ ps k' post, ps.length = 2 ∧ PiecesAre ts fs ps ∧ At s.heap s.heap.objs.size s (([("steps", .ref l), ("dress", .ref d), ("pieces", .ref P)] : NM) ++ post) ((P, PySem.W.listOf (ps.map fun p => Value.ref p.1).toArray k') :: (ps ++ [(U, PySem.W.listOf us k), (s.heap.objs.size + 1, o1)])) s') ?_ ?_
  · refine for_grow (s₀ := s) (g := s.heap) (n := 2) (P := fun i v => ∃ t, v = .int (i : Int) t) (fun i e led => ∃ ps k', ps.length = i ∧ PiecesAre ts fs ps ∧ (∀ p ∈ ps ++ [(U, PySem.W.listOf us k), (s.heap.objs.size + 1, o1)], p.1 ≠ P) ∧ e = ([("steps", .ref l), ("dress", .ref d), ("pieces", .ref P)] : NM) ∧ led = (P, PySem.W.listOf (ps.map fun p => Value.ref p.1).toArray k') :: (ps ++ [(U, PySem.W.listOf us k), (s.heap.objs.size + 1, o1)]))
      _ [] _ rfl rfl (by rintro i e led ⟨ps, k', _, _, _, rfl, rfl⟩; rfl) ⟨[], k', rfl, (fun j p hj => by simp at hj), hUP, rfl, rfl⟩ ?_ ?_ ?_
    · have F := I.F
      have N := I.N
      walk_at "go"
      refine itRangeGr rfl ⟨by assumption, by assumption, I.g, I.d, I.o⟩ (by assumption) (by omega)
    · clear I
      rintro i v e led own post s3 hi' ⟨tv, rfl⟩ ⟨ps, k', hps, hpp, hpP, rfl, rfl⟩ hown I
      show wpAny _ _ (execs (_ :: _) _) _ _ _
      have mU : (U, PySem.W.listOf us k) ∈ (P, PySem.W.listOf (ps.map fun p => Value.ref p.1).toArray k') :: (ps ++ [(U, PySem.W.listOf us k), (s.heap.objs.size + 1, o1)]) ++ own := by simp
      have mc : (s.heap.objs.size + 1, o1) ∈ (P, PySem.W.listOf (ps.map fun p => Value.ref p.1).toArray k') :: (ps ++ [(U, PySem.W.listOf us k), (s.heap.objs.size + 1, o1)]) ++ own := by simp
      generalize hled : (P, PySem.W.listOf (ps.map fun p => Value.ref p.1).toArray k') :: (ps ++ [(U, PySem.W.listOf us k), (s.heap.objs.size + 1, o1)]) ++ own = led at *
      with_reducible refine seq (J := fun s' => ∃ R rs k' post, BytesAre rs [runL (ts.getD (2 * i) 0), runL (ts.getD (2 * i + 1) 0)] ∧ At s.heap s.heap.objs.size s ((([("k", .int (i : Int) tv), ("steps", .ref l), ("dress", .ref d), ("pieces", .ref P)] : NM) ++ (("runs", .ref R) :: post : NM))) ((R, PySem.W.listOf rs.toArray k') :: led) s') ?_ ?_
      · with_reducible refine assign_comp (s₀ := s) (g := s.heap) (n := 2) (cl := []) (fun j ys own => BytesAre ys ([runL (ts.getD (2 * i) 0), runL (ts.getD (2 * i + 1) 0)].take j) ∧ own = []) (("k", .int (i : Int) tv) :: (([("steps", .ref l), ("dress", .ref d), ("pieces", .ref P)] : NM) ++ post)) led ?_ ?_ ?_ ?_ ?_ ?_ ?_ ?_ ?_ ?_ ?_ ?_ ?_
        · exact ⟨.nil, rfl⟩
        · rintro j ys own ⟨h, -⟩; have := h.length; simp at this; omega
        · decide
        · rfl
        · rfl
        · decide +kernel
        · rfl
        · decide +kernel
        · rfl
        · rfl
        · have F := I.F
          have N := I.N
          walk_at "go"
          rename_i D1 ws h1 F1 N1 _ hI _ _
          rw [slice2 hn hi'] at hI
          obtain ⟨u1, u2, rfl⟩ := ints2 hI
          refine hit_of (s₀ := s) (fun r v => (#[.int (ts.getD (2 * i) 0) u1, .int (ts.getD (2 * i + 1) 0) u2] : Array Value)[r]? = some v) ⟨F1, N1, I.g, I.d, I.o⟩ (fun p hp => List.mem_cons_of_mem _ hp) ?_
          clear F1 N1
          intro s₁ I1
          have N1 := I1.N
          refine ⟨itcList (A := AA 2) (l := D1) (items := #[.int (ts.getD (2 * i) 0) u1, .int (ts.getD (2 * i + 1) 0) u2]) rfl (list_is (N1 _ (.head _)).1), ?_⟩
          intro s₂ haf C j v ys own' hid post' s₃ hj' hP hJ hC IC
          obtain ⟨x, u, rfl, hx, hxb⟩ : ∃ (x : Int) (u : Tok), v = .int x u ∧ [ts.getD (2 * i) 0, ts.getD (2 * i + 1) 0][j]? = some x ∧ -3 ≤ x ∧ x ≤ 3 := by
            obtain rfl | rfl : j = 0 ∨ j = 1 := by omega
            · exact ⟨_, u1, (Option.some.inj hP).symm, rfl, hb _ (getD_in (by omega))⟩
            · exact ⟨_, u2, (Option.some.inj hP).symm, rfl, hb _ (getD_in (by omega))⟩
          obtain ⟨hJ, rfl⟩ := hJ
          have F := IC.F
          have N := IC.N
          iterate 20 (try walk_at "comp1")
          rename Fr _ _ _ _ => F9
          rename News _ _ _ _ => N9
          refine KBy.add_bytes (by simp; omega) (fun t' k' => ?_)
          refine ⟨[], _, ⟨?_, rfl⟩, (fun p hp => by cases hp), ⟨frUpd F9 rfl, N9, IC.g, IC.d, IC.o⟩⟩
          rw [List.take_add_one, take_map runL hx]
          refine hJ.append ?_
          have e : runL x = ((List.replicate x.toNat [(40 : UInt8)]).flatten.toArray ++ (List.replicate (-x).toNat [41]).flatten.toArray).toList := by
            simp [runL, List.flatten_replicate_singleton]
          rw [e]
          exact .cons _ _ .nil
        · rintro R k'' rs own' s' ⟨h, rfl⟩ - I'
          exact ⟨rfl, R, rs, k'', post, h, I'.names (updTail (m := [("k", .int (i : Int) tv), ("steps", .ref l), ("dress", .ref d), ("pieces", .ref P)]) rfl)⟩
        · intro x; rfl
      clear I
      rintro s4 ⟨R, rs, kR, post, hrs, I⟩
      show wpAny _ _ (execs (_ :: _) _) _ _ _
      with_reducible refine seq (J := fun s' => ∃ D ds' k' post, BytesAre ds' [unit (fs.getD (3 * i) 0), unit (fs.getD (3 * i + 1) 0), unit (fs.getD (3 * i + 2) 0)] ∧ At s.heap s.heap.objs.size s ((([("k", .int (i : Int) tv), ("steps", .ref l), ("dress", .ref d), ("pieces", .ref P)] : NM) ++ (("words", .ref D) :: ("runs", .ref R) :: post : NM))) ((D, PySem.W.listOf ds'.toArray k') :: (R, PySem.W.listOf rs.toArray kR) :: led) s') ?_ ?_
      · with_reducible refine assign_comp (s₀ := s) (g := s.heap) (n := 3) (cl := [("units", s.heap.objs.size + 1)]) (fun j ys own => BytesAre ys ([unit (fs.getD (3 * i) 0), unit (fs.getD (3 * i + 1) 0), unit (fs.getD (3 * i + 2) 0)].take j) ∧ own = []) (([("k", .int (i : Int) tv), ("steps", .ref l), ("dress", .ref d), ("pieces", .ref P)] : NM) ++ (("runs", .ref R) :: post : NM)) ((R, PySem.W.listOf rs.toArray kR) :: led) ?_ ?_ ?_ ?_ ?_ ?_ ?_ ?_ ?_ ?_ ?_ ?_ ?_
        · exact ⟨.nil, rfl⟩
        · rintro j ys own ⟨h, -⟩; have := h.length; simp at this; omega
        · decide
        · rfl
        · rfl
        · decide +kernel
        · rfl
        · decide +kernel
        · rfl
        · rfl
        · have F := I.F
          have N := I.N
          walk_at "go"
          rename_i D1 ws h1 F1 N1 hI _ _ _
          rw [slice3 hn' hi'] at hI
          obtain ⟨u1, u2, u3, rfl⟩ := ints3 hI
          refine hit_of (s₀ := s) (fun r v => (#[.int (fs.getD (3 * i) 0) u1, .int (fs.getD (3 * i + 1) 0) u2, .int (fs.getD (3 * i + 2) 0) u3] : Array Value)[r]? = some v) ⟨F1, N1, I.g, I.d, I.o⟩ (fun p hp => List.mem_cons_of_mem _ hp) ?_
          clear F1 N1
          intro s₁ I1
          have N1 := I1.N
          refine ⟨itcList (A := AA 2) (l := D1) (items := #[.int (fs.getD (3 * i) 0) u1, .int (fs.getD (3 * i + 1) 0) u2, .int (fs.getD (3 * i + 2) 0) u3]) rfl (list_is (N1 _ (.head _)).1), ?_⟩
          have cU : Heap.IsCell s₁.heap (s.heap.objs.size + 1) (some (.ref U)) := ⟨o1, (N1 (s.heap.objs.size + 1, o1) (.tail _ (.tail _ mc))).1, e1⟩
          have hU := (N1 (U, PySem.W.listOf us k) (.tail _ (.tail _ mU))).1
          clear N1
          intro s₂ haf C j v ys own' hid post' s₃ hj' hP hJ hC IC
          obtain ⟨x, u, rfl, hx, hx0, hx8⟩ : ∃ (x : Int) (u : Tok), v = .int x u ∧ [fs.getD (3 * i) 0, fs.getD (3 * i + 1) 0, fs.getD (3 * i + 2) 0][j]? = some x ∧ 0 ≤ x ∧ x < 8 := by
            obtain rfl | rfl | rfl : j = 0 ∨ j = 1 ∨ j = 2 := by omega
            · exact ⟨_, u1, (Option.some.inj hP).symm, rfl, hb' _ (getD_in (by omega))⟩
            · exact ⟨_, u2, (Option.some.inj hP).symm, rfl, hb' _ (getD_in (by omega))⟩
            · exact ⟨_, u3, (Option.some.inj hP).symm, rfl, hb' _ (getD_in (by omega))⟩
          obtain ⟨hJ, rfl⟩ := hJ
          obtain ⟨tu, hux⟩ := unit_at hus hx0 hx8
          have F := IC.F
          have N := IC.N
          iterate 12 (try walk_at "comp1")
          refine cell_comp (by assumption) (by rfl) cU ?_
          iterate 6 (try walk_at "comp1")
          rename Fr _ _ _ _ => F9
          rename News _ _ _ _ => N9
          refine sub_list (list_is (F9.keep _ _ hU)) (by omega) (by omega) hux ?_
          refine ⟨[], _, ⟨?_, rfl⟩, (fun p hp => by cases hp), ⟨frUpd F9 rfl, N9, IC.g, IC.d, IC.o⟩⟩
          rw [List.take_add_one, take_map3 unit hx]
          refine hJ.append ?_
          exact .cons (unit x).toArray _ .nil
        · rintro D k'' ds' own' s' ⟨h, rfl⟩ - I'
          exact ⟨rfl, D, ds', k'', post, h, I'.names (updTail (m := [("k", .int (i : Int) tv), ("steps", .ref l), ("dress", .ref d), ("pieces", .ref P)]) (post := ("runs", .ref R) :: post) rfl)⟩
        · intro x; rfl
      clear I
      rintro s5 ⟨D, ds', kD, post, hds, I⟩
      have hw1 := unit_len (fs.getD (3 * i) 0)
      have hw2 := unit_len (fs.getD (3 * i + 1) 0)
      have hw3 := unit_len (fs.getD (3 * i + 2) 0)
      obtain ⟨a1, a2, a3, rfl⟩ := bytes3 hds
      obtain ⟨a4, a5, rfl⟩ := bytes2 hrs
      have hr1 : (runL (ts.getD (2 * i) 0)).length ≤ 6 := runL_len (hb _ (getD_in (by omega)))
      have hr2 : (runL (ts.getD (2 * i + 1) 0)).length ≤ 6 := runL_len (hb _ (getD_in (by omega)))
      clear hds hrs
      subst hled
      replace I := I.sub (led' := (P, PySem.W.listOf (ps.map fun p => Value.ref p.1).toArray k') :: (D, PySem.W.listOf #[.bytes (unit (fs.getD (3 * i) 0)).toArray a1, .bytes (unit (fs.getD (3 * i + 1) 0)).toArray a2, .bytes (unit (fs.getD (3 * i + 2) 0)).toArray a3] kD) :: (R, PySem.W.listOf #[.bytes (runL (ts.getD (2 * i) 0)).toArray a4, .bytes (runL (ts.getD (2 * i + 1) 0)).toArray a5] kR) :: (ps ++ [(U, PySem.W.listOf us k), (s.heap.objs.size + 1, o1)] ++ own)) (fun p hp => by simp only [List.mem_cons, List.mem_append, List.not_mem_nil, or_false] at hp ⊢; rcases hp with h | h | h | (h | h | h) | h <;> simp [h])
      have F := I.F
      have N := I.N
      walk_at "go"
      rename_i _ _ _ _ _ _ t3 _ _ _ _ _ t0 _ Z hz F9 N9 hlt
      refine state_of (s := s5) hz rfl rfl rfl rfl ?_
      intro S eS eg ed eo
      subst eS
      rw [piece0_eq, piece1_eq] at N9
      obtain ⟨oz, hoz, N9z, N9a⟩ := split_head N9
      obtain ⟨oP, hoP, NP, N9b⟩ := split_head N9a
      obtain ⟨_, _, _, N9c⟩ := split_head N9b
      obtain ⟨_, _, _, NR⟩ := split_head N9c
      clear N9 N9a N9b N9c
      subst hoP
      obtain ⟨lP, lD, lR, lO⟩ := hlt
      have lO' := allLt_mem lO
      clear lO lD lR
      refine append_mine (its := (ps.map fun p => Value.ref p.1).toArray) (n := k') (rest := (ps ++ [(Z, oz)]) ++ [(U, PySem.W.listOf us k), (s.heap.objs.size + 1, o1)] ++ own) F9 (fun p hp => ?_) ?_ (size_ok (n := ps.length) (by simp) (by omega)) ?_
      · simp only [List.mem_cons, List.mem_append, List.not_mem_nil, or_false] at hp
        rcases hp with h | ((h | h) | h | h) | h
        · rw [h]; exact NP
        · exact NR p (List.mem_append_left _ (List.mem_append_left _ h))
        · rw [h]; exact N9z
        · exact NR p (by rw [h]; simp)
        · exact NR p (by rw [h]; simp)
        · exact NR p (List.mem_append_right _ h)
      · intro p hp
        simp only [List.mem_append, List.mem_singleton] at hp
        rcases hp with ((h | h) | h) | h
        · exact hpP p (List.mem_append_left _ h)
        · rw [h]; exact Nat.ne_of_gt lP
        · exact hpP p (List.mem_append_right _ h)
        · exact (hown (P, PySem.W.listOf (ps.map fun p => Value.ref p.1).toArray k') (.head _) p h).symm
      intro h' F' N'
      walk_at "go"
      rw [push_list] at N'
      refine ⟨rfl, .int (i : Int) tv, _, _, ("words", .ref D) :: ("runs", .ref R) :: post, ⟨ps ++ [(Z, oz)], k' + 1, by simp [hps], ?_, ?_, rfl, rfl⟩, ?_, ⟨F', ?_, eg.trans I.g, ed.trans I.d, eo.trans I.o⟩⟩
      · intro j p hj'
        rcases Nat.lt_or_ge j ps.length with h | h
        · rw [List.getElem?_append_left h] at hj'
          exact hpp j p hj'
        · rw [List.getElem?_append_right h, List.getElem?_singleton] at hj'
          by_cases hz : j - ps.length = 0
          · rw [if_pos hz] at hj'
            have : j = i := by omega
            subst this
            rw [← Option.some.inj hj']
            exact ⟨t3, t0, 0, hoz⟩
          · rw [if_neg hz] at hj'; cases hj'
      · intro p hp
        simp only [List.mem_append, List.mem_singleton] at hp
        rcases hp with (h | h) | h
        · exact hpP p (List.mem_append_left _ h)
        · rw [h]; exact Nat.ne_of_gt lP
        · exact hpP p (List.mem_append_right _ h)
      · intro p hp q hq
        simp only [List.mem_cons, List.mem_append, List.not_mem_nil, or_false] at hp
        rcases hp with h | (h | h) | h | h
        · rw [h]; exact hown (P, _) (.head _) q hq
        · exact hown p (.tail _ (List.mem_append_left _ h)) q hq
        · rw [h]; exact Nat.ne_of_gt (lO' q (List.mem_append_right _ hq))
        · exact hown p (.tail _ (List.mem_append_right _ (by rw [h]; exact .head _))) q hq
        · exact hown p (.tail _ (List.mem_append_right _ (by rw [h]; exact .tail _ (.head _)))) q hq
      · rw [List.map_append]
        exact N'
    · rintro e led post' s' ⟨ps, k', hps, hpp, -, rfl, rfl⟩ I'
      exact ⟨rfl, ps, k', post', hps, hpp, I'⟩
  rintro s3 ⟨ps, k', post, hps, hpp, I⟩
  have F := I.F
  have N := I.N
  walk_at "go"
  obtain ⟨led, h1, h2⟩ := pcs_of N hps hpp
  exact ⟨P, led, rfl, h1, h2, ⟨F.keep, I.g, I.d, I.o⟩⟩
end Mine
end
section
open PySem PySem.W PyProof.Rows
set_option maxRecDepth 100000
set_option maxHeartbeats 2000000
namespace Mine
noncomputable abbrev ST (i : Nat) : Stmt := (bodyAt 21)[i]?.getD (.Pass default)
noncomputable def stepsF (c : Int) : List Int := (digs (c.fmod (7 ^ 4)) 7 4).map fun f => f - 3
noncomputable def dressF (c : Int) : List Int := digs (c.fmod (8 ^ 6)) 8 6
theorem law_a1 {w : World} {s s1 : Shared} {l : Addr} {items : Array Value} {ns : List Int} {o1 : Obj} (W : Wd w s.heap) (hl : s.heap.IsList l items) (hi : IntsAre items.toList ns) (hn : items.size ≤ 1000)
    (I : At s.heap s.heap.objs.size s [("script", .ref l)] [(s.heap.objs.size + 1, o1)] s1) :
    wpAny (model PR w) (AA 1) (exec (ST 0) (envOfC "law" (scAt 21) s.heap.objs.size 151 (.ref 150))) (fun fl s' => Done (fl = .next ∧ ∃ r c0 c1 c2 c3 t0 t1 t2 t3 k, At s.heap s.heap.objs.size s [("script", .ref l), ("cells", .ref r)] [(r, PySem.W.listOf #[.int c0 t0, .int c1 t1, .int c2 t2, .int c3 t3] k), (s.heap.objs.size + 1, o1)] s')) Bot s1 := by
  obtain ⟨_, _, _, T⟩ := W.t
  have X := W.k
  w_on
  refine fill_of ?_; k_fill; intro _
  show wpAny _ _ (exec (.Assign [.Name _ _] _ _) _) _ _ _
  have F := I.F
  have N := I.N
  walk_at "go"
  refine bot (wpAny_mono (cells_spec (A := AA 1) rfl (by decide) (by decide) (W.keeps F.keep) l items ns (hl.at (fun o e => F.keep _ o e)) hi hn) (fun v s' hv => ?_) fun _ _ x => x)
  obtain ⟨r, o, rfl, ha, hf, hg, c0, c1, c2, c3, t0, t1, t2, t3, k, rfl⟩ := hv
  have I' := I.made ha (led' := [(r, _)]) (by intro x hx; rw [List.mem_singleton.mp hx]; exact ⟨hg, hf⟩)
  clear F N I
  have F := I'.F
  have N := I'.N
  walk_at "go"
  exact ⟨rfl, r, c0, c1, c2, c3, t0, t1, t2, t3, k, frUpd ‹Fr _ _ _ (fun y => if y = _ then _ else _)› rfl, by assumption, I'.g, I'.d, I'.o⟩
theorem digs4 (N : Int) : digs N 7 4 = [(numAt N 7 0).fmod 7, (numAt N 7 1).fmod 7, (numAt N 7 2).fmod 7, (numAt N 7 3).fmod 7] := rfl
theorem ints4 {vs : List Value} {x y z u : Int} (h : IntsAre vs [x, y, z, u]) : ∃ t1 t2 t3 t4, vs = [.int x t1, .int y t2, .int z t3, .int u t4] := by
  cases h with
  | cons _ t h =>
    obtain ⟨t2, t3, t4, rfl⟩ := ints3 h
    exact ⟨t, t2, t3, t4, rfl⟩
theorem law_a2 {w : World} {s s1 : Shared} {l r : Addr} {o1 : Obj} {c0 c1 c2 c3 : Int} {t0 t1 t2 t3 : Tok} {k : Nat} (W : Wd w s.heap)
    (I : At s.heap s.heap.objs.size s [("script", .ref l), ("cells", .ref r)] [(r, PySem.W.listOf #[.int c0 t0, .int c1 t1, .int c2 t2, .int c3 t3] k), (s.heap.objs.size + 1, o1)] s1) :
    wpAny (model PR w) (AA 1) (exec (ST 1) (envOfC "law" (scAt 21) s.heap.objs.size 151 (.ref 150))) (fun fl s' => Done (fl = .next ∧ ∃ S vs k', IntsAre vs (stepsF c0) ∧ At s.heap s.heap.objs.size s [("script", .ref l), ("cells", .ref r), ("steps", .ref S)] [(S, PySem.W.listOf vs.toArray k'), (r, PySem.W.listOf #[.int c0 t0, .int c1 t1, .int c2 t2, .int c3 t3] k), (s.heap.objs.size + 1, o1)] s')) Bot s1 := by
  obtain ⟨_, _, _, T⟩ := W.t
  have X := W.k
  w_on
  refine fill_of ?_; k_fill; intro _
  show wpAny _ _ (exec (.Assign [.Name _ _] _ _) _) _ _ _
  with_reducible refine assign_comp (s₀ := s) (g := s.heap) (n := 4) (cl := []) (fun j ys own => IntsAre ys ((stepsF c0).take j) ∧ own = []) [("script", .ref l), ("cells", .ref r)] [(r, PySem.W.listOf #[.int c0 t0, .int c1 t1, .int c2 t2, .int c3 t3] k), (s.heap.objs.size + 1, o1)] ?_ ?_ ?_ ?_ ?_ ?_ ?_ ?_ ?_ ?_ ?_ ?_ ?_
  · exact ⟨.nil, rfl⟩
  · rintro j ys own ⟨h, -⟩; have := h.length; simp at this; omega
  · decide
  · rfl
  · rfl
  · decide +kernel
  · rfl
  · decide +kernel
  · rfl
  · rfl
  · have F := I.F
    have N := I.N
    walk_at "go"
    refine bot (wpAny_mono (figs_spec (A := AA 1) (s := { s1 with toks := s1.toks + 1 + 1 + 1 }) rfl (by decide) (by decide) (W.keeps F.keep) c0 7 4 _ _ _ (.inl ⟨rfl, rfl⟩)) (fun v s' hv => ?_) fun _ _ x => x)
    obtain ⟨q, vs, kq, rfl, ha, hf, hg, hvs⟩ := hv
    have I' := At.made (s := { s1 with toks := s1.toks + 1 + 1 + 1 }) ⟨I.F, I.N, I.g, I.d, I.o⟩ ha (led' := [(q, _)]) (by intro x hx; rw [List.mem_singleton.mp hx]; exact ⟨hg, hf⟩)
    clear F N I
    generalize hN : c0.fmod (7 ^ 4) = N0 at hvs
    rw [digs4] at hvs
    obtain ⟨u0, u1, u2, u3, rfl⟩ := ints4 hvs
    refine hit_of (s₀ := s) (fun r v => (#[.int ((numAt N0 7 0).fmod 7) u0, .int ((numAt N0 7 1).fmod 7) u1, .int ((numAt N0 7 2).fmod 7) u2, .int ((numAt N0 7 3).fmod 7) u3] : Array Value)[r]? = some v) I' (fun p hp => List.mem_cons_of_mem _ hp) ?_
    intro s₁ I1
    have N1 := I1.N
    refine ⟨itcList (A := AA 1) (l := q) (items := #[.int ((numAt N0 7 0).fmod 7) u0, .int ((numAt N0 7 1).fmod 7) u1, .int ((numAt N0 7 2).fmod 7) u2, .int ((numAt N0 7 3).fmod 7) u3]) rfl (list_is (N1 _ (.head _)).1), ?_⟩
    clear N1
    intro s₂ haf C j v ys own' hid post' s₃ hj' hP hJ hC IC
    obtain ⟨x, u, rfl, hx⟩ : ∃ (x : Int) (u : Tok), v = .int x u ∧ (digs N0 7 4)[j]? = some x := by
      rw [digs4]
      obtain rfl | rfl | rfl | rfl : j = 0 ∨ j = 1 ∨ j = 2 ∨ j = 3 := by omega
      · exact ⟨_, u0, (Option.some.inj hP).symm, rfl⟩
      · exact ⟨_, u1, (Option.some.inj hP).symm, rfl⟩
      · exact ⟨_, u2, (Option.some.inj hP).symm, rfl⟩
      · exact ⟨_, u3, (Option.some.inj hP).symm, rfl⟩
    obtain ⟨hJ, rfl⟩ := hJ
    have F := IC.F
    have N := IC.N
    iterate 12 (try walk_at "comp1")
    rename Fr _ _ _ _ => F9
    rename News _ _ _ _ => N9
    refine ⟨[], _, ⟨?_, rfl⟩, (fun p hp => by cases hp), ⟨frUpd F9 rfl, N9, IC.g, IC.d, IC.o⟩⟩
    have e : (stepsF c0)[j]? = some (x - 3) := by
      unfold stepsF
      rw [hN, List.getElem?_map, hx]; rfl
    rw [List.take_add_one, e]
    exact hJ.append (.cons _ _ .nil)
  · rintro R k'' rs own' s' ⟨h, rfl⟩ - I'
    exact ⟨rfl, R, rs, k'', h, I'⟩
  · intro x; rfl
end Mine
end
section
open PySem PySem.W PyProof.Rows
set_option maxRecDepth 100000
set_option maxHeartbeats 2000000
namespace Mine
theorem At.storeCell {M : Model} {A : Around} {E : Value → Shared → Prop} {g : Heap} {L c : Addr} {s₀ s : Shared} {m : NM} {led : LD} {o : Obj} {v₀ : Option Value} {env : Env} {x : Str} {v : Value} {Q : Unit → Shared → Prop} (I : At g L s₀ m ((c, o) :: led) s) (hd : o.data = .cell v₀) (hl : ∀ p ∈ led, ∃ its k, p.2 = PySem.W.listOf its k)
    (hk : env.scope.kind = .function) (hx : env.kindOf x = some .cell) (hc : env.cells.lookup x = some c)
    (h : ∀ h' o', o'.data = .cell (some v) → At g L s₀ m ((c, o') :: led) { s with heap := h' } → Q () { s with heap := h' }) : wpAny M A (storeName env x v) Q E s := by
  have hmem := I.N _ (.head _)
  refine wpAny_storeName_cell hk hx hc ⟨o, hmem.1, hd⟩ fun h' hv hs => ?_
  obtain ⟨o', ho', hd'⟩ := hv
  refine h h' o' hd' ⟨⟨I.F.ns.sameBut hs (Ne.symm hmem.2.1), fun b ob e => (hs.2 b (fun q => ?_)).trans (I.F.keep b ob e), I.F.above⟩, fun p hp => ?_, I.g, I.d, I.o⟩
  · rw [q, hmem.2.2] at e; cases e
  · rcases List.mem_cons.mp hp with rfl | hp
    · exact ⟨ho', hmem.2⟩
    · have z := I.N p (List.mem_cons_of_mem _ hp)
      obtain ⟨its, k, e⟩ := hl p hp
      refine ⟨(hs.2 p.1 ?_).trans z.1, z.2⟩
      have z1 := z.1
      rw [e] at z1
      exact (cell_ne z1 hmem.1 hd).symm
theorem digs6 (N : Int) : digs N 8 6 = [(numAt N 8 0).fmod 8, (numAt N 8 1).fmod 8, (numAt N 8 2).fmod 8, (numAt N 8 3).fmod 8, (numAt N 8 4).fmod 8, (numAt N 8 5).fmod 8] := rfl
theorem steps_len (c : Int) : (stepsF c).length = 4 := by simp [stepsF, digs]
theorem dress_len (c : Int) : (dressF c).length = 6 := by simp [dressF, digs]
theorem digs_lt {N b : Int} {k : Nat} (hb : 0 < b) : ∀ x ∈ digs N b k, 0 ≤ x ∧ x < b := by
  intro x hx
  obtain ⟨j, _, rfl⟩ := List.mem_map.mp hx
  exact ⟨Int.fmod_nonneg_of_pos _ hb, Int.fmod_lt_of_pos _ hb⟩
theorem steps_lt (c : Int) : ∀ x ∈ stepsF c, -3 ≤ x ∧ x ≤ 3 := by
  intro x hx
  obtain ⟨y, hy, rfl⟩ := List.mem_map.mp hx
  have := digs_lt (by decide) y hy
  omega
theorem dress_lt (c : Int) : ∀ x ∈ dressF c, 0 ≤ x ∧ x < 8 := digs_lt (by decide)
theorem PcsL.lists {P : Addr} {a b : Two} {lp : LD} (x : PcsL P a b lp) : ∀ p ∈ lp, ∃ its k, p.2 = PySem.W.listOf its k := by
  obtain ⟨p, q, t1, t2, t3, t4, k, k1, k2, rfl⟩ := x
  intro z hz
  rcases List.mem_cons.mp hz with e | hz
  · rw [e]; exact ⟨_, _, rfl⟩
  · rcases List.mem_cons.mp hz with e | hz
    · rw [e]; exact ⟨_, _, rfl⟩
    · rw [List.mem_singleton.mp hz]; exact ⟨_, _, rfl⟩
theorem law_a3 {w : World} {s s1 : Shared} {l r S : Addr} {o1 : Obj} {vs : List Value} {c0 c1 c2 c3 : Int} {t0 t1 t2 t3 : Tok} {k k' : Nat} (W : Wd w s.heap) (e1 : o1.data = .cell none) (hvs : IntsAre vs (stepsF c0))
    (I : At s.heap s.heap.objs.size s [("script", .ref l), ("cells", .ref r), ("steps", .ref S)] [(S, PySem.W.listOf vs.toArray k'), (r, PySem.W.listOf #[.int c0 t0, .int c1 t1, .int c2 t2, .int c3 t3] k), (s.heap.objs.size + 1, o1)] s1) :
    wpAny (model PR w) (AA 1) (exec (ST 2) (envOfC "law" (scAt 21) s.heap.objs.size 151 (.ref 150))) (fun fl s' => Done (fl = .next ∧ ∃ P lp o', o'.data = .cell (some (.ref P)) ∧ PcsL P (pieceAt (stepsF c0) (dressF c1) 0) (pieceAt (stepsF c0) (dressF c1) 1) lp ∧ At s.heap s.heap.objs.size s [("script", .ref l), ("cells", .ref r), ("steps", .ref S)] ((s.heap.objs.size + 1, o') :: (lp ++ [(S, PySem.W.listOf vs.toArray k'), (r, PySem.W.listOf #[.int c0 t0, .int c1 t1, .int c2 t2, .int c3 t3] k)])) s')) Bot s1 := by
  obtain ⟨_, _, _, T⟩ := W.t
  have X := W.k
  w_on
  refine fill_of ?_; k_fill; intro _
  show wpAny _ _ (exec (.Assign [.Name _ _] _ _) _) _ _ _
  have F := I.F
  have N := I.N
  walk_at "go"
  refine bot (wpAny_mono (figs_spec (A := AA 1) (s := { s1 with toks := s1.toks + 1 + 1 + 1 }) rfl (by decide) (by decide) (W.keeps F.keep) c1 8 6 _ _ _ (.inr ⟨rfl, rfl⟩)) (fun v s' hv => ?_) fun _ _ x => x)
  obtain ⟨q, ds, kq, rfl, ha, hf, hg, hds⟩ := hv
  have I' := At.made (s := { s1 with toks := s1.toks + 1 + 1 + 1 }) ⟨I.F, I.N, I.g, I.d, I.o⟩ ha (led' := [(q, _)]) (by intro x hx; rw [List.mem_singleton.mp hx]; exact ⟨hg, hf⟩)
  clear F N I
  have F := I'.F
  have N := I'.N
  have hS := list_is (N _ (.tail _ (.head _))).1
  have hq := list_is (N _ (.head _)).1
  walk_at "go"
  refine bot (wpAny_mono (pieces_spec (A := AA 1) rfl (by decide) (by decide) (W.keeps F.keep) S q vs ds (stepsF c0) (dressF c1) hS hvs (steps_len _) (steps_lt _) hq hds (dress_len _) (dress_lt _)) (fun v s2 hv => ?_) fun _ _ x => x)
  obtain ⟨P, lp, rfl, hlp, hm, ha2⟩ := hv
  have I2 := I'.made ha2 hm
  clear F N I'
  have I3 := I2.sub (led' := (s.heap.objs.size + 1, o1) :: (lp ++ [(S, PySem.W.listOf vs.toArray k'), (r, PySem.W.listOf #[.int c0 t0, .int c1 t1, .int c2 t2, .int c3 t3] k)])) (fun p hp => by
    simp only [List.mem_cons, List.mem_append, List.not_mem_nil, or_false] at hp ⊢
    rcases hp with h | h | h | h <;> simp [h])
  have hli : ∀ p ∈ lp ++ [(S, PySem.W.listOf vs.toArray k'), (r, PySem.W.listOf #[.int c0 t0, .int c1 t1, .int c2 t2, .int c3 t3] k)], ∃ its k, p.2 = PySem.W.listOf its k := by
    intro p hp
    rcases List.mem_append.mp hp with hp | hp
    · exact hlp.lists p hp
    · rcases List.mem_cons.mp hp with e | hp
      · rw [e]; exact ⟨_, _, rfl⟩
      · rw [List.mem_singleton.mp hp]; exact ⟨_, _, rfl⟩
  refine I3.storeCell e1 hli rfl rfl rfl (fun h' o' hd' I4 => ?_)
  exact ⟨rfl, P, lp, o', hd', hlp, I4⟩
end Mine
end
section
open PySem PySem.W PyProof.Rows PySem.Calls
set_option maxRecDepth 100000
set_option maxHeartbeats 2000000
namespace Mine
theorem global_comp {w : World} {A : Around} {E : Value → Shared → Prop} {s : Shared} {g h₀ : Heap} {C : Addr} {K : Frag} {m mg mb : Str → Option Value} {p : Program} {loose : List Str} {scope : Scope} {cl : List (Str × Addr)} {env : Env} {x : Str} {pos : Pos} {v : Value} {Q : Value → Shared → Prop}
    (F : Fr g C s.heap m) (keep : ∀ b o, h₀.get? b = some o → g.get? b = some o) (X : K.In h₀) (T : TopRead p loose mg mb h₀) (e : nsIn K mainGlobals x = some (some v)) (h : Q v s)
    (hg : env.globals = mainGlobals := by rfl) (hk : (compEnvC scope cl C env).scope.kind = .function := by rfl) (hx : (compEnvC scope cl C env).kindOf x = some .globalImplicit := by rfl) (hd : (x == ("__debug__" : Str)) = false := by decide) :
    wpAny (model PR w) A (eval (.Name x pos) (compEnvC scope cl C env)) Q E s :=
  Name_function_global hk hx (loadGlobal_global (env := compEnvC scope cl C env) (by show s.heap.Ns env.globals mg; rw [hg]; exact T.g.keeps fun b o q => F.keep _ _ (keep _ _ q)) (mg_of X T.g e) h) hd
noncomputable def tell2 (a b : Two) (i : Nat) : Int × Int := if i = 0 then (pd a.1, pd a.2) else (pd b.1, pd b.2)
noncomputable def ToldAre (a b : Two) (ds : LD) : Prop := ∀ i d, ds[i]? = some d → ∃ t u k, d.2 = PySem.W.listOf #[.int (tell2 a b i).1 t, .int (tell2 a b i).2 u] k
theorem law_a4 {w : World} {s s1 : Shared} {l r S P : Addr} {o1 : Obj} {lp led : LD} {a b : Two} (W : Wd w s.heap) (e1 : o1.data = .cell (some (.ref P))) (hlp : PcsL P a b lp) (ha : a.1.size ≤ 1000 ∧ a.2.size ≤ 1000) (hb : b.1.size ≤ 1000 ∧ b.2.size ≤ 1000)
    (I : At s.heap s.heap.objs.size s [("script", .ref l), ("cells", .ref r), ("steps", .ref S)] ((s.heap.objs.size + 1, o1) :: (lp ++ led)) s1) :
    wpAny (model PR w) (AA 1) (exec (ST 3) (envOfC "law" (scAt 21) s.heap.objs.size 151 (.ref 150))) (fun fl s' => Done (fl = .next ∧ ∃ D k ds, ds.length = 2 ∧ ToldAre a b ds ∧ At s.heap s.heap.objs.size s [("script", .ref l), ("cells", .ref r), ("steps", .ref S), ("told", .ref D)] ((D, PySem.W.listOf (ds.map fun d => Value.ref d.1).toArray k) :: (ds ++ ((s.heap.objs.size + 1, o1) :: (lp ++ led)))) s')) Bot s1 := by
  obtain ⟨_, _, _, T⟩ := W.t
  have X := W.k
  w_on
  refine fill_of ?_; k_fill; intro _
  show wpAny _ _ (exec (.Assign [.Name _ _] _ _) _) _ _ _
  with_reducible refine assign_comp (s₀ := s) (g := s.heap) (n := 2) (cl := []) (fun j ys own => own.length = j ∧ ToldAre a b own ∧ ys = own.map fun d => Value.ref d.1) [("script", .ref l), ("cells", .ref r), ("steps", .ref S)] ((s.heap.objs.size + 1, o1) :: (lp ++ led)) ?_ ?_ ?_ ?_ ?_ ?_ ?_ ?_ ?_ ?_ ?_ ?_ ?_
  · exact ⟨rfl, (fun i d h => by simp at h), rfl⟩
  · rintro j ys own ⟨h, -, rfl⟩; rw [List.length_map, h]; exact Nat.le_refl _
  · decide
  · rfl
  · rfl
  · decide +kernel
  · rfl
  · decide +kernel
  · rfl
  · rfl
  · have F := I.F
    have N := I.N
    walk_at "go"
    obtain ⟨p, q, t1, t2, t3, t4, k, k1, k2, rfl⟩ := hlp
    refine hit_of (s₀ := s) (fun i v => (#[.ref p, .ref q] : Array Value)[i]? = some v) I (fun p hp => hp) ?_
    clear F N I
    intro s₁ I1
    have N1 := I1.N
    have z0 := list_is (N1 _ (.tail _ (.head _))).1
    have z1 := list_is (N1 _ (.tail _ (.tail _ (.head _)))).1
    have z2 := list_is (N1 _ (.tail _ (.tail _ (.tail _ (.head _))))).1
    refine ⟨itcList (A := AA 1) (l := P) (items := #[.ref p, .ref q]) rfl z0, ?_⟩
    clear N1 z0
    have hk1 := I1.F.keep
    intro s₂ haf C i v ys own hid post s₃ hi hP hJ hC IC
    obtain ⟨pp, bb, u1, u2, rfl, hpp, hs1, hs2, htl⟩ : ∃ (pp : Addr) (bb : Two) (u1 u2 : Tok), v = .ref pp ∧ s₁.heap.IsList pp #[.bytes bb.1 u1, .bytes bb.2 u2] ∧ bb.1.size ≤ 1000 ∧ bb.2.size ≤ 1000 ∧ tell2 a b i = (pd bb.1, pd bb.2) := by
      obtain rfl | rfl : i = 0 ∨ i = 1 := by omega
      · exact ⟨p, a, t1, t2, (Option.some.inj hP).symm, z1, ha.1, ha.2, rfl⟩
      · exact ⟨q, b, t3, t4, (Option.some.inj hP).symm, z2, hb.1, hb.2, rfl⟩
    clear z1 z2 hP
    obtain ⟨hJl, hJt, rfl⟩ := hJ
    have F := IC.F
    have N := IC.N
    iterate 6 (try walk_at "comp2")
    rename Fr _ _ _ _ => F9
    rename News _ _ _ _ => N9
    have F8 := frUpd F9 rfl
    clear F N F9
    with_reducible refine eval_comp (s₀ := s₂) (g := s₁.heap) (L := C) (n := 2) (cl := []) (fun j ys own => IntsAre ys ([pd bb.1, pd bb.2].take j) ∧ own = []) (upd "piece" (.ref pp) post) (own ++ hid) ?_ ?_ ?_ ?_ ?_ ?_ ?_ ?_ ?_ ?_
    · exact ⟨.nil, rfl⟩
    · rintro j ys own ⟨h, -⟩; have := h.length; simp at this; omega
    · decide
    · rfl
    · decide +kernel
    · rfl
    · decide +kernel
    · refine load_comp F8 (by rw [lookup_upd]; exact if_pos rfl) ?_
      refine hit_of (s₀ := s₂) (fun i v => (#[.bytes bb.1 u1, .bytes bb.2 u2] : Array Value)[i]? = some v) ⟨F8, N9, IC.g, IC.d, IC.o⟩ (fun p hp => hp) ?_
      clear F8 N9
      intro s4 I4
      refine ⟨itcList (A := AA 1) (l := pp) (items := #[.bytes bb.1 u1, .bytes bb.2 u2]) rfl (hpp.at (fun o e => I4.F.keep _ o e)), ?_⟩
      have hk4 : ∀ b o, s.heap.get? b = some o → s4.heap.get? b = some o := fun b o e => I4.F.keep _ _ (hk1 b o e)
      intro s5 haf5 C5 j v ys own5 hid5 post5 s6 hj hPj hJ5 hC5 IC5
      obtain ⟨cc, tc, rfl, hsc, hpc⟩ : ∃ (cc : Array UInt8) (tc : Tok), v = .bytes cc tc ∧ cc.size ≤ 1000 ∧ [pd bb.1, pd bb.2][j]? = some (pd cc) := by
        obtain rfl | rfl : j = 0 ∨ j = 1 := by omega
        · exact ⟨bb.1, u1, (Option.some.inj hPj).symm, hs1, rfl⟩
        · exact ⟨bb.2, u2, (Option.some.inj hPj).symm, hs2, rfl⟩
      obtain ⟨hJ5, rfl⟩ := hJ5
      have F := IC5.F
      have N := IC5.N
      iterate 6 (try walk_at "comp2")
      rename Fr _ _ _ _ => F9
      rename News _ _ _ _ => N9
      refine global_comp F9 hk4 X (topRead_of T) (by rfl) ?_
      iterate 8 (try walk_at "comp2")
      · exact X.keeps fun b o e => F9.keep _ _ (hk4 b o e)
      refine wpAny_mono (paren1 (A := AA 1) (s := { heap := _, gens := s6.gens, drawn := s6.drawn, toks := s6.toks + 1, os := s6.os }) rfl (by decide) (by decide) (W.keeps fun b o e => F9.keep _ _ (hk4 b o e)) cc (Nat.le_trans hsc (by decide)) tc) (fun v s' hv => ?_) fun _ _ x => x
      obtain ⟨tp, rfl, haf6⟩ := hv
      have I9 := at_after haf6 (frUpd F9 rfl) N9 IC5.g IC5.d IC5.o
      refine ⟨[], _, ⟨?_, rfl⟩, (fun p hp => by cases hp), I9⟩
      rw [List.take_add_one, hpc]
      exact hJ5.append (.cons _ _ .nil)
    · rintro D k5 ys own5 s5 ⟨h5, rfl⟩ hne5 I5
      obtain ⟨x1, x2, rfl⟩ := ints2 h5
      refine ⟨own ++ [(D, PySem.W.listOf #[.int (pd bb.1) x1, .int (pd bb.2) x2] k5)], _, ⟨by simp [hJl], ?_, by simp⟩, ?_, I5.sub fun p hp => ?_⟩
      · intro j d hj
        rcases Nat.lt_or_ge j own.length with h | h
        · rw [List.getElem?_append_left h] at hj
          exact hJt j d hj
        · rw [List.getElem?_append_right h, List.getElem?_singleton] at hj
          by_cases hz : j - own.length = 0
          · rw [if_pos hz] at hj
            have : j = i := by omega
            subst this
            rw [← Option.some.inj hj, htl]
            exact ⟨x1, x2, k5, rfl⟩
          · rw [if_neg hz] at hj; cases hj
      · intro p hp
        rcases List.mem_append.mp hp with hp | hp
        · exact .inl hp
        · rw [List.mem_singleton.mp hp]
          exact .inr fun q hq => (hne5 q (List.mem_append_right _ (List.mem_append_right _ hq))).symm
      · simp only [List.mem_append, List.mem_cons, List.nil_append, List.not_mem_nil, or_false] at hp ⊢
        rcases hp with (h | h) | h
        · exact .inr (.inl h)
        · exact .inl h
        · exact .inr (.inr h)
    · intro x; rfl
  · rintro R k'' rs own' s' ⟨h, ht, rfl⟩ - I'
    exact ⟨rfl, R, k'', own', h, ht, I'⟩
  · intro x; rfl
end Mine
end
section
open PySem PySem.W PyProof.Rows PySem.Calls
set_option maxRecDepth 100000
set_option maxHeartbeats 2000000
namespace Mine
theorem frUpd3 {g h : Heap} {L : Addr} {x1 x2 x3 : Str} {v1 v2 v3 : Value} {m m' : NM} (F : Fr g L h (fun y => if y = x3 then some v3 else if y = x2 then some v2 else if y = x1 then some v1 else m.lookup y)) (e : upd x3 v3 (upd x2 v2 (upd x1 v1 m)) = m') : Fr g L h (fun y => m'.lookup y) := by
  subst e
  exact frCongr F fun y => by rw [lookup_upd, lookup_upd, lookup_upd]
noncomputable abbrev nm4 (l r S D : Addr) : NM := [("script", .ref l), ("cells", .ref r), ("steps", .ref S), ("told", .ref D)]
theorem law_a5 {w : World} {s s1 : Shared} {l r S D d0 d1 : Addr} {x0 x1 x2 x3 : Int} {t0 t1 t2 t3 t4 t5 t6 t7 : Tok} {k k0 k1 k2 : Nat} {rest : LD} (W : Wd w s.heap) 
    (I : At s.heap s.heap.objs.size s (nm4 l r S D) ([(D, PySem.W.listOf #[.ref d0, .ref d1] k), (d0, PySem.W.listOf #[.int x0 t0, .int x1 t1] k0), (d1, PySem.W.listOf #[.int x2 t2, .int x3 t3] k1), (S, PySem.W.listOf #[.int x0 t4, .int x1 t5, .int x2 t6, .int x3 t7] k2)] ++ rest) s1) :
    wpAny (model PR w) (AA 1) (exec (ST 4) (envOfC "law" (scAt 21) s.heap.objs.size 151 (.ref 150))) (fun fl s' => Done (fl = .next ∧ At s.heap s.heap.objs.size s (nm4 l r S D) ([(D, PySem.W.listOf #[.ref d0, .ref d1] k), (d0, PySem.W.listOf #[.int x0 t0, .int x1 t1] k0), (d1, PySem.W.listOf #[.int x2 t2, .int x3 t3] k1), (S, PySem.W.listOf #[.int x0 t4, .int x1 t5, .int x2 t6, .int x3 t7] k2)] ++ rest) s')) Bot s1 := by
  obtain ⟨_, _, _, T⟩ := W.t
  have X := W.k
  w_on
  refine fill_of ?_; k_fill; intro _
  show wpAny _ _ (exec (.If _ _ _ _) _) _ _ _
  have F := I.F
  have N := I.N
  walk_at "go"
  rename News _ _ _ _ => N9
  exact ⟨rfl, by assumption, fun p hp => N9 p (by repeat (first | exact hp | refine List.mem_cons_of_mem _ ?_)), I.g, I.d, I.o⟩
noncomputable abbrev nm5 (l r S D : Addr) (a b c : Int) (t0 t1 t2 : Tok) : NM := [("script", .ref l), ("cells", .ref r), ("steps", .ref S), ("told", .ref D), ("strange", .int c t2), ("eight", .int b t1), ("seven", .int a t0)]
theorem law_a6 {w : World} {s s1 : Shared} {l r S D : Addr} {c0 c1 c2 c3 : Int} {t0 t1 t2 t3 : Tok} {k : Nat} {rest : LD} (W : Wd w s.heap) 
    (I : At s.heap s.heap.objs.size s (nm4 l r S D) ((r, PySem.W.listOf #[.int c0 t0, .int c1 t1, .int c2 t2, .int c3 t3] k) :: rest) s1) :
    wpAny (model PR w) (AA 1) (exec (ST 5) (envOfC "law" (scAt 21) s.heap.objs.size 151 (.ref 150))) (fun fl s' => Done (fl = .next ∧ ∃ a b c u0 u1 u2, (0 ≤ a ∧ a < 12) ∧ (0 ≤ b ∧ b < 15) ∧ (0 ≤ c ∧ c < 1024) ∧ At s.heap s.heap.objs.size s (nm5 l r S D a b c u0 u1 u2) ((r, PySem.W.listOf #[.int c0 t0, .int c1 t1, .int c2 t2, .int c3 t3] k) :: rest) s')) Bot s1 := by
  obtain ⟨_, _, _, T⟩ := W.t
  have X := W.k
  w_on
  refine fill_of ?_; k_fill; intro _
  show wpAny _ _ (exec (.Assign [.Tuple _ _ _] _ _) _) _ _ _
  have F := I.F
  have N := I.N
  walk_at "go"
  rename Fr _ _ _ _ => F9
  rename News _ _ _ _ => N9
  refine ⟨rfl, _, _, _, _, _, _, ?_, ?_, ?_, ⟨frUpd3 F9 rfl, fun p hp => N9 p (List.mem_cons_of_mem _ hp), I.g, I.d, I.o⟩⟩
  all_goals exact ⟨Int.fmod_nonneg_of_pos _ (by decide), Int.fmod_lt_of_pos _ (by decide)⟩
theorem law_a7 {w : World} {s s1 : Shared} {l r S D : Addr} {a b c : Int} {u0 u1 u2 : Tok} {rest : LD} (W : Wd w s.heap) 
    (I : At s.heap s.heap.objs.size s (nm5 l r S D a b c u0 u1 u2) rest s1) :
    wpAny (model PR w) (AA 1) (exec (ST 6) (envOfC "law" (scAt 21) s.heap.objs.size 151 (.ref 150))) (fun fl s' => Done (fl = .next ∧ ∃ wh k v0 v1 v2 v3, At s.heap s.heap.objs.size s (nm5 l r S D a b c u0 u1 u2 ++ ([("whites", .ref wh)] : NM)) ((wh, PySem.W.listOf #[.int 160 v0, .int 8195 v1, .int 12288 v2, .int 9 v3] k) :: rest) s')) Bot s1 := by
  obtain ⟨_, _, _, T⟩ := W.t
  have X := W.k
  w_on
  refine fill_of ?_; k_fill; intro _
  show wpAny _ _ (exec (.Assign [.Name _ _] _ _) _) _ _ _
  have F := I.F
  have N := I.N
  walk_at "go"
  rename Fr _ _ _ _ => F9
  rename News _ _ _ _ => N9
  exact ⟨rfl, _, _, _, _, _, _, ⟨frUpd F9 rfl, N9, I.g, I.d, I.o⟩⟩
noncomputable def whites : List Int := [160, 8195, 12288, 9]
theorem whites_at {j : Int} (h0 : 0 ≤ j) (h1 : j < 4) : 0 ≤ whites.getD j.toNat 0 ∧ whites.getD j.toNat 0 ≤ 1114111 ∧ (whites.getD j.toNat 0).toNat ≠ 32 := by
  obtain ⟨k, rfl⟩ := Int.eq_ofNat_of_zero_le h0
  have hk : k < 4 := by omega
  rw [Int.toNat_natCast]
  exact (by decide +kernel : ∀ k, k < 4 → 0 ≤ whites.getD k 0 ∧ whites.getD k 0 ≤ 1114111 ∧ (whites.getD k 0).toNat ≠ 32) k hk
theorem inkE (X Y : Nat) : (⟨#[X]⟩ : Str) ++ Str.ofString " " ++ ⟨#[Y]⟩ = ⟨[X, 32, Y].toArray⟩ := by
  rw [blank1]
  exact (congrArg (fun z : Str => z ++ ⟨#[Y]⟩) (catL [X] [32])).trans (catL [X, 32] [Y])
noncomputable abbrev nm6 (l r S D wh : Addr) (a b c : Int) (t0 t1 t2 : Tok) : NM := [("script", .ref l), ("cells", .ref r), ("steps", .ref S), ("told", .ref D), ("strange", .int c t2), ("eight", .int b t1), ("seven", .int a t0), ("whites", .ref wh)]
theorem law_a8 {w : World} {s s1 : Shared} {l r S D wh : Addr} {a b c : Int} {u0 u1 u2 : Tok} {rest : LD} {k k2 : Nat} {v0 v1 v2 v3 : Tok} {c0 c1 c2 c3 : Int} {t0 t1 t2 t3 : Tok} (W : Wd w s.heap) 
    (I : At s.heap s.heap.objs.size s (nm6 l r S D wh a b c u0 u1 u2) ((wh, PySem.W.listOf #[.int 160 v0, .int 8195 v1, .int 12288 v2, .int 9 v3] k) :: (r, PySem.W.listOf #[.int c0 t0, .int c1 t1, .int c2 t2, .int c3 t3] k2) :: rest) s1) :
    wpAny (model PR w) (AA 1) (exec (ST 7) (envOfC "law" (scAt 21) s.heap.objs.size 151 (.ref 150))) (fun fl s' => Done (fl = .next ∧ ∃ x y t, x ≠ 32 ∧ y ≠ 32 ∧ At s.heap s.heap.objs.size s (nm6 l r S D wh a b c u0 u1 u2 ++ ([("ink", .str ⟨[x, 32, y].toArray⟩ t)] : NM)) ((wh, PySem.W.listOf #[.int 160 v0, .int 8195 v1, .int 12288 v2, .int 9 v3] k) :: (r, PySem.W.listOf #[.int c0 t0, .int c1 t1, .int c2 t2, .int c3 t3] k2) :: rest) s')) Bot s1 := by
  obtain ⟨_, _, _, T⟩ := W.t
  have X := W.k
  w_on
  refine fill_of ?_; k_fill; intro _
  show wpAny _ _ (exec (.Assign [.Name _ _] _ _) _) _ _ _
  have F := I.F
  have N := I.N
  have ha0 : 0 ≤ c3.fmod 4 := Int.fmod_nonneg_of_pos _ (by decide)
  have ha1 : c3.fmod 4 < 4 := Int.fmod_lt_of_pos _ (by decide)
  have hb0 : 0 ≤ (c3.fdiv 4).fmod 4 := Int.fmod_nonneg_of_pos _ (by decide)
  have hb1 : (c3.fdiv 4).fmod 4 < 4 := Int.fmod_lt_of_pos _ (by decide)
  obtain ⟨p0, p1, p2⟩ := whites_at ha0 ha1
  obtain ⟨q0, q1, q2⟩ := whites_at hb0 hb1
  walk_at "go"
  refine chr_of_range p0 p1 ?_
  walk_at "go"
  refine chr_of_range q0 q1 ?_
  walk_at "go"
  rename Fr _ _ _ _ => F9
  rename News _ _ _ _ => N9
  rw [inkE] at F9
  refine ⟨rfl, _, _, _, ?_, ?_, ⟨frUpd F9 rfl, N9, I.g, I.d, I.o⟩⟩
  · exact p2
  · exact q2
end Mine
end
section
open PySem PySem.W PyProof.Rows PySem.Calls
set_option maxRecDepth 100000
set_option maxHeartbeats 2000000
namespace Mine
noncomputable def negs (ts : List Int) : List Int := (ts.filter fun x => decide (x < 0)).map fun x => -x
noncomputable abbrev nm7 (l r S D wh : Addr) (a b c : Int) (t0 t1 t2 : Tok) (x y : Nat) (ti : Tok) : NM := [("script", .ref l), ("cells", .ref r), ("steps", .ref S), ("told", .ref D), ("strange", .int c t2), ("eight", .int b t1), ("seven", .int a t0), ("whites", .ref wh), ("ink", .str ⟨[x, 32, y].toArray⟩ ti)]
theorem law_a9 {w : World} {s s1 : Shared} {l r S D wh : Addr} {a b c : Int} {u0 u1 u2 ti : Tok} {x y : Nat} {rest : LD} {k k2 : Nat} {c0 c1 c2 c3 : Int} {t0 t1 t2 t3 : Tok} {vs : List Value} {ts : List Int} (W : Wd w s.heap) (hvs : IntsAre vs ts) (hts : ts.length = 4) (hb : ∀ x ∈ ts, -3 ≤ x ∧ x ≤ 3)
    (I : At s.heap s.heap.objs.size s (nm7 l r S D wh a b c u0 u1 u2 x y ti) ((r, PySem.W.listOf #[.int c0 t0, .int c1 t1, .int c2 t2, .int c3 t3] k2) :: (S, PySem.W.listOf vs.toArray k) :: rest) s1) :
    wpAny (model PR w) (AA 1) (exec (ST 8) (envOfC "law" (scAt 21) s.heap.objs.size 151 (.ref 150))) (fun fl s' => Done (fl = .next ∧ ∃ t, At s.heap s.heap.objs.size s (nm7 l r S D wh a b c u0 u1 u2 x y ti ++ ([("room", .int (5 * (negs ts).sum + (c3.fdiv 16).fmod 3) t)] : NM)) ((r, PySem.W.listOf #[.int c0 t0, .int c1 t1, .int c2 t2, .int c3 t3] k2) :: (S, PySem.W.listOf vs.toArray k) :: rest) s')) Bot s1 := by
  obtain ⟨_, _, _, T⟩ := W.t
  have X := W.k
  w_on
  refine fill_of ?_; k_fill; intro _
  show wpAny _ _ (exec (.Assign [.Name _ _] _ _) _) _ _ _
  have F := I.F
  have N := I.N
  walk_at "gol"
  have hlv := hvs.length
  have I0 : At s.heap s.heap.objs.size s (nm7 l r S D wh a b c u0 u1 u2 x y ti) ((r, PySem.W.listOf #[.int c0 t0, .int c1 t1, .int c2 t2, .int c3 t3] k2) :: (S, PySem.W.listOf vs.toArray k) :: rest) { s1 with toks := s1.toks + 1 } := ⟨I.F, I.N, I.g, I.d, I.o⟩
  clear F N I
  with_reducible refine eval_comp (s₀ := s) (g := s.heap) (L := s.heap.objs.size) (n := vs.toArray.size) (cl := []) (fun j ys own => IntsAre ys (negs (ts.take j)) ∧ own = []) (nm7 l r S D wh a b c u0 u1 u2 x y ti) ((r, PySem.W.listOf #[.int c0 t0, .int c1 t1, .int c2 t2, .int c3 t3] k2) :: (S, PySem.W.listOf vs.toArray k) :: rest) ?_ ?_ ?_ ?_ ?_ ?_ ?_ ?_ ?_ ?_
  · exact ⟨.nil, rfl⟩
  · rintro j ys own ⟨h, -⟩
    rw [h.length]
    unfold negs
    rw [List.length_map]
    exact Nat.le_trans (List.length_filter_le _ _) (by simp; omega)
  · show vs.length ≤ sizeLine
    rw [hlv, hts]; decide
  · rfl
  · decide +kernel
  · rfl
  · decide +kernel
  · have F := I0.F
    have N := I0.N
    walk_at "gol"
    refine hit_of (s₀ := s) (fun r v => vs.toArray[r]? = some v) I0 (fun p hp => hp) ?_
    clear F N I0
    intro s₁ I1
    have N1 := I1.N
    refine ⟨itcList (A := AA 1) (l := S) (items := vs.toArray) rfl (list_is (N1 _ (.tail _ (.head _))).1), ?_⟩
    clear N1
    intro s₂ haf C j v ys own' hid post' s₃ hj' hP hJ hC IC
    obtain ⟨z, u, rfl, hx⟩ := hvs.at j v (by simpa using hP)
    have hzb := hb z (List.mem_of_getElem? hx)
    obtain ⟨hJ, rfl⟩ := hJ
    have F := IC.F
    have N := IC.N
    iterate 12 (try walk_at "comp2")
    · rename z < 0 => hz
      rename Fr _ _ _ _ => F9
      rename News _ _ _ _ => N9
      refine ⟨[], _, ⟨?_, rfl⟩, (fun p hp => by cases hp), ⟨frUpd F9 rfl, N9, IC.g, IC.d, IC.o⟩⟩
      have e : negs (ts.take (j + 1)) = negs (ts.take j) ++ [-z] := by
        unfold negs
        rw [List.take_add_one, hx, List.filter_append, List.map_append]
        simp [hz]
      rw [e]
      exact hJ.append (.cons _ _ .nil)
    · rename ¬ z < 0 => hz
      rename Fr _ _ _ _ => F9
      rename News _ _ _ _ => N9
      refine ⟨[], _, ⟨?_, rfl⟩, (fun p hp => by cases hp), ⟨frUpd F9 rfl, N9, IC.g, IC.d, IC.o⟩⟩
      have e : negs (ts.take (j + 1)) = negs (ts.take j) := by
        unfold negs
        rw [List.take_add_one, hx, List.filter_append, List.map_append]
        simp [hz]
      rw [e]
      exact hJ
  · rintro D' k' ys own' s' ⟨h, rfl⟩ - I'
    rw [show vs.toArray.size = ts.length from hlv, List.take_of_length_le (Nat.le_refl _)] at h
    have F := I'.F
    have N := I'.N
    walk_at "gol"
    rename Fr _ _ _ _ => F9
    rename News _ _ _ _ => N9
    exact ⟨trivial, _, ⟨frUpd F9 rfl, fun p hp => N9 p (List.mem_cons_of_mem _ hp), I'.g, I'.d, I'.o⟩⟩
  · intro x; rfl
noncomputable abbrev nm8 (l r S D wh : Addr) (a b c : Int) (t0 t1 t2 : Tok) (x y : Nat) (ti : Tok) (ro : Int) (tr : Tok) : NM := nm7 l r S D wh a b c t0 t1 t2 x y ti ++ ([("room", .int ro tr)] : NM)
theorem law_a10 {w : World} {s s1 : Shared} {l r S D wh : Addr} {a b c ro : Int} {u0 u1 u2 ti tr : Tok} {x y : Nat} {rest : LD} {k2 : Nat} {c0 c1 c2 c3 : Int} {t0 t1 t2 t3 : Tok} (W : Wd w s.heap)
    (I : At s.heap s.heap.objs.size s (nm8 l r S D wh a b c u0 u1 u2 x y ti ro tr) ((r, PySem.W.listOf #[.int c0 t0, .int c1 t1, .int c2 t2, .int c3 t3] k2) :: rest) s1) :
    wpAny (model PR w) (AA 1) (exec (ST 9) (envOfC "law" (scAt 21) s.heap.objs.size 151 (.ref 150))) (fun fl s' => Done (fl = .next ∧ ∃ t, At s.heap s.heap.objs.size s (nm8 l r S D wh a b c u0 u1 u2 x y ti ro tr ++ ([("start", .int (c3.fdiv 48) t)] : NM)) ((r, PySem.W.listOf #[.int c0 t0, .int c1 t1, .int c2 t2, .int c3 t3] k2) :: rest) s')) Bot s1 := by
  obtain ⟨_, _, _, T⟩ := W.t
  have X := W.k
  w_on
  refine fill_of ?_; k_fill; intro _
  show wpAny _ _ (exec (.Assign [.Name _ _] _ _) _) _ _ _
  have F := I.F
  have N := I.N
  walk_at "gol"
  rename Fr _ _ _ _ => F9
  rename News _ _ _ _ => N9
  exact ⟨rfl, _, ⟨frUpd F9 rfl, N9, I.g, I.d, I.o⟩⟩
noncomputable abbrev nm9 (l r S D wh : Addr) (a b c : Int) (t0 t1 t2 : Tok) (x y : Nat) (ti : Tok) (ro : Int) (tr : Tok) (st : Int) (ts : Tok) : NM := nm8 l r S D wh a b c t0 t1 t2 x y ti ro tr ++ ([("start", .int st ts)] : NM)
theorem law_a11 {w : World} {s s1 : Shared} {l r S D wh : Addr} {a b c ro st : Int} {u0 u1 u2 ti tr tst : Tok} {x y : Nat} {rest : LD} {k : Nat} {x0 x1 x2 x3 : Int} {t4 t5 t6 t7 : Tok} (W : Wd w s.heap) (r0 : -3 ≤ x0 ∧ x0 ≤ 3) (r1 : -3 ≤ x1 ∧ x1 ≤ 3) (r2 : -3 ≤ x2 ∧ x2 ≤ 3) (r3 : -3 ≤ x3 ∧ x3 ≤ 3)
    (I : At s.heap s.heap.objs.size s (nm9 l r S D wh a b c u0 u1 u2 x y ti ro tr st tst) ((S, PySem.W.listOf #[.int x0 t4, .int x1 t5, .int x2 t6, .int x3 t7] k) :: rest) s1) :
    wpAny (model PR w) (AA 1) (exec (ST 10) (envOfC "law" (scAt 21) s.heap.objs.size 151 (.ref 150))) (fun fl s' => Done (fl = .next ∧ ∃ t t', At s.heap s.heap.objs.size s (nm9 l r S D wh a b c u0 u1 u2 x y ti ro tr st tst ++ ([("last", .int (5 * [x0, x1, x2, x3].sum) t'), ("low", .int (lowF x0 x1 x2 x3) t)] : NM)) ((S, PySem.W.listOf #[.int x0 t4, .int x1 t5, .int x2 t6, .int x3 t7] k) :: rest) s')) Bot s1 := by
  obtain ⟨_, _, _, T⟩ := W.t
  have X := W.k
  w_on
  refine fill_of ?_; k_fill; intro _
  show wpAny _ _ (exec (.Assign [.Tuple _ _ _] _ _) _) _ _ _
  have F := I.F
  have N := I.N
  walk_at "gol"
  refine bot (wpAny_mono (low_spec (A := AA 1) rfl (by decide) (by decide) (W.keeps F.keep) S x0 x1 x2 x3 t4 t5 t6 t7 (list_is (N _ (.head _)).1) r0 r1 r2 r3) (fun v s' hv => ?_) fun _ _ x => x)
  obtain ⟨tl, rfl, haf⟩ := hv
  have I' := I.keeps haf
  clear F N I
  have F := I'.F
  have N := I'.N
  walk_at "gol"
  rename Fr _ _ _ _ => F9
  rename News _ _ _ _ => N9
  exact ⟨trivial, _, _, ⟨frUpd2 F9 rfl, fun p hp => N9 p (List.mem_cons_of_mem _ hp), I'.g, I'.d, I'.o⟩⟩
end Mine
end
section
open PySem PySem.W PyProof.Rows PySem.Calls
set_option maxRecDepth 100000
namespace Mine
/-- for_rule, its parts chosen behind the iterable -/
theorem for_late {w : World} {A : Around} {env : Env} {x : Str} {px pos : Pos} {iter : Expr} {body : List Stmt} {Q : Flow → Shared → Prop} {s s₀ : Shared} {g : Heap}
    (hx : env.kindOf x = some .local) (hk : env.scope.kind = .function)
    (hit : wpAny (model PR w) A (eval iter env) (fun xv s₁ => Done (∃ (n : Nat) (P : Nat → Value → Prop) (fix : LD) (e₀ post : NM), e₀.lookup x = none ∧ wpAny (model PR w) A (pyIter xv) (ItAt w A g env.locals s₀ (e₀ ++ post) fix [] n P) Bot s₁ ∧
      (∀ i v own post s₁, i < n → P i v → At g env.locals s₀ ((x, v) :: (e₀ ++ post)) (fix ++ own) s₁ →
        wpAny (model PR w) A (execs body env) (fun fl s' => Done (fl = .next ∧ ∃ u post', At g env.locals s₀ ((x, u) :: (e₀ ++ post')) (fix ++ own) s')) Bot s₁) ∧
      (∀ post' s', At g env.locals s₀ (e₀ ++ post') fix s' → Q .next s'))) Bot s)
    (hs : ∀ x, foldedSetIterable iter env x = pure x := by intro _; rfl) :
    wpAny (model PR w) A (exec (.For (.Name x px) iter body [] pos) env) Q Bot s := by
  refine wpAny_For (wpAny_mono hit (fun xv s₁ h₁ => ?_) fun _ _ e => e.elim) hs
  obtain ⟨n, P, fix, e₀, post, hex, h₁, turn, done⟩ := h₁
  refine wpAny_mono h₁ (fun it s₂ h₂ => ?_) fun _ _ e => e.elim
  obtain ⟨I, fp, wr, St, rfl, W, hL, hwr, hfix, -, hst, I0⟩ := h₂
  have hp : (env.scope.kind == .class || (env.scope.kind == .module && env.locals != env.globals)) = false := by rw [hk]; rfl
  refine PyProof.Rows.codeAny_forLoop_frV (R := fun r s' => match r with | .ok f => Q f s' | .error e => cameBackBy (model PR w) A env Bot e s') W hx hp hL hwr hfix hst I0.F I0.N
    (fun i m news => ∃ μ post, m = (fun y => List.lookup y μ) ∧ Off x μ (e₀ ++ post) ∧ news = fix) ⟨_, post, rfl, fun _ _ => rfl, rfl⟩ ?_ ?_
  · rintro i v m₁ news₁ s₁ own ⟨h, tk, rfl⟩ hi hP ⟨μ, post, rfl, hoff, rfl⟩ ha ho hog hof hst₁ F₁ N₁
    have I1 : At g env.locals s₀ ((x, v) :: (e₀ ++ post)) (news₁ ++ own) { s₂ with heap := h, toks := tk } :=
      ⟨frCongr F₁ fun y => by
        rw [List.lookup_cons]
        by_cases hy : y = x
        · subst hy; simp
        · rw [if_neg hy, beq_eq_false_iff_ne.mpr hy]; exact hoff y hy, fun p hp => N₁ p (by
        rcases List.mem_append.mp hp with hp | hp
        · exact List.mem_append_right _ hp
        · exact List.mem_append_left _ hp), I0.g, I0.d, I0.o⟩
    refine wpAny_mono (turn i v own post _ hi hP I1) (fun fl s' hd => ?_) fun _ _ e => e.elim
    obtain ⟨rfl, u, post', I'⟩ := hd
    refine LoopStepV.next ?_
    obtain ⟨h', g', d', tk', o'⟩ := s'
    have e1 : g' = s₂.gens := I'.g.trans I0.g.symm
    have e2 : d' = s₂.drawn := I'.d.trans I0.d.symm
    have e3 : o' = s₂.os := I'.o.trans I0.o.symm
    subst e1 e2 e3
    exact ⟨rfl, h', tk', _, news₁, rfl, I'.F, fun p hp => I'.N p (by
        rcases List.mem_append.mp hp with hp | hp
        · exact List.mem_append_right _ hp
        · exact List.mem_append_left _ hp), ha, _, post', rfl, fun y hy => by rw [List.lookup_cons, beq_eq_false_iff_ne.mpr hy], rfl⟩
  · rintro h' tk m' news' F' N' ha ⟨μ, post, rfl, hoff, rfl⟩
    obtain ⟨post', hp'⟩ := hoff.tail hex
    exact done post' _ ⟨frCongr F' hp', N', I0.g, I0.d, I0.o⟩
end Mine
end
section
open PySem PySem.W PyProof.Rows PySem.Calls
set_option maxRecDepth 100000
set_option maxHeartbeats 2000000
namespace Mine
/-- the names' values ahead of the loop -/
structure Pm where
  l : Addr
  r : Addr
  S : Addr
  D : Addr
  wh : Addr
  a : Int
  b : Int
  c : Int
  u0 : Tok
  u1 : Tok
  u2 : Tok
  x : Nat
  y : Nat
  ti : Tok
  ro : Int
  tr : Tok
  st : Int
  tst : Tok
  la : Int
  tla : Tok
  lo : Int
  tlo : Tok
  tta : Tok
noncomputable def tailB : Array UInt8 := #[34, 34, 92, 40, 91, 123, 34, 40, 92, 10, 34, 41, 34, 34, 40, 92, 34, 40]
noncomputable abbrev Pm.nm (p : Pm) : NM := [("script", .ref p.l), ("cells", .ref p.r), ("steps", .ref p.S), ("told", .ref p.D), ("strange", .int p.c p.u2), ("eight", .int p.b p.u1), ("seven", .int p.a p.u0), ("whites", .ref p.wh), ("ink", .str ⟨[p.x, 32, p.y].toArray⟩ p.ti), ("room", .int p.ro p.tr), ("start", .int p.st p.tst), ("last", .int p.la p.tla), ("low", .int p.lo p.tlo), ("tail", .bytes tailB p.tta)]
noncomputable abbrev nm10 (l r S D wh : Addr) (a b c : Int) (t0 t1 t2 : Tok) (x y : Nat) (ti : Tok) (ro : Int) (tr : Tok) (st : Int) (ts : Tok) (la : Int) (tla : Tok) (lo : Int) (tlo : Tok) : NM := nm9 l r S D wh a b c t0 t1 t2 x y ti ro tr st ts ++ ([("last", .int la tla), ("low", .int lo tlo)] : NM)
theorem law_a12 {w : World} {s s1 : Shared} {l r S D wh : Addr} {a b c ro st la lo : Int} {u0 u1 u2 ti tr tst tla tlo : Tok} {x y : Nat} {led : LD} (W : Wd w s.heap)
    (I : At s.heap s.heap.objs.size s (nm10 l r S D wh a b c u0 u1 u2 x y ti ro tr st tst la tla lo tlo) led s1) :
    wpAny (model PR w) (AA 1) (exec (ST 11) (envOfC "law" (scAt 21) s.heap.objs.size 151 (.ref 150))) (fun fl s' => Done (fl = .next ∧ ∃ t, At s.heap s.heap.objs.size s (Pm.nm ⟨l, r, S, D, wh, a, b, c, u0, u1, u2, x, y, ti, ro, tr, st, tst, la, tla, lo, tlo, t⟩) led s')) Bot s1 := by
  obtain ⟨_, _, _, T⟩ := W.t
  have X := W.k
  w_on
  refine fill_of ?_; k_fill; intro _
  show wpAny _ _ (exec (.Assign [.Name _ _] _ _) _) _ _ _
  have F := I.F
  have N := I.N
  walk_at "go"
  rename Fr _ _ _ _ => F9
  rename News _ _ _ _ => N9
  exact ⟨rfl, _, ⟨frUpd F9 rfl, N9, I.g, I.d, I.o⟩⟩
noncomputable def SB (i : Nat) : Stmt := match ST 12 with
  | .For _ _ b _ _ => b[i]?.getD (.Pass default)
  | _ => .Pass default
noncomputable abbrev Pm.mm (p : Pm) (m : Addr) (post : NM) : NM := ("middle", .ref m) :: (p.nm ++ post)
theorem row_end {g h : Heap} {L R : Addr} {y0 y1 : Int} {a0 a1 a2 a3 a4 a5 a6 a7 a8 a9 : Tok} {q1 q2 q3 : Addr × Obj} {led : LD} {k : Nat} (N : News g L h ((R, PySem.W.listOf #[.int 0 a0, .int 1 a1, .int 1 a2, .int 0 a3, .int y0 a4, .int y1 a5, .int 0 a6, .int 1 a7, .int 1 a8, .int 0 a9] k) :: q1 :: q2 :: q3 :: led)) :
    ∃ vs, IntsAre vs [0, 1, 1, 0, y0, y1, 0, 1, 1, 0] ∧ News g L h ((R, PySem.W.listOf vs.toArray k) :: led) :=
  ⟨[.int 0 a0, .int 1 a1, .int 1 a2, .int 0 a3, .int y0 a4, .int y1 a5, .int 0 a6, .int 1 a7, .int 1 a8, .int 0 a9], .cons _ _ (.cons _ _ (.cons _ _ (.cons _ _ (.cons _ _ (.cons _ _ (.cons _ _ (.cons _ _ (.cons _ _ (.cons _ _ .nil))))))))), fun p hp => by
    rcases List.mem_cons.mp hp with e | hp
    · rw [e]; exact N _ (.head _)
    · exact N p (.tail _ (.tail _ (.tail _ (.tail _ hp))))⟩
theorem body0 {w : World} {s s1 : Shared} {p : Pm} {m : Addr} {post : NM} {rest : LD} {y0 y1 : Int} {t0 t1 : Tok} {k : Nat} (W : Wd w s.heap)
    (I : At s.heap s.heap.objs.size s (p.mm m post) ((m, PySem.W.listOf #[.int y0 t0, .int y1 t1] k) :: rest) s1) :
    wpAny (model PR w) (AA 1) (exec (SB 0) (envOfC "law" (scAt 21) s.heap.objs.size 151 (.ref 150))) (fun fl s' => Done (fl = .next ∧ ∃ R vs k', IntsAre vs [0, 1, 1, 0, y0, y1, 0, 1, 1, 0] ∧ At s.heap s.heap.objs.size s (p.mm m (("row", .ref R) :: post)) ((R, PySem.W.listOf vs.toArray k') :: (m, PySem.W.listOf #[.int y0 t0, .int y1 t1] k) :: rest) s')) Bot s1 := by
  obtain ⟨_, _, _, T⟩ := W.t
  have X := W.k
  w_on
  refine fill_of ?_; k_fill; intro _
  show wpAny _ _ (exec (.Assign [.Name _ _] _ _) _) _ _ _
  have F := I.F
  have N := I.N
  walk_at "go"
  rename Fr _ _ _ _ => F9
  rename News _ _ _ _ => N9
  dsimp only at N9
  have z := row_end N9
  exact ⟨rfl, _, z.choose, 0, z.choose_spec.1, ⟨frTail (m := ("middle", .ref m) :: p.nm) (post := post) F9 rfl, z.choose_spec.2, I.g, I.d, I.o⟩⟩
end Mine
end
section
open PySem PySem.W PyProof.Rows
set_option maxRecDepth 100000
namespace Mine
noncomputable abbrev E2 (elt t1 i1 t2 i2 : Expr) (scope : Scope) (pos : Pos) : Expr := .ListComp elt [⟨t1, i1, [], 0⟩, ⟨t2, i2, [], 0⟩] scope pos
theorem turn2_0 (elt t1 i1 t2 i2 : Expr) (scope : Scope) (pos : Pos) (it acc : Value) (env : Env) : compTurn (E2 elt t1 i1 t2 i2 scope pos) 0 it acc env = (do
      standAt i1.pos
      match ← pyNext it with
      | none => pure (.done .next)
      | some v =>
        letOwnedTupleGo t1 it v
        assign t1 env v
        let mut ok := true
        for c in [] do
          if ok then ok ← isTrue c env (eval c env)
        if ok then
            let x ← eval i2 env
            standAt i2.pos
            let x ← foldedSetIterable i2 env x
            let _ ← runOwn (.compStart (E2 elt t1 i1 t2 i2 scope pos) 1 (← holding [x] (pyIter x)) acc env) env
        again (.compLoop (E2 elt t1 i1 t2 i2 scope pos) 0 it acc env)) := by rfl
theorem turn2_1 (elt t1 i1 t2 i2 : Expr) (scope : Scope) (pos : Pos) (it acc : Value) (env : Env) : compTurn (E2 elt t1 i1 t2 i2 scope pos) 1 it acc env = (do
      standAt i2.pos
      match ← pyNext it with
      | none => pure (.done .next)
      | some v =>
        letOwnedTupleGo t2 it v
        assign t2 env v
        let mut ok := true
        for c in [] do
          if ok then ok ← isTrue c env (eval c env)
        if ok then
          (do let _ ← call (.builtin "list.append") [acc, ← eval elt env])
        again (.compLoop (E2 elt t1 i1 t2 i2 scope pos) 1 it acc env)) := by rfl
theorem start2_1 {w : World} {A : Around} {R : Result → Shared → Prop} {s : Shared} {elt t1 i1 t2 i2 : Expr} {scope : Scope} {pos : Pos} {it acc : Value} {env : Env}
    (h0 : codeAny (model PR w) A (.compLoop (E2 elt t1 i1 t2 i2 scope pos) 1 it acc env) R s)
    (h : wpAny (model PR w) A (pyIter it) (fun it' s' => codeAny (model PR w) A (.compLoop (E2 elt t1 i1 t2 i2 scope pos) 1 it' acc env) R s') Bot s) :
    codeAny (model PR w) A (.compStart (E2 elt t1 i1 t2 i2 scope pos) 1 it acc env) R s := by
  refine codeAny_of_tree ?_
  show wpAny _ _ ((compStart (E2 elt t1 i1 t2 i2 scope pos) 1 it acc env).onRaise (fun x => do noteFrame x env; standAt theWindowsPlace)) _ _ s
  refine wpAny_notedAt ?_
  unfold compStart
  show wpAny _ _ (ask >>= _) _ _ s
  refine wpAny_bind (wpAny_askSetting (wpAny_ite ?_))
  split
  · first
      | exact wpAny_bind (wpAny_pure (wpAny_pure (And.intro rfl h0)))
      | exact wpAny_pure (And.intro rfl h0)
  · first
      | exact wpAny_bind (wpAny_rule (wpAny_bind (wpAny_standAt (wpAny_bind (wpAny_mono (bot h) (fun it' s' h' => wpAny_pure (And.intro rfl h')) fun _ _ x => x)))))
      | (refine wpAny_bind (wpAny_rule ?_); show wpAny _ _ (standAt i2.pos >>= _) _ _ s; exact wpAny_bind (wpAny_standAt (wpAny_bind (wpAny_mono (bot h) (fun it' s' h' => wpAny_pure (And.intro rfl h')) fun _ _ x => x))))
theorem loop2_1 {w : World} {A : Around} {R : Result → Shared → Prop} {s : Shared} {elt t1 i1 t2 i2 : Expr} {scope : Scope} {pos : Pos} {it acc : Value} {env : Env} (I : Nat → Shared → Prop)
    (turn : ∀ n s, I n s → wpAny (model PR w) A (pyNext it) (fun r s₁ => match r with
      | none => R (.ok .next) s₁
      | some v => wpAny (model PR w) A (letOwnedTupleGo t2 it v) (fun _ s₁ => wpAny (model PR w) A (assign t2 env v) (fun _ s₃ =>
          wpAny (model PR w) A (eval elt env) (fun x s₄ =>
              wpAny (model PR w) A (call (.builtin "list.append") [acc, x]) (fun _ s₅ => ∃ m, m < n ∧ I m s₅) Bot s₄) Bot s₃) Bot s₁) Bot s₁) Bot s)
    (n : Nat) (h : I n s) : codeAny (model PR w) A (.compLoop (E2 elt t1 i1 t2 i2 scope pos) 1 it acc env) R s := by
  refine codeAny_loop rfl I (fun n s hI => ?_) n h
  show wpAny _ A ((compTurn (E2 elt t1 i1 t2 i2 scope pos) 1 it acc env).onRaise (fun x => do noteFrame x env; theTreesLotGoes x)) _ _ s
  refine wpAny_noted (bot ?_)
  rw [turn2_1]
  refine wpAny_bind (wpAny_standAt (wpAny_bind (wpAny_mono (turn n s hI) (fun r s₁ h₁ => ?_) fun _ _ h' => h')))
  cases r with
  | none => exact wpAny_pure h₁
  | some v =>
    refine wpAny_bind (wpAny_mono h₁ (fun _ s₂ h₂ => ?_) fun _ _ h' => h')
    refine wpAny_bind (wpAny_mono h₂ (fun _ s₃ h₃ => wpAny_bind (wpAny_pure ?_)) fun _ _ h' => h')
    exact wpAny_bind (wpAny_bind (wpAny_mono h₃ (fun x s₄ h₄ => wpAny_bind (wpAny_mono h₄ (fun _ s₅ h₅ => wpAny_pure (wpAny_pure ⟨rfl, h₅⟩)) fun _ _ h' => h')) fun _ _ h' => h'))
theorem loop2_0 {w : World} {A : Around} {R : Result → Shared → Prop} {s : Shared} {elt t1 i1 t2 i2 : Expr} {scope : Scope} {pos : Pos} {it acc : Value} {env : Env} (I : Nat → Shared → Prop) (hs : ∀ x, foldedSetIterable i2 env x = pure x)
    (turn : ∀ n s, I n s → wpAny (model PR w) A (pyNext it) (fun r s₁ => match r with
      | none => R (.ok .next) s₁
      | some v => wpAny (model PR w) A (letOwnedTupleGo t1 it v) (fun _ s₁ => wpAny (model PR w) A (assign t1 env v) (fun _ s₃ =>
          wpAny (model PR w) A (eval i2 env) (fun x s₄ => wpAny (model PR w) A (pyIter x) (fun it' s₅ =>
            codeAny (model PR w) A (.compStart (E2 elt t1 i1 t2 i2 scope pos) 1 it' acc env) (fun r s₆ => r = .ok .next ∧ ∃ m, m < n ∧ I m s₆) s₅) Bot s₄) Bot s₃) Bot s₁) Bot s₁) Bot s)
    (n : Nat) (h : I n s) : codeAny (model PR w) A (.compLoop (E2 elt t1 i1 t2 i2 scope pos) 0 it acc env) R s := by
  refine codeAny_loop rfl I (fun n s hI => ?_) n h
  show wpAny _ A ((compTurn (E2 elt t1 i1 t2 i2 scope pos) 0 it acc env).onRaise (fun x => do noteFrame x env; theTreesLotGoes x)) _ _ s
  refine wpAny_noted (bot ?_)
  rw [turn2_0]
  refine wpAny_bind (wpAny_standAt (wpAny_bind (wpAny_mono (turn n s hI) (fun r s₁ h₁ => ?_) fun _ _ h' => h')))
  cases r with
  | none => exact wpAny_pure h₁
  | some v =>
    refine wpAny_bind (wpAny_mono h₁ (fun _ s₂ h₂ => ?_) fun _ _ h' => h')
    refine wpAny_bind (wpAny_mono h₂ (fun _ s₃ h₃ => wpAny_bind (wpAny_pure ?_)) fun _ _ h' => h')
    refine wpAny_bind (wpAny_mono h₃ (fun x s₄ h₄ => wpAny_bind (wpAny_standAt ?_)) fun _ _ h' => h')
    refine wpAny_bind (wpAny_of_eq (hs x) ?_)
    refine wpAny_bind (wpAny_holding (wpAny_mono h₄ (fun it' s₅ h₅ => ?_) fun _ _ h' => h'))
    refine wpAny_bind (wpAny_runOwn (codeAny_mono h₅ fun r s₆ h₆ => ?_))
    obtain ⟨rfl, h₆⟩ := h₆
    exact wpAny_pure ⟨rfl, h₆⟩
end Mine
end
section
open PySem PySem.W PyProof.Rows
set_option maxRecDepth 100000
namespace Mine
/-- as ItC, the iterator's parts old or new -/
noncomputable def ItC2 (w : World) (A : Around) (g : Heap) (s₁ : Shared) (target : Expr) (n : Nat) (P : Nat → Value → Prop) (it : Value) (s₂ : Shared) : Prop :=
  ∃ I fp wr St, it = .ref I ∧ Walks PR w A I fp wr n P St ∧ (∀ i v (s : Shared) (Q : Unit → Shared → Prop), St i s.heap → Q () s → wpAny (model PR w) A (letOwnedTupleGo target (.ref I) v) Q Bot s) ∧
    (∀ i h, St i h → ∀ b ∈ fp, ∃ o, h.get? b = some o) ∧ (∀ b ∈ wr, s₁.heap.get? b = none) ∧ (∀ b ∈ fp, (∃ o, g.get? b = some o) ∨ s₁.heap.get? b = none) ∧ St 0 s₂.heap ∧ After s₁ s₂
theorem itcList2 {w : World} {A : Around} {g : Heap} {s : Shared} {l : Addr} {items : Array Value} {target : Expr} (hh : A.handled = none) (hl : s.heap.IsList l items) (hg : ∃ o, g.get? l = some o) :
    wpAny (model PR w) A (pyIter (.ref l)) (ItC2 w A g s target items.size fun i v => items[i]? = some v) Bot s := by
  obtain ⟨ol, hol, _⟩ := id hl
  have hlt := Heap.lt_size hol
  refine wpAny_pyIter_list hl ⟨s.heap.objs.size, [s.heap.objs.size, l], [s.heap.objs.size], _, rfl, Walks.list hh _ l (Nat.ne_of_lt hlt) items, fun i v s Q st hQ => letGo_listiter st.1 hQ, ?_, ?_, ?_, ⟨⟨_, Heap.get?_push_size _ rfl, rfl, rfl⟩, hl.at fun o e => Heap.get?_push_of_some _ e⟩, ⟨fun b o e => Heap.get?_push_of_some _ e, rfl, rfl, rfl⟩⟩
  · rintro i h ⟨⟨o, ho, _⟩, o', ho', _⟩ b hb
    rcases List.mem_cons.mp hb with rfl | hb
    · exact ⟨_, ho⟩
    · rw [List.mem_singleton.mp hb]; exact ⟨_, ho'⟩
  · intro b hb; rw [List.mem_singleton.mp hb]; exact fresh_at _
  · intro b hb
    rcases List.mem_cons.mp hb with rfl | hb
    · exact .inr (fresh_at _)
    · rw [List.mem_singleton.mp hb]; exact .inl hg
/-- what an At with hidden things keeps -/
theorem hidden_keeps {g h : Heap} {C D : Addr} {fp : List Addr} {s₂ s : Shared} {post : NM} (hg : ∀ b o, g.get? b = some o → h.get? b = some o) (I : At g C s₂ post (hidden g h D fp) s) : ∀ b ∈ D :: fp, ∀ o, h.get? b = some o → s.heap.get? b = some o := by
  intro b hb o e
  cases hgb : g.get? b with
  | some o' =>
    have e1 := hg _ _ hgb
    have e2 := I.F.keep _ _ hgb
    rw [e2, ← e1]; exact e
  | none => exact (I.N (b, o) (mem_hidden.mpr ⟨hb, hgb, e⟩)).1
theorem hidden_at {g h : Heap} {C D : Addr} {fp : List Addr} {s₂ s : Shared} {post : NM} (I : At g C s₂ post [] s) (e : s.heap = h) (hC : ∀ b ∈ D :: fp, b ≠ C) : At g C s₂ post (hidden g h D fp) s :=
  ⟨I.F, fun p hp => by
    obtain ⟨a, b, c⟩ := mem_hidden.mp hp
    exact ⟨by rw [e]; exact c, hC _ a, b⟩, I.g, I.d, I.o⟩
theorem inner2 {w : World} {A : Around} {R : Result → Shared → Prop} {s : Shared} {elt t1 i1 t2 i2 : Expr} {scope : Scope} {pos : Pos} {env : Env} {s₂ : Shared} {g : Heap} {I D C : Addr} {fp wr fpo : List Addr} {n : Nat} {P : Nat → Value → Prop} {St : Nat → Heap → Prop} {ho : Heap}
    (W : Walks PR w A I fp wr n P St) (K : Nat → List Value → Prop) (hKl : ∀ j ys, K j ys → ys.length ≤ 10000)
    (hlet : ∀ i v (s : Shared) (Q : Unit → Shared → Prop), St i s.heap → Q () s → wpAny (model PR w) A (letOwnedTupleGo t2 (.ref I) v) Q Bot s)
    (hal : ∀ i h, St i h → ∀ b ∈ fp, ∃ o, h.get? b = some o)
    (hwrg : ∀ b ∈ wr, g.get? b = none) (hwo : ∀ b ∈ fpo, b ∉ wr) (hDo : D ∉ fpo) (hDw : D ∉ wr) (hCw : C ∉ wr) (hDC : D ≠ C) (hDf : D ∉ fp) (hCf : C ∉ fp) (hCo : C ∉ fpo) (hgD : g.get? D = none)
    (ys : List Value) (post : NM) (h0 : K 0 ys) (hst : St 0 s.heap) (hacc : s.heap.PlainList D ys.toArray) (hA : At g C s₂ post [] s) (hfo : ∀ b ∈ fpo, ∀ o, ho.get? b = some o → s.heap.get? b = some o)
    (turn : ∀ j v ys hid' post s₆, j < n → P j v → K j ys → At g C s₂ post hid' s₆ → wpAny (model PR w) A (assign t2 env v) (fun _ s₇ => wpAny (model PR w) A (eval elt env) (fun y s₈ => Done (∃ post', K (j + 1) (ys ++ [y]) ∧ At g C s₂ post' hid' s₈)) Bot s₇) Bot s₆)
    (hR : ∀ s' post ys, K n ys → s'.heap.PlainList D ys.toArray → At g C s₂ post [] s' → (∀ b ∈ fpo, ∀ o, ho.get? b = some o → s'.heap.get? b = some o) → R (.ok .next) s') :
    codeAny (model PR w) A (.compLoop (E2 elt t1 i1 t2 i2 scope pos) 1 (.ref I) (.ref D) env) R s := by
  refine loop2_1 (fun k s' => ∃ j ys post, k = n + 1 - j ∧ j ≤ n ∧ K j ys ∧ St j s'.heap ∧ s'.heap.PlainList D ys.toArray ∧ At g C s₂ post [] s' ∧ (∀ b ∈ fpo, ∀ o, ho.get? b = some o → s'.heap.get? b = some o)) ?_ (n + 1) ⟨0, ys, post, rfl, Nat.zero_le _, h0, hst, hacc, hA, hfo⟩
  rintro k s' ⟨j, ys, post, rfl, hj, hK, hst', hacc', I', hf'⟩
  have pass : ∀ h₁ tk₁, (∀ b o, b ∉ wr → s'.heap.get? b = some o → h₁.get? b = some o) → At g C s₂ post [] { s' with heap := h₁, toks := tk₁ } := fun h₁ tk₁ hk₁ =>
    ⟨⟨I'.F.ns.at' fun o e => hk₁ _ o hCw e, fun b o e => hk₁ b o (fun hb => by rw [hwrg b hb] at e; cases e) (I'.F.keep b o e), I'.F.above⟩, fun p hp => (by cases hp), I'.g, I'.d, I'.o⟩
  by_cases hlt : j < n
  · refine W.item j _ _ _ hlt hst' fun v h₁ tk₁ hPv hst₁ hk₁ => ?_
    have I₁ := pass h₁ tk₁ hk₁
    refine hlet (j + 1) v _ _ hst₁ ?_
    have hD₁ : h₁.PlainList D ys.toArray := hacc'.at fun o e => hk₁ _ o hDw e
    have hf₁ : ∀ b ∈ fpo, ∀ o, ho.get? b = some o → h₁.get? b = some o := fun b hb o e => hk₁ b o (hwo b hb) (hf' b hb o e)
    have Ih := hidden_at (D := D) (fp := fp ++ fpo) I₁ rfl (fun b hb => by
      rcases List.mem_cons.mp hb with rfl | hb
      · exact hDC
      · rintro rfl
        rcases List.mem_append.mp hb with hb | hb
        · exact hCf hb
        · exact hCo hb)
    refine wpAny_mono (turn j v ys _ post _ hlt hPv hK Ih) (fun _ s₄ h₄ => wpAny_mono h₄ (fun y s₈ h₈ => ?_) fun _ _ x => x) fun _ _ x => x
    obtain ⟨post', hK', I₈⟩ := h₈
    have hk := hidden_keeps (fun b o e => I₁.F.keep b o e) I₈
    refine wpAny_list_append_plain (items := ys.toArray) (hsz := by have := hKl _ _ hK; rw [List.size_toArray]; exact Nat.le_trans this (by decide)) (hD₁.at fun o e => hk D (.head _) o e) fun h₅ hl₅ hs₅ => ?_
    refine ⟨n + 1 - (j + 1), by omega, j + 1, ys ++ [y], post', rfl, hlt, hK', W.frame _ _ _ hst₁ fun b hb o e => hs₅.extBut b o (fun h => hDf (h ▸ hb)) (hk b (List.mem_cons_of_mem _ (List.mem_append_left _ hb)) o e), by rw [← push_list]; exact hl₅, ?_, fun b hb o e => hs₅.extBut b o (fun h => hDo (h ▸ hb)) (hk b (List.mem_cons_of_mem _ (List.mem_append_right _ hb)) o (hf₁ b hb o e))⟩
    exact ⟨I₈.F.change hs₅ hDC hgD, fun p hp => (by cases hp), I₈.g, I₈.d, I₈.o⟩
  · have hjn : j = n := by omega
    subst hjn
    refine W.done _ _ _ hst' fun h₁ tk₁ hk₁ => ?_
    exact hR _ post ys hK (hacc'.at fun o e => hk₁ _ o hDw e) (pass h₁ tk₁ hk₁) fun b hb o e => hk₁ b o (hwo b hb) (hf' b hb o e)
/-- one turn of the outer of two loops, in the comprehension's own frame C -/
noncomputable def Turn2 (w : World) (A : Around) (t1 i2 t2 elt : Expr) (scope : Scope) (cl : List (Str × Addr)) (env : Env) (g : Heap) (s₂ : Shared) (n : Nat) (P : Nat → Value → Prop) (J : Nat → List Value → Prop) : Prop :=
  ∀ C i v hid post s₃, i < n → P i v → g.objs.size ≤ C → At g C s₂ post hid s₃ →
    wpAny (model PR w) A (assign t1 (compEnvC scope cl C env) v) (fun _ s₄ => wpAny (model PR w) A (eval i2 (compEnvC scope cl C env)) (fun x s₅ => Done (∃ (post' : NM) (n2 : Nat) (P2 : Nat → Value → Prop) (K : Nat → List Value → Prop), (∀ ys, J i ys → K 0 ys) ∧ (∀ ys, K n2 ys → J (i + 1) ys) ∧ (∀ j ys, K j ys → ys.length ≤ 10000) ∧ At g C s₂ post' hid s₅ ∧
      wpAny (model PR w) A (pyIter x) (ItC2 w A g s₅ t2 n2 P2) Bot s₅ ∧
      ∀ j v ys hid' post s₆, j < n2 → P2 j v → K j ys → At g C s₂ post hid' s₆ → wpAny (model PR w) A (assign t2 (compEnvC scope cl C env) v) (fun _ s₇ => wpAny (model PR w) A (eval elt (compEnvC scope cl C env)) (fun y s₈ => Done (∃ post', K (j + 1) (ys ++ [y]) ∧ At g C s₂ post' hid' s₈)) Bot s₇) Bot s₆)) Bot s₄) Bot s₃
theorem comp_loop2 {w : World} {A : Around} {elt t1 i1 t2 i2 : Expr} {scope : Scope} {cl : List (Str × Addr)} {pos : Pos} {env : Env} {s₂ s : Shared} {g : Heap} {I D C : Addr} {fp wr : List Addr} {n : Nat} {P : Nat → Value → Prop} {St : Nat → Heap → Prop}
    {R : Result → Shared → Prop} (W : Walks PR w A I fp wr n P St) (J : Nat → List Value → Prop) (h0 : J 0 [])
    (hlet : ∀ i v (s : Shared) (Q : Unit → Shared → Prop), St i s.heap → Q () s → wpAny (model PR w) A (letOwnedTupleGo t1 (.ref I) v) Q Bot s)
    (hal : ∀ i h, St i h → ∀ b ∈ fp, ∃ o, h.get? b = some o)
    (hwr : ∀ b ∈ wr, g.get? b = none) (hgD : g.get? D = none) (hgC' : g.get? C = none) (hgC : g.objs.size ≤ C) (hDC : D ≠ C) (hDf : D ∉ fp) (hCf : C ∉ fp)
    (hst : St 0 s.heap) (hacc : s.heap.PlainList D #[]) (hA : At g C s₂ [] [] s) (hs : ∀ x, foldedSetIterable i2 (compEnvC scope cl C env) x = pure x)
    (turn : Turn2 w A t1 i2 t2 elt scope cl env g s₂ n P J)
    (hR : ∀ s' post ys, J n ys → s'.heap.PlainList D ys.toArray → At g C s₂ post [] s' → R (.ok .next) s') :
    codeAny (model PR w) A (.compLoop (E2 elt t1 i1 t2 i2 scope pos) 0 (.ref I) (.ref D) (compEnvC scope cl C env)) R s := by
  have hCw : C ∉ wr := fun h => hCf (W.sub _ h)
  have hDw : D ∉ wr := fun h => hDf (W.sub _ h)
  refine loop2_0 (fun k s' => ∃ i ys post, k = n + 1 - i ∧ i ≤ n ∧ J i ys ∧ St i s'.heap ∧ s'.heap.PlainList D ys.toArray ∧ At g C s₂ post [] s') hs ?_ (n + 1) ⟨0, [], [], rfl, Nat.zero_le _, h0, hst, hacc, hA⟩
  rintro k s' ⟨i, ys, post, rfl, hi, hJ, hst', hacc', I'⟩
  have pass : ∀ h₁ tk₁, (∀ b o, b ∉ wr → s'.heap.get? b = some o → h₁.get? b = some o) → At g C s₂ post [] { s' with heap := h₁, toks := tk₁ } := fun h₁ tk₁ hk₁ =>
    ⟨⟨I'.F.ns.at' fun o e => hk₁ _ o hCw e, fun b o e => hk₁ b o (fun hb => by rw [hwr b hb] at e; cases e) (I'.F.keep b o e), I'.F.above⟩, fun p hp => (by cases hp), I'.g, I'.d, I'.o⟩
  by_cases hlt : i < n
  · refine W.item i _ _ _ hlt hst' fun v h₁ tk₁ hPv hst₁ hk₁ => ?_
    have I₁ := pass h₁ tk₁ hk₁
    refine hlet (i + 1) v _ _ hst₁ ?_
    have hD₁ : h₁.PlainList D ys.toArray := hacc'.at fun o e => hk₁ _ o hDw e
    have Ih := hidden_at (D := D) (fp := fp) I₁ rfl (fun b hb => by
      rcases List.mem_cons.mp hb with rfl | hb
      · exact hDC
      · rintro rfl; exact hCf hb)
    refine wpAny_mono (turn C i v _ post _ hlt hPv hgC Ih) (fun _ s₄ h₄ => wpAny_mono h₄ (fun x s₅ h₅ => ?_) fun _ _ x => x) fun _ _ x => x
    obtain ⟨post', n2, P2, K, k0, kn, kl, I₅, hit, tin⟩ := h₅
    have hk := hidden_keeps (fun b o e => I₁.F.keep b o e) I₅
    refine wpAny_mono hit (fun it' s₆ h₆ => ?_) fun _ _ x => x
    obtain ⟨I2, fp2, wr2, St2, rfl, W2, hlet2, hal2, hwr2, hfp2, hst2, haf⟩ := h₆
    have aliveD : ∃ o, s₅.heap.get? D = some o := by
      obtain ⟨dn, hDo⟩ := id hD₁
      exact ⟨_, hk D (.head _) _ hDo⟩
    have aliveC : ∃ o, s₅.heap.get? C = some o := by
      obtain ⟨o, _, _, e, _⟩ := I₅.F.ns
      exact ⟨o, e⟩
    have nf : ∀ b, g.get? b = none → (∃ o, s₅.heap.get? b = some o) → b ∉ fp2 := by
      rintro b hb ⟨o, e⟩ hm
      rcases hfp2 b hm with ⟨o', e'⟩ | e'
      · rw [hb] at e'; cases e'
      · rw [e'] at e; cases e
    have I₆ : At g C s₂ post' [] s₆ := (I₅.keeps haf).sub (fun p hp => by cases hp)
    have loop : codeAny (model PR w) A (.compLoop (E2 elt t1 i1 t2 i2 scope pos) 1 (.ref I2) (.ref D) (compEnvC scope cl C env)) (fun r s₆ => r = .ok .next ∧ ∃ m, m < n + 1 - i ∧ (fun k s' => ∃ i ys post, k = n + 1 - i ∧ i ≤ n ∧ J i ys ∧ St i s'.heap ∧ s'.heap.PlainList D ys.toArray ∧ At g C s₂ post [] s') m s₆) s₆ := by
      refine inner2 (fpo := fp) (ho := h₁) W2 K kl hlet2 hal2 ?_ ?_ hDf ?_ ?_ hDC (nf D hgD aliveD) (nf C hgC' aliveC) hCf hgD ys post' (k0 ys hJ) hst2 (hD₁.at fun o e => haf.k _ _ (hk D (.head _) o e)) I₆ (fun b hb o e => haf.k _ _ (hk b (List.mem_cons_of_mem _ hb) o e)) tin ?_
      · intro b hb
        cases e : g.get? b with
        | none => rfl
        | some o => have := I₅.F.keep _ _ e; rw [hwr2 b hb] at this; cases this
      · intro b hb hw
        obtain ⟨o, e⟩ := hal _ _ hst₁ b hb
        have := hk b (List.mem_cons_of_mem _ hb) o e
        rw [hwr2 b hw] at this; cases this
      · intro hw; obtain ⟨o, e⟩ := aliveD; rw [hwr2 D hw] at e; cases e
      · intro hw; obtain ⟨o, e⟩ := aliveC; rw [hwr2 C hw] at e; cases e
      · intro s' post'' zs hKn hl hA' hf
        exact ⟨rfl, n + 1 - (i + 1), by omega, i + 1, zs, post'', rfl, hlt, kn zs hKn, W.frame _ _ _ hst₁ hf, hl, hA'⟩
    exact start2_1 loop (W2.self 0 _ _ _ hst2 loop)
  · have hin : i = n := by omega
    subst hin
    refine W.done _ _ _ hst' fun h₁ tk₁ hk₁ => ?_
    exact hR _ post ys hJ (hacc'.at fun o e => hk₁ _ o hDw e) (pass h₁ tk₁ hk₁)
end Mine
end
section
open PySem PySem.W PyProof.Rows
set_option maxRecDepth 100000
namespace Mine
theorem comp_block2 {w : World} {A : Around} {E : Value → Shared → Prop} {elt t1 i1 t2 i2 : Expr} {scope : Scope} {cl : List (Str × Addr)} {pos : Pos} {env : Env} {s₂ : Shared} {g : Heap} {I : Addr} {fp wr : List Addr} {n : Nat} {P : Nat → Value → Prop} {St : Nat → Heap → Prop}
    {RR : Value → Addr → Result → Shared → Prop} (W : Walks PR w A I fp wr n P St) (J : Nat → List Value → Prop) (h0 : J 0 [])
    (hcell : ∀ y ∈ scope.names, y.2 ≠ .cell) (hkind : scope.kind = .function)
    (hlet : ∀ i v (s : Shared) (Q : Unit → Shared → Prop), St i s.heap → Q () s → wpAny (model PR w) A (letOwnedTupleGo t1 (.ref I) v) Q Bot s)
    (hal : ∀ i h, St i h → ∀ b ∈ fp, ∃ o, h.get? b = some o)
    (hwr : ∀ b ∈ wr, g.get? b = none) (hg : ∀ b o, g.get? b = some o → s₂.heap.get? b = some o) (hgs : g.objs.size ≤ s₂.heap.objs.size) (hs : ∀ C x, foldedSetIterable i2 (compEnvC scope cl C env) x = pure x)
    (hst : St 0 s₂.heap) (turn : Turn2 w A t1 i2 t2 elt scope cl env g s₂ n P J)
    (hRR : ∀ D C s' post ys, J n ys → s'.heap.PlainList D ys.toArray → At g C s₂ post [] s' → D ≠ C → g.get? D = none → g.get? C = none → RR (.ref D) C (.ok .next) s') :
    wpAny (model PR w) A (newList []) (fun acc s₃ => wpAny (model PR w) A (newFunctionEnv scope env.globals cl [] env.qual none .none (some env)) (fun cenv s₄ =>
      codeAny (model PR w) A (.compStart (E2 elt t1 i1 t2 i2 scope pos) 0 (.ref I) acc { cenv with scope := relabel scope env }) (RR acc cenv.locals) s₄) E s₃) E s₂ := by
  refine wpAny_newObj_type (wpAny_newFunctionEnv hcell (by intro y hy; simp at hy) (fun h₁ hns₁ hsb₁ => ?_) hkind)
  dsimp only at hns₁ hsb₁ ⊢
  generalize hH2 : s₂.heap.push { cls := .type "list", dict := none, data := .seq ([] : List Value).toArray } = H2 at hns₁ hsb₁ ⊢
  have hC : H2.objs.size = s₂.heap.objs.size + 1 := by rw [← hH2, Heap.size_push]
  have hDC : s₂.heap.objs.size ≠ H2.objs.size := by rw [hC]; exact Nat.ne_of_lt (Nat.lt_succ_self _)
  have below : ∀ b, b < s₂.heap.objs.size → b ≠ H2.objs.size ∧ b ≠ s₂.heap.objs.size := fun b hb => ⟨by rw [hC]; exact Nat.ne_of_lt (Nat.lt_succ_of_lt hb), Nat.ne_of_lt hb⟩
  have hfp : ∀ b ∈ fp, b < s₂.heap.objs.size := fun b hb => let ⟨o, e⟩ := hal _ _ hst b hb; Heap.lt_size e
  have hDf : s₂.heap.objs.size ∉ fp := fun hm => Nat.lt_irrefl _ (hfp _ hm)
  have hCf : H2.objs.size ∉ fp := fun hm => by have := hfp _ hm; rw [hC] at this; exact Nat.lt_irrefl _ (Nat.lt_of_succ_lt this)
  have old : ∀ b o, s₂.heap.get? b = some o → h₁.get? b = some o := fun b o e => hsb₁.extBut b o (below b (Heap.lt_size e)).1 (Heap.get?_push_of_some _ (hH2 ▸ Heap.get?_push_of_some _ e))
  have hacc : h₁.PlainList s₂.heap.objs.size #[] := ⟨_, hsb₁.extBut _ _ hDC (Heap.get?_push_of_some _ (hH2 ▸ Heap.get?_push_size _ rfl))⟩
  have hst₁ : St 0 h₁ := W.frame _ _ _ hst fun b _ o e => old b o e
  have fresh : ∀ a, s₂.heap.objs.size ≤ a → g.get? a = none := fun a ha => by
    cases e : g.get? a with
    | none => rfl
    | some o' => have := Heap.lt_size e; exact absurd this (by show ¬ a < g.objs.size; exact Nat.not_lt.mpr (Nat.le_trans hgs ha))
  have hF : Fr g H2.objs.size h₁ (fun y => List.lookup y ([] : NM)) := ⟨hns₁, fun b o e => old b o (hg b o e), by rw [hC]; omega⟩
  have loop : ∀ s₃ : Shared, s₃ = { s₂ with heap := h₁, toks := s₂.toks + ([] : List (Str × Value)).length } →
      codeAny (model PR w) A (.compLoop (E2 elt t1 i1 t2 i2 scope pos) 0 (.ref I) (.ref s₂.heap.objs.size) (compEnvC scope cl H2.objs.size env))
        (RR (.ref s₂.heap.objs.size) H2.objs.size) s₃ := by
    rintro s₃ rfl
    exact comp_loop2 (s₂ := s₂) W J h0 hlet hal hwr (fresh _ (Nat.le_refl _)) (fresh _ (by rw [hC]; omega)) (by rw [hC]; omega) hDC hDf hCf hst₁ hacc ⟨hF, fun p hp => (by cases hp), rfl, rfl, rfl⟩ (hs _) turn
      fun s' post ys hJ hl hA => hRR _ _ s' post ys hJ hl hA hDC (fresh _ (Nat.le_refl _)) (fresh _ (by rw [hC]; omega))
  exact codeAny_compStart_list (loop _ rfl) (W.self 0 _ _ _ hst₁ (loop _ rfl))

theorem eval_comp2 {w : World} {A : Around} {env : Env} {s s₀ : Shared} {elt t1 i1 t2 i2 : Expr} {scope : Scope} {cl : List (Str × Addr)} {pos : Pos} {Q : Value → Shared → Prop} {g : Heap} {L : Addr} {n : Nat}
    (J : Nat → List Value → Prop) (m : NM) (led : LD) (h0 : J 0 []) (hs2 : ∀ C x, foldedSetIterable i2 (compEnvC scope cl C env) x = pure x)
    (hclos : closureFor scope env = pure cl) (hcell : ∀ y ∈ scope.names, y.2 ≠ .cell) (hkind : scope.kind = .function) (hnames : ∀ y ∈ scope.names, y.2 = .local → scope.names.lookup y.1 = some .local)
    (hit : wpAny (model PR w) A (eval i1 env) (fun xv s₁ => Done (∃ P, At g L s₀ m led s₁ ∧ wpAny (model PR w) A (pyIter xv) (ItC w A s₁ t1 n P) Bot s₁ ∧ ∀ s₂, After s₁ s₂ → Turn2 w A t1 i2 t2 elt scope cl env s₁.heap s₂ n P J)) Bot s)
    (done : ∀ D k ys s', J n ys → (∀ p ∈ led, p.1 ≠ D) → At g L s₀ m ((D, PySem.W.listOf ys.toArray k) :: led) s' → Q (.ref D) s')
    (hs : ∀ x, foldedSetIterable i1 env x = pure x := by intro _; rfl) :
    wpAny (model PR w) A (eval (.ListComp elt [⟨t1, i1, [], 0⟩, ⟨t2, i2, [], 0⟩] scope pos) env) Q Bot s := by
  rw [eval_ListComp]
  refine wpAny_comprehension_free (use := none) rfl hs hclos hkind hnames (wpAny_mono hit (fun xv s₁ (h₁ : ∃ P : Nat → Value → Prop, _ ∧ _ ∧ _) => let ⟨P, h₁⟩ := h₁; wpAny_mono h₁.2.1 (fun it s₂ h₂ => ?_) fun _ _ e => e.elim) fun _ _ e => e.elim)
  obtain ⟨I1, -, turn⟩ := h₁
  obtain ⟨I, fp, wr, St, rfl, W, hlet, hal, hwr, hst, haf, hsz'⟩ := h₂
  refine comp_block2 (g := s₁.heap) (RR := fun acc C => compPost (model PR w) A Bot none Q acc C) W J h0 hcell hkind hlet hal hwr haf.k hsz' hs2 hst (turn s₂ haf) ?_
  intro D C s' post ys hJ hl hA hDC hgD hgC
  refine ⟨_, hA.F.ns, fun h'' hs'' => ?_⟩
  obtain ⟨k, hk⟩ := hl
  have old : ∀ b o, s₁.heap.get? b = some o → h''.get? b = some o := fun b o e => hs''.extBut b o (by rintro rfl; rw [hgC] at e; cases e) (hA.F.keep b o e)
  have ne : ∀ b, s₁.heap.get? b = none → b ≠ L ∧ g.get? b = none := by
    intro b hb
    constructor
    · rintro rfl
      obtain ⟨o, _, _, ho, _⟩ := I1.F.ns
      rw [hb] at ho
      cases ho
    · cases e : g.get? b with
      | none => rfl
      | some o => rw [I1.F.keep _ _ e] at hb; cases hb
  refine done D k ys _ hJ (fun p hp => by
    rintro rfl
    have := (I1.N p hp).1
    rw [hgD] at this; cases this) ⟨⟨I1.F.ns.at' fun o e => old _ o e, fun b o e => old b o (I1.F.keep b o e), I1.F.above⟩, fun p hp => ?_, ?_, ?_, ?_⟩
  · rcases List.mem_cons.mp hp with rfl | hp
    · exact ⟨hs''.extBut _ _ hDC hk, ne D hgD⟩
    · exact ⟨old _ _ (I1.N p hp).1, (I1.N p hp).2⟩
  · exact (hA.g.trans haf.g).trans I1.g
  · exact (hA.d.trans haf.d).trans I1.d
  · exact (hA.o.trans haf.o).trans I1.o
end Mine
end
section
open PySem PySem.W PyProof.Rows PySem.Calls
set_option maxRecDepth 100000
set_option maxHeartbeats 2000000
namespace Mine
/-- the names in the loop's turn from the row on -/
noncomputable abbrev Pm.mr (p : Pm) (m R : Addr) (post : NM) : NM := ("middle", .ref m) :: (p.nm ++ (("row", .ref R) :: post : NM))
noncomputable abbrev Pm.mw (p : Pm) (m R : Addr) (wb : Array UInt8) (t : Tok) (post : NM) : NM := ("middle", .ref m) :: (p.nm ++ (("whole", .bytes wb t) :: ("row", .ref R) :: post : NM))
theorem body1 {w : World} {s s1 : Shared} {p : Pm} {m R P : Addr} {post : NM} {lp rest : LD} {o1 : Obj} {vs : List Value} {ns : List Int} {k : Nat} {a b : Two} (W : Wd w s.heap) (e1 : o1.data = .cell (some (.ref P))) (hlp : PcsL P a b lp) (hsz : ∀ x, (pick a b x).1.size ≤ 1000 ∧ (pick a b x).2.size ≤ 1000)
    (hvs : IntsAre vs ns) (hn : ns.length = 10) (h01 : ∀ x ∈ ns, x = 0 ∨ x = 1) (hm : minD p.st (tells a b ns) = p.st + p.lo) (hs : (tells a b ns).sum = p.la)
    (I : At s.heap s.heap.objs.size s (p.mr m R post) ((s.heap.objs.size + 1, o1) :: (R, PySem.W.listOf vs.toArray k) :: (lp ++ rest)) s1) :
    wpAny (model PR w) (AA 1) (exec (SB 1) (envOfC "law" (scAt 21) s.heap.objs.size 151 (.ref 150))) (fun fl s' => Done (fl = .next ∧ At s.heap s.heap.objs.size s (p.mr m R post) ((s.heap.objs.size + 1, o1) :: (R, PySem.W.listOf vs.toArray k) :: (lp ++ rest)) s')) Bot s1 := by
  obtain ⟨_, _, _, T⟩ := W.t
  have X := W.k
  w_on
  refine fill_of ?_; k_fill; intro _
  show wpAny _ _ (exec (.If _ _ _ _) _) _ _ _
  have F := I.F
  have N := I.N
  have hPc : Pcs s1.heap P a b := hlp.pcs fun q hq => (I.N q (.tail _ (.tail _ (List.mem_append_left _ hq)))).1
  walk_at "gol"
  refine bot (wpAny_mono (depths_spec (A := AA 1) rfl (by decide) (by decide) (W.keeps F.keep) R P vs.toArray ns a b (list_is (N _ (.tail _ (.head _))).1) hvs (by show vs.length = 10; rw [hvs.length, hn]) h01 hPc hsz p.st p.tst) (fun v s' hv => ?_) fun _ _ x => x)
  obtain ⟨r, t1, t2, rfl, hM, ha⟩ := hv
  rw [hm, hs] at hM
  have I' := I.made ha hM
  clear F N I hPc
  have F := I'.F
  have N := I'.N
  walk_at "gol"
  rename Fr _ _ _ _ => F9
  rename News _ _ _ _ => N9
  exact ⟨rfl, F9, fun q hq => N9 q (by repeat (first | exact hq | refine List.mem_cons_of_mem _ ?_)), I'.g, I'.d, I'.o⟩
/-- the row, typed out -/
noncomputable def wholeL (a b : Two) (ns : List Int) : List (List UInt8) := ns.flatMap fun x => [(pick a b x).1.toList, (pick a b x).2.toList]
theorem wholeL_len (a b : Two) (ns : List Int) : (wholeL a b ns).length = 2 * ns.length := by
  induction ns with
  | nil => rfl
  | cons x ns ih => unfold wholeL at ih ⊢; simp [ih]; omega
theorem hit2_of {w : World} {A : Around} {t1 i2 t2 elt : Expr} {scope : Scope} {cl : List (Str × Addr)} {env : Env} {g : Heap} {L : Addr} {s₀ s₁ : Shared} {m : NM} {led led' : LD} {n : Nat} {xv : Value} {J : Nat → List Value → Prop} (P : Nat → Value → Prop)
    (I : At g L s₀ m led' s₁) (hs : ∀ p ∈ led, p ∈ led') (h : ∀ s₁, At g L s₀ m led' s₁ → wpAny (model PR w) A (pyIter xv) (ItC w A s₁ t1 n P) Bot s₁ ∧ ∀ s₂, After s₁ s₂ → Turn2 w A t1 i2 t2 elt scope cl env s₁.heap s₂ n P J) :
    Done (∃ P, At g L s₀ m led s₁ ∧ wpAny (model PR w) A (pyIter xv) (ItC w A s₁ t1 n P) Bot s₁ ∧ ∀ s₂, After s₁ s₂ → Turn2 w A t1 i2 t2 elt scope cl env s₁.heap s₂ n P J) :=
  ⟨P, I.sub hs, h s₁ I⟩
theorem body2 {w : World} {s s1 : Shared} {p : Pm} {m R P : Addr} {post : NM} {lp rest : LD} {o1 : Obj} {vs : List Value} {ns : List Int} {k : Nat} {a b : Two} (W : Wd w s.heap) (e1 : o1.data = .cell (some (.ref P))) (hlp : PcsL P a b lp)
    (hvs : IntsAre vs ns) (hn : ns.length = 10) (h01 : ∀ x ∈ ns, x = 0 ∨ x = 1) (hz : (wholeL a b ns).flatten.length ≤ 1000)
    (I : At s.heap s.heap.objs.size s (p.mr m R post) ((s.heap.objs.size + 1, o1) :: (R, PySem.W.listOf vs.toArray k) :: (lp ++ rest)) s1) :
    wpAny (model PR w) (AA 1) (exec (SB 2) (envOfC "law" (scAt 21) s.heap.objs.size 151 (.ref 150))) (fun fl s' => Done (fl = .next ∧ ∃ wb t, wb.toList = (wholeL a b ns).flatten ∧ At s.heap s.heap.objs.size s (p.mw m R wb t post) ((s.heap.objs.size + 1, o1) :: (R, PySem.W.listOf vs.toArray k) :: (lp ++ rest)) s')) Bot s1 := by
  obtain ⟨_, _, _, T⟩ := W.t
  have X := W.k
  w_on
  refine fill_of ?_; k_fill; intro _
  show wpAny _ _ (exec (.Assign [.Name _ _] _ _) _) _ _ _
  have F := I.F
  have N := I.N
  have hPc : Pcs s1.heap P a b := hlp.pcs fun q hq => (I.N q (.tail _ (.tail _ (List.mem_append_left _ hq)))).1
  walk_at "gol"
  refine getMethod_builtin (typeIs_bytes _ _ _) FB.plainAttrs_bytes slot_bytes_join type_bytes_join (fun a e => by cases e) ?_
  walk_at "gol"
  have I0 : At s.heap s.heap.objs.size s (p.mr m R post) ((s.heap.objs.size + 1, o1) :: (R, PySem.W.listOf vs.toArray k) :: (lp ++ rest)) { s1 with toks := s1.toks + 1 } := ⟨I.F, I.N, I.g, I.d, I.o⟩
  have hlv : vs.toArray.size = ns.length := hvs.length
  clear F N I
  with_reducible refine eval_comp2 (s₀ := s) (g := s.heap) (L := s.heap.objs.size) (n := vs.toArray.size) (cl := [("pieces", s.heap.objs.size + 1)]) (fun i ys => BytesAre ys (wholeL a b (ns.take i))) (p.mr m R post) ((s.heap.objs.size + 1, o1) :: (R, PySem.W.listOf vs.toArray k) :: (lp ++ rest)) ?_ ?_ ?_ ?_ ?_ ?_ ?_ ?_ ?_
  · exact .nil
  · intro C x; rfl
  · rfl
  · decide +kernel
  · rfl
  · decide +kernel
  · have F := I0.F
    have N := I0.N
    walk_at "gol"
    refine hit2_of (s₀ := s) (fun i v => vs.toArray[i]? = some v) I0 (fun q hq => hq) ?_
    clear F N I0 hPc
    intro s₁ I1
    have N1 := I1.N
    have hPc : Pcs s₁.heap P a b := hlp.pcs fun q hq => (N1 q (.tail _ (.tail _ (List.mem_append_left _ hq)))).1
    have cP : Heap.IsCell s₁.heap (s.heap.objs.size + 1) (some (.ref P)) := ⟨o1, (N1 _ (.head _)).1, e1⟩
    refine ⟨itcList (A := AA 1) (l := R) (items := vs.toArray) rfl (list_is (N1 _ (.tail _ (.head _))).1), ?_⟩
    clear N1 I1
    intro s₂ haf C i v hid post' s₃ hi hP hC IC
    obtain ⟨x, tx, rfl, hx⟩ := hvs.at i v (by simpa using hP)
    have hx01 := h01 x (List.mem_of_getElem? hx)
    obtain ⟨its, q, t1, t2, hPi, hPx, hq⟩ := hPc.its hx01
    have F := IC.F
    have N := IC.N
    iterate 6 (try walk_at "comp2")
    refine cell_comp (by assumption) (by rfl) cP ?_
    iterate 6 (try walk_at "comp2")
    rename Fr _ _ _ _ => F9
    rename News _ _ _ _ => N9
    refine sub_list (hPi.at (fun o e => F9.keep _ o e)) (by omega) (by omega) hPx ?_
    have hw : wholeL a b (ns.take (i + 1)) = wholeL a b (ns.take i) ++ [(pick a b x).1.toList, (pick a b x).2.toList] := by
      unfold wholeL
      rw [List.take_add_one, hx, List.flatMap_append]
      simp
    have hwl : (wholeL a b (ns.take i)).length ≤ 20 := by
      rw [wholeL_len, List.length_take]; omega
    generalize pick a b x = pr at *
    refine ⟨_, 2, fun j v => (#[.bytes pr.1 t1, .bytes pr.2 t2] : Array Value)[j]? = some v, fun j ys => BytesAre ys (wholeL a b (ns.take i) ++ [pr.1.toList, pr.2.toList].take j), ?_, ?_, ?_, ⟨frUpd F9 rfl, N9, IC.g, IC.d, IC.o⟩, ?_, ?_⟩
    · intro ys h
      rw [List.take_zero, List.append_nil]; exact h
    · intro ys h
      show BytesAre ys (wholeL a b (ns.take (i + 1)))
      rw [hw]; exact h
    · intro j ys h
      have := h.length
      rw [List.length_append, List.length_take] at this
      simp at this
      omega
    · obtain ⟨oq, hoq, _⟩ := id hq
      exact itcList2 (A := AA 1) (items := #[.bytes pr.1 t1, .bytes pr.2 t2]) rfl (hq.at (fun o e => F9.keep _ o e)) ⟨oq, hoq⟩
    · clear F9 N9 F N IC
      intro j v ys hid' post2 s₆ hj hPj hK IC
      obtain ⟨cc, tc, rfl, hcc⟩ : ∃ (cc : Array UInt8) (tc : Tok), v = .bytes cc tc ∧ [pr.1.toList, pr.2.toList][j]? = some cc.toList := by
        obtain rfl | rfl : j = 0 ∨ j = 1 := by omega
        · exact ⟨pr.1, t1, (Option.some.inj hPj).symm, rfl⟩
        · exact ⟨pr.2, t2, (Option.some.inj hPj).symm, rfl⟩
      have F := IC.F
      have N := IC.N
      iterate 6 (try walk_at "comp2")
      rename Fr _ _ _ _ => F9
      rename News _ _ _ _ => N9
      refine ⟨_, ?_, ⟨frUpd F9 rfl, N9, IC.g, IC.d, IC.o⟩⟩
      show BytesAre (ys ++ [Value.bytes cc tc]) (wholeL a b (ns.take i) ++ [pr.1.toList, pr.2.toList].take (j + 1))
      rw [List.take_add_one, hcc, Option.toList_some, ← List.append_assoc]
      exact hK.append (.cons _ _ .nil)
  · intro D k' ys s' h hne I'
    rw [hlv, List.take_of_length_le (Nat.le_refl _)] at h
    have F := I'.F
    have N := I'.N
    walk_at "gol"
    refine call_join (N _ (.head _)).1 h (Nat.le_trans hz (by decide)) (fun wb tb kb hwb => ?_)
    refine wpAny_storeName_local rfl I'.F.ns (fun h2 hn hs => ?_) rfl
    have F2 := I'.F.set hn hs
    have N2 := I'.N.set hs
    exact ⟨rfl, wb, tb, hwb, ⟨frTail (m := ("middle", .ref m) :: p.nm) (post := (("row", .ref R) :: post : NM)) F2 rfl, fun q hq => N2 q (List.mem_cons_of_mem _ hq), I'.g, I'.d, I'.o⟩⟩
  · intro x; rfl
end Mine
end
section
open PySem PySem.W PyProof.Rows PySem.Calls
set_option maxRecDepth 100000
set_option maxHeartbeats 2000000
namespace Mine
theorem body3 {w : World} {s s1 : Shared} {p : Pm} {m R : Addr} {post : NM} {led : LD} {wb : Array UInt8} {tw : Tok} (W : Wd w s.heap) (hw : wb.size ≤ 1000) (h1 : pd wb = p.la) (h2 : pd (wb ++ tailB) = p.la + 4)
    (I : At s.heap s.heap.objs.size s (p.mw m R wb tw post) led s1) :
    wpAny (model PR w) (AA 1) (exec (SB 3) (envOfC "law" (scAt 21) s.heap.objs.size 151 (.ref 150))) (fun fl s' => Done (fl = .next ∧ At s.heap s.heap.objs.size s (p.mw m R wb tw post) led s')) Bot s1 := by
  obtain ⟨_, _, _, T⟩ := W.t
  have X := W.k
  w_on
  refine fill_of ?_; k_fill; intro _
  show wpAny _ _ (exec (.If _ _ _ _) _) _ _ _
  have F := I.F
  have N := I.N
  walk_at "go"
  refine bot (wpAny_mono (paren2 (A := AA 1) rfl (by decide) (by decide) (W.keeps F.keep) wb (Nat.le_trans hw (by decide)) p.st _ _) (fun v s' hv => ?_) fun _ _ x => x)
  obtain ⟨t3, rfl, ha⟩ := hv
  rw [h1]
  have I' := I.keeps ha
  clear F N I
  have F := I'.F
  have N := I'.N
  walk_at "go"
  · exact absurd rfl (by assumption)
  have hts : tailB.size = 18 := rfl
  refine KBy.add_bytes (by omega) (fun t4 k4 => ?_)
  walk_at "go"
  refine bot (wpAny_mono (paren2 (A := AA 1) (s := { s' with toks := k4 }) rfl (by decide) (by decide) (W.keeps F.keep) (wb ++ tailB) (by rw [Array.size_append]; omega) p.st _ _) (fun v s2 hv => ?_) fun _ _ x => x)
  obtain ⟨t5, rfl, ha2⟩ := hv
  rw [h2, ← Int.add_assoc]
  have I2 := I'.keeps (s' := s2) ⟨ha2.k, ha2.g, ha2.d, ha2.o⟩
  clear F N I'
  have F := I2.F
  have N := I2.N
  walk_at "go"
  · exact absurd rfl (by assumption)
  · exact ⟨rfl, F, N, I2.g, I2.d, I2.o⟩
theorem ink_pad (x y : Nat) (r : Int) : (⟨#[x, 32, y]⟩ : Str) ++ Txt.mul (Str.ofString " ") r = ⟨(padN 0 [x, 32, y] r.toNat).toArray⟩ := by
  rw [mulS blank1]
  exact catL [x, 32, y] _
theorem sml2 {a b : Int} (ha : -3 ≤ a ∧ a ≤ 3) (hb : -3 ≤ b ∧ b ≤ 3) : Sml [a, b] := ⟨by simp, fun z hz => by
  simp only [List.mem_cons, List.not_mem_nil, or_false] at hz
  rcases hz with rfl | rfl
  · exact ha
  · exact hb⟩
theorem body4 {w : World} {s s1 : Shared} {p : Pm} {m R d0 d1 : Addr} {post : NM} {rest : LD} {wb : Array UInt8} {tw : Tok} {vs : List Value} {ns : List Int} {k k0 k1 k2 : Nat} {x0 x1 x2 x3 : Int} {t0 t1 t2 t3 : Tok} (W : Wd w s.heap) (hx : p.x ≠ 32) (hy : p.y ≠ 32) (hr : 0 ≤ p.ro ∧ p.ro ≤ 100) (ha : 0 ≤ p.a ∧ p.a < 12) (hb : 0 ≤ p.b ∧ p.b < 15) (hc : 0 ≤ p.c ∧ p.c < 1024)
    (hvs : IntsAre vs ns) (hn : ns.length = 10) (h01 : ∀ x ∈ ns, x = 0 ∨ x = 1) (r0 : -3 ≤ x0 ∧ x0 ≤ 3) (r1 : -3 ≤ x1 ∧ x1 ≤ 3) (r2 : -3 ≤ x2 ∧ x2 ≤ 3) (r3 : -3 ≤ x3 ∧ x3 ≤ 3)
    (I : At s.heap s.heap.objs.size s (p.mw m R wb tw post) ([(R, PySem.W.listOf vs.toArray k), (p.D, PySem.W.listOf #[.ref d0, .ref d1] k0), (d0, PySem.W.listOf #[.int x0 t0, .int x1 t1] k1), (d1, PySem.W.listOf #[.int x2 t2, .int x3 t3] k2)] ++ rest) s1) :
    wpAny (model PR w) (AA 1) (exec (SB 4) (envOfC "law" (scAt 21) s.heap.objs.size 151 (.ref 150))) (fun fl s' => Done (fl = .next ∧ ∃ cs t, cs.filterMap kind = ns ∧ At s.heap s.heap.objs.size s (("middle", .ref m) :: (p.nm ++ (("line", .str ⟨(padN (lineF [x0, x1] [x2, x3] (0, p.ro.toNat) cs).1 [p.x, 32, p.y] (lineF [x0, x1] [x2, x3] (0, p.ro.toNat) cs).2).toArray⟩ t) :: ("whole", .bytes wb tw) :: ("row", .ref R) :: post : NM))) ([(R, PySem.W.listOf vs.toArray k), (p.D, PySem.W.listOf #[.ref d0, .ref d1] k0), (d0, PySem.W.listOf #[.int x0 t0, .int x1 t1] k1), (d1, PySem.W.listOf #[.int x2 t2, .int x3 t3] k2)] ++ rest) s')) Bot s1 := by
  obtain ⟨_, _, _, T⟩ := W.t
  have X := W.k
  w_on
  refine fill_of ?_; k_fill; intro _
  show wpAny _ _ (exec (.Assign [.Name _ _] _ _) _) _ _ _
  have F := I.F
  have N := I.N
  walk_at "go"
  refine bot (wpAny_mono (page_spec (A := AA 1) rfl (by decide) (by decide) (W.keeps F.keep) R vs.toArray ns (list_is (N _ (.head _)).1) hvs (by show vs.length = 10; rw [hvs.length, hn]) h01 p.a p.b p.c _ _ _ ha.1 ha.2 hb.1 hb.2 hc.1 hc.2) (fun v s' hv => ?_) fun _ _ x => x)
  obtain ⟨cs, tc, rfl, hk, hcl, haf⟩ := hv
  have I' := I.keeps haf
  clear F N I
  have F := I'.F
  have N := I'.N
  walk_at "go"
  rename_i tk9 k9 _
  rw [ink_pad]
  refine bot (wpAny_mono (line_spec (A := AA 1) (s := { s' with toks := k9 }) rfl (by decide) (by decide) (W.keeps F.keep) cs p.D d0 d1 #[.int x0 t0, .int x1 t1] #[.int x2 t2, .int x3 t3] [x0, x1] [x2, x3] hcl (list_is (N _ (.tail _ (.head _))).1) (list_is (N _ (.tail _ (.tail _ (.head _)))).1) (list_is (N _ (.tail _ (.tail _ (.tail _ (.head _))))).1) (.cons _ _ (.cons _ _ .nil)) (.cons _ _ (.cons _ _ .nil)) (sml2 r0 r1) (sml2 r2 r3) p.x p.y hx hy 0 p.ro.toNat (by omega) _ _) (fun v s2 hv => ?_) fun _ _ x => x)
  obtain ⟨t5, rfl, ha2⟩ := hv
  have I2 := I'.keeps (s' := s2) ⟨ha2.k, ha2.g, ha2.d, ha2.o⟩
  clear F N I'
  refine wpAny_storeName_local rfl I2.F.ns (fun h2 hn hs => ?_) rfl
  have F2 := I2.F.set hn hs
  have N2 := I2.N.set hs
  exact ⟨rfl, cs, t5, hk, ⟨frTail (m := ("middle", .ref m) :: p.nm) (post := (("whole", .bytes wb tw) :: ("row", .ref R) :: post : NM)) F2 rfl, N2, I2.g, I2.d, I2.o⟩⟩
end Mine
end
section
open PySem PySem.W PyProof.Rows PySem.Calls
set_option maxRecDepth 100000
set_option maxHeartbeats 2000000
namespace Mine
noncomputable abbrev Pm.ml (p : Pm) (m : Addr) (mm nn : Nat) (t : Tok) (post : NM) : NM := ("middle", .ref m) :: (p.nm ++ (("line", .str ⟨(padN mm [p.x, 32, p.y] nn).toArray⟩ t) :: post : NM))
theorem line_eq (x y : Nat) {a b : Int} {mm nn : Nat} (hm : a = mm) (hn : b = nn) : Txt.mul (Str.ofString " ") a ++ ⟨#[x, 32, y]⟩ ++ Txt.mul (Str.ofString " ") b = ⟨(padN mm [x, 32, y] nn).toArray⟩ := by
  subst hm hn
  rw [mulS blank1, mulS blank1]
  exact (congrArg (fun z : Str => z ++ ⟨(List.replicate (nn : Int).toNat 32).toArray⟩) (catL _ [x, 32, y])).trans (catL _ _)
theorem strip_all (mm nn x y : Nat) : (padN mm [x, 32, y] nn).toArray.extract (min (mm + nn + 1) mm) ((padN mm [x, 32, y] nn).toArray.size - min (mm + nn + 1 - min (mm + nn + 1) mm) ((padN mm [x, 32, y] nn).toArray.size - 1 - (mm + 2))) = [x, 32, y].toArray := by
  rw [pad_strip, show mm - (mm + nn + 1) = 0 by omega, show nn - (mm + nn + 1 - mm) = 0 by omega]
  simp [padN]
theorem seen_pad (mm nn : Nat) {x y : Nat} (hx : x ≠ 32) (hy : y ≠ 32) : (seenF (padN mm [x, 32, y] nn).toArray.toList).toArray = (List.replicate mm 98 ++ [105, 98, 105] ++ List.replicate nn 98).toArray := by
  unfold seenF padN
  simp [hx, hy]
theorem seen_eq {a b : Int} {mm nn : Nat} (hm : a = mm) (hn : b = nn) : Txt.mul (Str.ofString "b") a ++ Str.ofString "ibi" ++ Txt.mul (Str.ofString "b") b = ⟨(List.replicate mm 98 ++ [105, 98, 105] ++ List.replicate nn 98).toArray⟩ := by
  subst hm hn
  have hb : Str.ofString "b" = ⟨#[98]⟩ := by decide +kernel
  have hi : Str.ofString "ibi" = ⟨[105, 98, 105].toArray⟩ := by decide +kernel
  rw [mulS hb, mulS hb, hi]
  exact (congrArg (fun z : Str => z ++ ⟨(List.replicate (nn : Int).toNat 98).toArray⟩) (catL _ [105, 98, 105])).trans (catL _ _)
theorem body5 {w : World} {s s1 : Shared} {p : Pm} {m : Addr} {post : NM} {led : LD} {tl : Tok} {mm nn : Nat} (W : Wd w s.heap) (hm : p.la - p.lo = mm) (hn : p.ro + p.lo = nn) (hmb : mm ≤ 200) (hnb : nn ≤ 200)
    (I : At s.heap s.heap.objs.size s (p.ml m mm nn tl post) led s1) :
    wpAny (model PR w) (AA 1) (exec (SB 5) (envOfC "law" (scAt 21) s.heap.objs.size 151 (.ref 150))) (fun fl s' => Done (fl = .next ∧ At s.heap s.heap.objs.size s (p.ml m mm nn tl post) led s')) Bot s1 := by
  obtain ⟨_, _, _, T⟩ := W.t
  have X := W.k
  w_on
  refine fill_of ?_; k_fill; intro _
  show wpAny _ _ (exec (.If _ _ _ _) _) _ _ _
  have F := I.F
  have N := I.N
  walk_at "go"
  · rename (_ != _) = true => hc
    rw [line_eq p.x p.y hm hn] at hc
    simp at hc
  · rename Fr _ _ _ _ => F9
    rename News _ _ _ _ => N9
    exact ⟨rfl, F9, N9, I.g, I.d, I.o⟩
theorem body6 {w : World} {s s1 : Shared} {p : Pm} {m : Addr} {post : NM} {led : LD} {tl : Tok} {mm nn : Nat} (W : Wd w s.heap) (hx : p.x ≠ 32) (hy : p.y ≠ 32) (hm : p.la + p.ro + 1 = (mm + nn + 1 : Nat)) (hmb : mm ≤ 200) (hnb : nn ≤ 200)
    (I : At s.heap s.heap.objs.size s (p.ml m mm nn tl post) led s1) :
    wpAny (model PR w) (AA 1) (exec (SB 6) (envOfC "law" (scAt 21) s.heap.objs.size 151 (.ref 150))) (fun fl s' => Done (fl = .next ∧ At s.heap s.heap.objs.size s (p.ml m mm nn tl post) led s')) Bot s1 := by
  obtain ⟨_, _, _, T⟩ := W.t
  have X := W.k
  w_on
  refine fill_of ?_; k_fill; intro _
  show wpAny _ _ (exec (.If _ _ _ _) _) _ _ _
  have F := I.F
  have N := I.N
  walk_at "go"
  rw [hm]
  refine bot (wpAny_mono (strip_spec (A := AA 1) (s := { s1 with toks := s1.toks + 1 + 1 + 1 }) rfl (by decide) (by decide) (W.keeps F.keep) ⟨(padN mm [p.x, 32, p.y] nn).toArray⟩ (mm + nn + 1) _ _ mm (mm + 2) (pad_ends hx hy mm nn) (by show (padN mm [p.x, 32, p.y] nn).toArray.size ≤ 10000; rw [List.size_toArray, pad_len]; simp; omega)) (fun v s' hv => ?_) fun _ _ x => x)
  obtain ⟨t3, hv, haf⟩ := hv
  have hv' : v = .str ⟨[p.x, 32, p.y].toArray⟩ t3 := hv.trans (congrArg (fun z => Value.str ⟨z⟩ t3) (strip_all mm nn p.x p.y))
  subst hv'
  have I' := I.keeps (s' := s') ⟨haf.k, haf.g, haf.d, haf.o⟩
  clear F N I hv
  have F := I'.F
  have N := I'.N
  walk_at "go"
  · rename (_ != _) = true => hc
    simp at hc
  · exact ⟨rfl, F, N, I'.g, I'.d, I'.o⟩
theorem body7 {w : World} {s s1 : Shared} {p : Pm} {m : Addr} {post : NM} {led : LD} {tl : Tok} {mm nn : Nat} (W : Wd w s.heap) (hx : p.x ≠ 32) (hy : p.y ≠ 32) (hm : p.la - p.lo = mm) (hn : p.ro + p.lo = nn) (hmb : mm ≤ 200) (hnb : nn ≤ 200)
    (I : At s.heap s.heap.objs.size s (p.ml m mm nn tl post) led s1) :
    wpAny (model PR w) (AA 1) (exec (SB 7) (envOfC "law" (scAt 21) s.heap.objs.size 151 (.ref 150))) (fun fl s' => Done (fl = .next ∧ At s.heap s.heap.objs.size s (p.ml m mm nn tl post) led s')) Bot s1 := by
  obtain ⟨_, _, _, T⟩ := W.t
  have X := W.k
  w_on
  refine fill_of ?_; k_fill; intro _
  show wpAny _ _ (exec (.If _ _ _ _) _) _ _ _
  have F := I.F
  have N := I.N
  walk_at "go"
  refine bot (wpAny_mono (seen_spec (A := AA 1) rfl (by decide) (by decide) (W.keeps F.keep) ⟨(padN mm [p.x, 32, p.y] nn).toArray⟩ tl (by show (padN mm [p.x, 32, p.y] nn).toArray.size ≤ 10000; rw [List.size_toArray, pad_len]; simp; omega)) (fun v s' hv => ?_) fun _ _ x => x)
  obtain ⟨t3, hv, haf⟩ := hv
  have hv' : v = .str ⟨(List.replicate mm 98 ++ [105, 98, 105] ++ List.replicate nn 98).toArray⟩ t3 := hv.trans (congrArg (fun z => Value.str ⟨z⟩ t3) (seen_pad mm nn hx hy))
  subst hv'
  have I' := I.keeps haf
  clear F N I hv
  have F := I'.F
  have N := I'.N
  have hlen : ({ cps := (List.replicate mm 98 ++ [105, 98, 105] ++ List.replicate nn 98).toArray } : Str).length ≤ 1000 := by
    show (List.replicate mm 98 ++ [105, 98, 105] ++ List.replicate nn 98).toArray.size ≤ 1000
    simp; omega
  walk_at "go"
  · rename (_ != _) = true => hc
    rw [seen_eq hm hn] at hc
    simp at hc
  · rename Fr _ _ _ _ => F9
    rename News _ _ _ _ => N9
    exact ⟨rfl, F9, N9, I'.g, I'.d, I'.o⟩
end Mine
end
section
open PySem PySem.W
namespace Mine
/-- what is left where the marks' inside ends -/
noncomputable def stopL : List UInt8 → List UInt8
  | [] => []
  | c :: r => if c = 34 then c :: r else if c = 92 then (match r with
      | [] => [c]
      | d :: r' => if d = 10 then c :: d :: r' else stopL r') else stopL r
/-- the octets outside of the marks -/
inductive Sk : List UInt8 → List UInt8 → Prop
  | nil : Sk [] []
  | cl {r r' o} : stopL r = 34 :: r' → Sk r' o → Sk (34 :: r) o
  | op {r o} : (∀ r', stopL r ≠ 34 :: r') → Sk r o → Sk (34 :: r) (34 :: o)
  | ot {c r o} : c ≠ 34 → Sk r o → Sk (c :: r) (c :: o)
section
variable {b : Array UInt8}
theorem txt_at {p : Nat} (h : p < b.size) : (txt b)[p]?.getD 0 = (b[p]).toNat := by
  unfold txt
  rw [Array.getElem?_map, Array.getElem?_eq_getElem h]; rfl
theorem txt_size : (txt b).size = b.size := by simp [txt]
theorem drop_cons {p : Nat} (h : p < b.size) : b.toList.drop p = b[p] :: b.toList.drop (p + 1) := by
  rw [List.drop_eq_getElem_cons (by simpa using h)]; simp
theorem nat_eq (x : UInt8) (n : Nat) (h : n < 256) : x.toNat = n ↔ x = UInt8.ofNat n := by
  constructor
  · intro e; rw [← e]; simp
  · rintro rfl; simp; omega
theorem stop_is : ∀ (k p : Nat), b.size - p ≤ k → p ≤ b.size → Rx.stop (txt b) b.size k p ≤ b.size ∧ b.toList.drop (Rx.stop (txt b) b.size k p) = stopL (b.toList.drop p)
  | 0, p, hk, hp => by
    have : p = b.size := by omega
    subst this
    refine ⟨Nat.le_refl _, ?_⟩
    unfold Rx.stop
    rw [List.drop_of_length_le (by simp)]; rfl
  | k + 1, p, hk, hp => by
    by_cases hlt : p < b.size
    · rw [drop_cons hlt]
      unfold Rx.stop stopL
      have e1 : (txt b)[p]?.getD 0 = 34 ↔ b[p] = 34 := by rw [txt_at hlt]; exact nat_eq _ 34 (by decide)
      have e2 : (txt b)[p]?.getD 0 = 92 ↔ b[p] = 92 := by rw [txt_at hlt]; exact nat_eq _ 92 (by decide)
      by_cases h1 : b[p] = 34
      · have q1 := e1.mpr h1
        have q2 : ¬ (txt b)[p]?.getD 0 = 92 := by rw [q1]; decide
        rw [if_pos h1, if_neg (by rw [q1]; simp), if_neg (by rw [q1]; simp)]
        exact ⟨hp, drop_cons hlt⟩
      · have q1 : ¬ (txt b)[p]?.getD 0 = 34 := fun h => h1 (e1.mp h)
        rw [if_neg h1]
        by_cases h2 : b[p] = 92
        · have q2 := e2.mpr h2
          rw [if_pos h2, if_neg (by rw [q2]; simp)]
          by_cases hl2 : p + 1 < b.size
          · rw [drop_cons hl2]
            have e3 : (txt b)[p + 1]?.getD 0 = 10 ↔ b[p + 1] = 10 := by rw [txt_at hl2]; exact nat_eq _ 10 (by decide)
            dsimp only
            by_cases h3 : b[p + 1] = 10
            · rw [if_pos h3, if_neg (by rw [e3.mpr h3]; simp)]
              exact ⟨hp, by rw [drop_cons hlt, drop_cons hl2]⟩
            · rw [if_neg h3, if_pos ⟨hlt, q2, hl2, fun h => h3 (e3.mp h)⟩]
              exact stop_is k (p + 2) (by omega) (by omega)
          · rw [if_neg (by omega)]
            have e4 : b.toList.drop (p + 1) = [] := List.drop_of_length_le (by simp; omega)
            refine ⟨hp, ?_⟩
            rw [drop_cons hlt, e4]
        · have q2 : ¬ (txt b)[p]?.getD 0 = 92 := fun h => h2 (e2.mp h)
          rw [if_neg h2, if_pos ⟨hlt, q1, q2⟩]
          exact stop_is k (p + 1) (by omega) (by omega)
    · have : p = b.size := by omega
      subst this
      unfold Rx.stop
      rw [if_neg (by omega), if_neg (by omega)]
      exact ⟨Nat.le_refl _, by rw [List.drop_of_length_le (by simp)]; rfl⟩
theorem mAt_cl {p : Nat} {r r' : List UInt8} (hp : b.toList.drop p = 34 :: r) (h : stopL r = 34 :: r') : ∃ e, Rx.mAt (txt b) b.size p = some e ∧ b.toList.drop e = r' ∧ p < e ∧ e ≤ b.size := by
  have hlt : p < b.size := by
    rcases Nat.lt_or_ge p b.size with h | h
    · exact h
    · rw [List.drop_of_length_le (by simpa using h)] at hp; cases hp
  rw [drop_cons hlt] at hp
  obtain ⟨h1, h2⟩ := List.cons.inj hp
  have q1 : (txt b)[p]?.getD 0 = 34 := by rw [txt_at hlt, h1]; rfl
  obtain ⟨s1, s2⟩ := stop_is (b := b) b.size (p + 1) (by omega) (by omega)
  rw [h2, h] at s2
  have hsl : Rx.stop (txt b) b.size b.size (p + 1) < b.size := by
    rcases Nat.lt_or_ge (Rx.stop (txt b) b.size b.size (p + 1)) b.size with h | h
    · exact h
    · rw [List.drop_of_length_le (by simpa using h)] at s2; cases s2
  rw [drop_cons hsl] at s2
  obtain ⟨h3, h4⟩ := List.cons.inj s2
  have q3 : (txt b)[Rx.stop (txt b) b.size b.size (p + 1)]?.getD 0 = 34 := by rw [txt_at hsl, h3]; rfl
  refine ⟨_, ?_, h4, ?_, hsl⟩
  · unfold Rx.mAt
    rw [if_pos ⟨hlt, q1⟩]
    dsimp only
    rw [if_pos ⟨hsl, q3⟩]
  · have := Rx.stop_ge (txt b) b.size b.size (p + 1)
    omega
theorem mAt_no {p : Nat} {c : UInt8} {r : List UInt8} (hp : b.toList.drop p = c :: r) (h : c = 34 → ∀ r', stopL r ≠ 34 :: r') : Rx.mAt (txt b) b.size p = none := by
  have hlt : p < b.size := by
    rcases Nat.lt_or_ge p b.size with h | h
    · exact h
    · rw [List.drop_of_length_le (by simpa using h)] at hp; cases hp
  rw [drop_cons hlt] at hp
  obtain ⟨h1, h2⟩ := List.cons.inj hp
  unfold Rx.mAt
  by_cases hc : c = 34
  · have q1 : (txt b)[p]?.getD 0 = 34 := by rw [txt_at hlt, h1, hc]; rfl
    rw [if_pos ⟨hlt, q1⟩]
    dsimp only
    obtain ⟨s1, s2⟩ := stop_is (b := b) b.size (p + 1) (by omega) (by omega)
    rw [if_neg]
    rintro ⟨g1, g2⟩
    rw [txt_at g1] at g2
    have g3 := (nat_eq _ 34 (by decide)).mp g2
    rw [h2, drop_cons g1, g3] at s2
    exact h hc _ s2.symm
  · rw [if_neg]
    rintro ⟨_, g2⟩
    rw [txt_at hlt, h1] at g2
    exact hc ((nat_eq _ 34 (by decide)).mp g2)
theorem mFrom_end (k : Nat) : ∀ s, b.size ≤ s → Rx.mFrom (txt b) b.size k s = none := by
  induction k with
  | zero => intro s _; rfl
  | succ k ih =>
    intro s hs
    unfold Rx.mFrom Rx.mAt
    rw [if_neg (by omega)]
    exact ih (s + 1) (by omega)
theorem mFrom_fuel (k : Nat) : ∀ s, b.size - s ≤ k → Rx.mFrom (txt b) b.size (k + 1) s = Rx.mFrom (txt b) b.size k s := by
  induction k with
  | zero =>
    intro s hs
    rw [mFrom_end _ s (by omega), mFrom_end _ s (by omega)]
  | succ k ih =>
    intro s hs
    conv => lhs; unfold Rx.mFrom
    conv => rhs; unfold Rx.mFrom
    rw [ih (s + 1) (by omega)]
theorem ext_list {p a : Nat} : (b.extract p a).toList = (b.toList.drop p).take (a - p) := by
  rw [Array.toList_extract, List.extract_eq_take_drop]
theorem rem_skip {p : Nat} {c : UInt8} {r : List UInt8} (hp : b.toList.drop p = c :: r) (h : Rx.mAt (txt b) b.size p = none) : ∀ k, 0 < k → rem b k p = c :: rem b k (p + 1)
  | 0, hk => absurd hk (Nat.lt_irrefl _)
  | k + 1, _ => by
    have hlt : p < b.size := by
      rcases Nat.lt_or_ge p b.size with h | h
      · exact h
      · rw [List.drop_of_length_le (by simpa using h)] at hp; cases hp
    have hr : b.toList.drop (p + 1) = r := by
      rw [drop_cons hlt] at hp; exact (List.cons.inj hp).2
    have e1 : Rx.mFrom (txt b) b.size (b.size + 1) p = Rx.mFrom (txt b) b.size (b.size + 1) (p + 1) := by
      rw [mFrom_fuel b.size (p + 1) (by omega)]
      conv => lhs; unfold Rx.mFrom
      rw [h]
    unfold rem
    rw [txt_size, e1]
    cases hm : Rx.mFrom (txt b) b.size (b.size + 1) (p + 1) with
    | none =>
      dsimp only
      rw [ext_list, ext_list, hp, hr, show b.size - p = (b.size - (p + 1)) + 1 by omega, List.take_succ_cons]
    | some x =>
      obtain ⟨a, e⟩ := x
      have := (Rx.mFrom_some hm).1
      dsimp only
      rw [ext_list, ext_list, hp, hr, show a - p = (a - (p + 1)) + 1 by omega, List.take_succ_cons, List.cons_append]
theorem lt_of_drop {p : Nat} {c : UInt8} {r : List UInt8} (hp : b.toList.drop p = c :: r) : p < b.size ∧ b.toList.drop (p + 1) = r := by
  have hlt : p < b.size := by
    rcases Nat.lt_or_ge p b.size with h | h
    · exact h
    · rw [List.drop_of_length_le (by simpa using h)] at hp; cases hp
  exact ⟨hlt, by rw [drop_cons hlt] at hp; exact (List.cons.inj hp).2⟩
/-- the octets left, by the list -/
theorem rem_sk : ∀ {l o : List UInt8}, Sk l o → ∀ (p k : Nat), b.toList.drop p = l → b.size - p < k → rem b k p = o := by
  intro l o h
  induction h with
  | nil =>
    intro p k hp hk
    have hge : b.size ≤ p := by
      have := congrArg List.length hp
      simp at this; omega
    cases k with
    | zero => omega
    | succ k =>
      unfold rem
      rw [txt_size, mFrom_end _ p hge]
      simp; omega
  | @cl r r' o h1 h2 ih =>
    intro p k hp hk
    obtain ⟨e, m1, m2, m3, m4⟩ := mAt_cl hp h1
    cases k with
    | zero => omega
    | succ k =>
      unfold rem
      rw [txt_size]
      have : Rx.mFrom (txt b) b.size (b.size + 1) p = some (p, e) := by unfold Rx.mFrom; rw [m1]
      rw [this]
      dsimp only
      rw [show (b.extract p p).toList = [] by simp, List.nil_append]
      exact ih e k m2 (by omega)
  | @op r o h1 h2 ih =>
    intro p k hp hk
    obtain ⟨hl, hr⟩ := lt_of_drop hp
    rw [rem_skip hp (mAt_no hp fun _ => h1) k (by omega), ih (p + 1) k hr (by omega)]
  | @ot c r o h1 h2 ih =>
    intro p k hp hk
    obtain ⟨hl, hr⟩ := lt_of_drop hp
    rw [rem_skip hp (mAt_no hp fun h => absurd h h1) k (by omega), ih (p + 1) k hr (by omega)]
theorem pd_sk {o : List UInt8} (h : Sk b.toList o) : pd b = net o := by
  unfold pd
  rw [rem_sk h 0 (b.size + 1) rfl (by omega)]
end
theorem net_app (a b : List UInt8) : net (a ++ b) = net a + net b := by
  unfold net; simp only [List.count_append]; omega
theorem stop_ot {c : UInt8} (h1 : c ≠ 34) (h2 : c ≠ 92) (z : List UInt8) : stopL (c :: z) = stopL z := by
  conv => lhs; unfold stopL
  rw [if_neg h1, if_neg h2]
theorem stop_esc {d : UInt8} (h : d ≠ 10) (z : List UInt8) : stopL (92 :: d :: z) = stopL z := by
  conv => lhs; unfold stopL
  rw [if_neg (by decide), if_pos rfl]
  dsimp only
  rw [if_neg h]
theorem stop_quote (z : List UInt8) : stopL (34 :: z) = 34 :: z := by
  conv => lhs; unfold stopL
  rw [if_pos rfl]
theorem stop_unit (f : Int) (h0 : 0 ≤ f) (h8 : f < 8) (z : List UInt8) : stopL (unit f ++ z) = stopL z := by
  obtain ⟨k, rfl⟩ := Int.eq_ofNat_of_zero_le h0
  obtain rfl | rfl | rfl | rfl | rfl | rfl | rfl | rfl : k = 0 ∨ k = 1 ∨ k = 2 ∨ k = 3 ∨ k = 4 ∨ k = 5 ∨ k = 6 ∨ k = 7 := by omega
  · exact stop_ot (by decide) (by decide) z
  · exact stop_ot (by decide) (by decide) z
  · exact stop_esc (by decide) z
  · exact stop_esc (by decide) z
  · exact stop_esc (by decide) z
  · exact (stop_ot (by decide) (by decide) (40 :: z)).trans (stop_ot (by decide) (by decide) z)
  · exact (stop_ot (by decide) (by decide) (40 :: z)).trans (stop_ot (by decide) (by decide) z)
  · exact (stop_ot (by decide) (by decide) (41 :: z)).trans (stop_ot (by decide) (by decide) z)
theorem sk_reps {c : UInt8} (hc : c ≠ 34) {z o : List UInt8} (h : Sk z o) : ∀ n, Sk (List.replicate n c ++ z) (List.replicate n c ++ o)
  | 0 => h
  | n + 1 => .ot hc (sk_reps hc h n)
theorem sk_run (t : Int) {z o : List UInt8} (h : Sk z o) : Sk (runL t ++ z) (runL t ++ o) := by
  unfold runL
  rw [List.append_assoc, List.append_assoc]
  exact sk_reps (by decide) (sk_reps (by decide) h _) _
theorem sk_piece0 {f g a : Int} (hf : 0 ≤ f ∧ f < 8) (hg : 0 ≤ g ∧ g < 8) {z o : List UInt8} (h : Sk z o) : Sk (piece0 f g a ++ z) (92 :: (runL a ++ o)) := by
  have e : piece0 f g a ++ z = 92 :: 34 :: (unit f ++ (unit g ++ 34 :: (runL a ++ z))) := by simp [piece0]
  rw [e]
  refine .ot (by decide) (.cl (r' := runL a ++ z) ?_ (sk_run a h))
  rw [stop_unit f hf.1 hf.2, stop_unit g hg.1 hg.2, stop_quote]
theorem sk_piece1 {b h : Int} (hh : 0 ≤ h ∧ h < 8) {z o : List UInt8} (hz : Sk z o) : Sk (piece1 b h ++ z) (runL b ++ o) := by
  have e : piece1 b h ++ z = runL b ++ (34 :: (unit h ++ 34 :: z)) := by simp [piece1]
  rw [e]
  refine sk_run b (.cl (r' := z) ?_ hz)
  rw [stop_unit h hh.1 hh.2, stop_quote]
theorem net_run (t : Int) : net (runL t) = t := by
  unfold net runL
  simp only [List.count_append, List.count_replicate]
  simp
  omega
theorem net_cons (o : List UInt8) : net (92 :: o) = net o := by
  unfold net; simp [List.count_cons]
theorem sk_tail : Sk tailB.toList [92, 40, 91, 123, 34, 40, 92, 10, 34, 40, 92, 34, 40] := by
  show Sk [34, 34, 92, 40, 91, 123, 34, 40, 92, 10, 34, 41, 34, 34, 40, 92, 34, 40] _
  refine .cl (r' := [92, 40, 91, 123, 34, 40, 92, 10, 34, 41, 34, 34, 40, 92, 34, 40]) rfl ?_
  refine .ot (by decide) (.ot (by decide) (.ot (by decide) (.ot (by decide) (.op ?_ ?_))))
  · intro r' h; have h' : ([92, 10, 34, 41, 34, 34, 40, 92, 34, 40] : List UInt8) = 34 :: r' := h
    exact absurd (List.cons.inj h').1 (by decide)
  refine .ot (by decide) (.ot (by decide) (.ot (by decide) (.cl (r' := [34, 40, 92, 34, 40]) rfl ?_)))
  refine .op ?_ (.ot (by decide) (.ot (by decide) (.op ?_ (.ot (by decide) .nil))))
  · intro r' h; have h' : ([] : List UInt8) = 34 :: r' := h; cases h'
  · intro r' h; have h' : ([] : List UInt8) = 34 :: r' := h; cases h'
theorem net_tail : net [92, 40, 91, 123, 34, 40, 92, 10, 34, 40, 92, 34, 40] = 4 := by decide
end Mine
end
section
open PySem PySem.W
namespace Mine
noncomputable def tl (a b c d : Int) (ns : List Int) : List Int := ns.flatMap fun x => if x = 0 then [a, b] else [c, d]
noncomputable def rowM (m : Bool) : List Int := [0, 1, 1, 0] ++ (if m then [0, 1] else [1, 0]) ++ [0, 1, 1, 0]
theorem minD_shift (ts : List Int) : ∀ s, minD s ts = s + minD 0 ts := by
  induction ts with
  | nil => intro s; simp [minD]
  | cons t ts ih =>
    intro s
    simp only [minD]
    rw [ih (s + t), ih (0 + t)]
    omega
theorem minD_nonpos (ts : List Int) : minD 0 ts ≤ 0 := by
  cases ts with
  | nil => simp [minD]
  | cons t ts => simp only [minD]; omega
theorem sum_row (a b c d : Int) (m : Bool) : (tl a b c d (rowM m)).sum = 5 * [a, b, c, d].sum := by
  cases m <;> simp [tl, rowM] <;> omega
theorem low_le (a b c d : Int) : ∀ x ∈ lowV a b c d, lowF a b c d ≤ x := by
  intro x hx
  exact minL_le _ _ x hx
theorem low_mem (a b c d : Int) : lowF a b c d ∈ lowV a b c d := minL_mem _ _
theorem lowV_eq (a b c d : Int) : lowV a b c d = [0 * (a + b) + 0 * (c + d) + min (min 0 a) (a + b), 1 * (a + b) + 2 * (c + d) + min (min 0 a) (a + b), 3 * (a + b) + 3 * (c + d) + min (min 0 a) (a + b), 4 * (a + b) + 5 * (c + d) + min (min 0 a) (a + b),
    1 * (a + b) + 0 * (c + d) + min (min 0 c) (c + d), 1 * (a + b) + 1 * (c + d) + min (min 0 c) (c + d), 4 * (a + b) + 3 * (c + d) + min (min 0 c) (c + d), 4 * (a + b) + 4 * (c + d) + min (min 0 c) (c + d)] := rfl
theorem minD_app (us : List Int) : ∀ (ts : List Int) (s : Int), minD s (ts ++ us) = min (minD s ts) (minD (s + ts.sum) us)
  | [], s => by
    have := minD_shift us s
    have := minD_nonpos us
    simp only [List.nil_append, minD, List.sum_nil, Int.add_zero]
    omega
  | t :: ts, s => by
    simp only [List.cons_append, minD, List.sum_cons]
    rw [minD_app us ts (s + t), ← Int.min_assoc, Int.add_assoc]
theorem minD_two (a b s : Int) : minD s [a, b] = s + min (min 0 a) (a + b) := by
  simp only [minD]; omega
theorem le_low (a b c d z : Int) : z ≤ lowF a b c d ↔ (z ≤ min (min 0 a) (a + b) ∧ z ≤ (a + b) + 2 * (c + d) + min (min 0 a) (a + b) ∧ z ≤ (a + b) + min (min 0 c) (c + d) ∧ z ≤ (a + b) + (c + d) + min (min 0 c) (c + d)) ∧
    (z ≤ 3 * (a + b) + 3 * (c + d) + min (min 0 a) (a + b) ∧ z ≤ 4 * (a + b) + 5 * (c + d) + min (min 0 a) (a + b) ∧ z ≤ 4 * (a + b) + 3 * (c + d) + min (min 0 c) (c + d) ∧ z ≤ 4 * (a + b) + 4 * (c + d) + min (min 0 c) (c + d)) := by
  have e : lowF a b c d = min (min (min (min (min (min (min (0 * (a + b) + 0 * (c + d) + min (min 0 a) (a + b)) (1 * (a + b) + 2 * (c + d) + min (min 0 a) (a + b))) (3 * (a + b) + 3 * (c + d) + min (min 0 a) (a + b))) (4 * (a + b) + 5 * (c + d) + min (min 0 a) (a + b)))
    (1 * (a + b) + 0 * (c + d) + min (min 0 c) (c + d))) (1 * (a + b) + 1 * (c + d) + min (min 0 c) (c + d))) (4 * (a + b) + 3 * (c + d) + min (min 0 c) (c + d))) (4 * (a + b) + 4 * (c + d) + min (min 0 c) (c + d)) := rfl
  rw [e]
  generalize min (min 0 a) (a + b) = p
  generalize min (min 0 c) (c + d) = q
  simp only [Int.le_min, Int.zero_mul, Int.one_mul, Int.zero_add, Int.add_zero]
  constructor
  · rintro ⟨⟨⟨⟨⟨⟨⟨h1, h2⟩, h3⟩, h4⟩, h5⟩, h6⟩, h7⟩, h8⟩
    exact ⟨⟨h1, h2, h5, h6⟩, h3, h4, h7, h8⟩
  · rintro ⟨⟨h1, h2, h5, h6⟩, h3, h4, h7, h8⟩
    exact ⟨⟨⟨⟨⟨⟨⟨h1, h2⟩, h3⟩, h4⟩, h5⟩, h6⟩, h7⟩, h8⟩
theorem le_row (a b c d z : Int) (m : Bool) : z ≤ minD 0 (tl a b c d (rowM m)) ↔ z ≤ lowF a b c d := by
  have four : ∀ s, minD s (tl a b c d [0, 1, 1, 0]) = min (s + min (min 0 a) (a + b)) (min (s + (a + b) + min (min 0 c) (c + d)) (min (s + (a + b) + (c + d) + min (min 0 c) (c + d)) (s + (a + b) + (c + d) + (c + d) + min (min 0 a) (a + b)))) := by
    intro s
    show minD s ([a, b] ++ ([c, d] ++ ([c, d] ++ [a, b]))) = _
    rw [minD_app, minD_app, minD_app, minD_two, minD_two, minD_two, minD_two]
    simp only [List.sum_cons, List.sum_nil, Int.add_zero]
  have hs4 : (tl a b c d [0, 1, 1, 0]).sum = 2 * (a + b) + 2 * (c + d) := by
    show a + (b + (c + (d + (c + (d + (a + (b + 0))))))) = _
    omega
  rw [le_low]
  cases m
  · show z ≤ minD 0 (tl a b c d [0, 1, 1, 0] ++ (([c, d] ++ [a, b]) ++ tl a b c d [0, 1, 1, 0])) ↔ _
    rw [minD_app, minD_app, minD_app, minD_two, minD_two, four, four, hs4]
    generalize min (min 0 a) (a + b) = p
    generalize min (min 0 c) (c + d) = q
    simp only [Int.le_min, List.sum_cons, List.sum_nil, List.sum_append, Int.add_zero, Int.zero_add]
    constructor
    · rintro ⟨⟨h1, h2, h3, h4⟩, -, h5, h6, h7, h8⟩
      refine ⟨⟨?_, ?_, ?_, ?_⟩, ?_, ?_, ?_, ?_⟩ <;> omega
    · rintro ⟨⟨h1, h2, h3, h4⟩, h5, h6, h7, h8⟩
      refine ⟨⟨?_, ?_, ?_, ?_⟩, ⟨?_, ?_⟩, ?_, ?_, ?_, ?_⟩ <;> omega
  · show z ≤ minD 0 (tl a b c d [0, 1, 1, 0] ++ (([a, b] ++ [c, d]) ++ tl a b c d [0, 1, 1, 0])) ↔ _
    rw [minD_app, minD_app, minD_app, minD_two, minD_two, four, four, hs4]
    generalize min (min 0 a) (a + b) = p
    generalize min (min 0 c) (c + d) = q
    simp only [Int.le_min, List.sum_cons, List.sum_nil, List.sum_append, Int.add_zero, Int.zero_add]
    constructor
    · rintro ⟨⟨h1, h2, h3, h4⟩, -, h5, h6, h7, h8⟩
      refine ⟨⟨?_, ?_, ?_, ?_⟩, ?_, ?_, ?_, ?_⟩ <;> omega
    · rintro ⟨⟨h1, h2, h3, h4⟩, h5, h6, h7, h8⟩
      refine ⟨⟨?_, ?_, ?_, ?_⟩, ⟨?_, ?_⟩, ?_, ?_, ?_, ?_⟩ <;> omega
theorem low_row (a b c d : Int) (m : Bool) : minD 0 (tl a b c d (rowM m)) = lowF a b c d :=
  Int.le_antisymm ((le_row a b c d _ m).mp (Int.le_refl _)) ((le_row a b c d _ m).mpr (Int.le_refl _))
theorem negs_cons (x : Int) (l : List Int) : (negs (x :: l)).sum = max (-x) 0 + (negs l).sum := by
  unfold negs
  by_cases h : x < 0
  · rw [List.filter_cons_of_pos (by simpa using h), List.map_cons, List.sum_cons, Int.max_eq_left (by omega)]
  · rw [List.filter_cons_of_neg (by simpa using h), Int.max_eq_right (by omega), Int.zero_add]
theorem negs_sum (a b c d : Int) : (negs [a, b, c, d]).sum = max (-a) 0 + (max (-b) 0 + (max (-c) 0 + max (-d) 0)) := by
  rw [negs_cons, negs_cons, negs_cons, negs_cons]
  show _ + (_ + (_ + (_ + 0))) = _
  rw [Int.add_zero]
theorem low_room (a b c d : Int) : 0 ≤ 5 * (negs [a, b, c, d]).sum + lowF a b c d := by
  have key : -(5 * (negs [a, b, c, d]).sum) ≤ lowF a b c d := by
    rw [negs_sum, le_low]
    have hp : -(max (-a) 0 + max (-b) 0) ≤ min (min 0 a) (a + b) := by omega
    have hq : -(max (-c) 0 + max (-d) 0) ≤ min (min 0 c) (c + d) := by omega
    have hx : -(max (-a) 0 + max (-b) 0) ≤ a + b := by omega
    have hy : -(max (-c) 0 + max (-d) 0) ≤ c + d := by omega
    have a0 : 0 ≤ max (-a) 0 + max (-b) 0 := by omega
    have c0 : 0 ≤ max (-c) 0 + max (-d) 0 := by omega
    have e : max (-a) 0 + (max (-b) 0 + (max (-c) 0 + max (-d) 0)) = (max (-a) 0 + max (-b) 0) + (max (-c) 0 + max (-d) 0) := by omega
    rw [e]
    generalize max (-a) 0 + max (-b) 0 = na at *
    generalize max (-c) 0 + max (-d) 0 = nc at *
    generalize min (min 0 a) (a + b) = p at *
    generalize min (min 0 c) (c + d) = q at *
    generalize a + b = x at *
    generalize c + d = y at *
    clear e
    refine ⟨⟨?_, ?_, ?_, ?_⟩, ?_, ?_, ?_, ?_⟩ <;> omega
  omega
theorem low_last (a b c d : Int) : lowF a b c d ≤ 5 * [a, b, c, d].sum := by
  rw [← low_row a b c d true, ← sum_row a b c d true]
  have := minD_le (tl a b c d (rowM true)) 0 (0 + (tl a b c d (rowM true)).sum) (by simp)
  omega
theorem min_step {m t G : Int} (h : 0 ≤ m) : min 0 (m + min 0 (t + G)) = min 0 (m + t + G) := by omega
/-- the line along the steps -/
theorem fold_line : ∀ (ts : List Int) (m n : Nat), 0 ≤ (n : Int) + min 0 (m + minD 0 ts) → (((ts.foldl lstep (m, n)).1 : Int) = m + ts.sum - min 0 (m + minD 0 ts)) ∧ (((ts.foldl lstep (m, n)).2 : Int) = n + min 0 (m + minD 0 ts))
  | [], m, n, _ => by
    have e : min 0 ((m : Int) + minD 0 []) = 0 := Int.min_eq_left (by simp [minD])
    rw [e]; simp
  | t :: ts, m, n, h => by
    have hM := minD_nonpos ts
    have e : minD 0 (t :: ts) = min 0 (t + minD 0 ts) := by
      show min 0 (minD (0 + t) ts) = _
      rw [minD_shift ts (0 + t), Int.zero_add]
    rw [e, min_step (Int.natCast_nonneg m)] at h ⊢
    rw [List.foldl_cons, List.sum_cons]
    by_cases hm : 0 ≤ (m : Int) + t
    · obtain ⟨m1, hm1⟩ := Int.eq_ofNat_of_zero_le hm
      have hl : lstep (m, n) t = (m1, n) := by
        by_cases ht : t > 0
        · simp only [lstep, if_pos ht, Prod.mk.injEq, and_true]; omega
        · simp only [lstep, if_neg ht, Prod.mk.injEq]; omega
      rw [hm1] at h ⊢
      rw [hl]
      obtain ⟨i1, i2⟩ := fold_line ts m1 n h
      exact ⟨by rw [i1, ← hm1]; generalize min 0 ((m : Int) + t + minD 0 ts) = q; omega, i2⟩
    · have e2 : min 0 ((m : Int) + t + minD 0 ts) = m + t + minD 0 ts := Int.min_eq_right (by omega)
      have e3 : min 0 (((0 : Nat) : Int) + minD 0 ts) = minD 0 ts := by
        rw [Int.min_eq_right (by simpa using hM)]; simp
      rw [e2] at h ⊢
      obtain ⟨n1, hn1⟩ := Int.eq_ofNat_of_zero_le (show 0 ≤ (n : Int) + (m + t) by omega)
      have hl : lstep (m, n) t = (0, n1) := by
        simp only [lstep, if_neg (show ¬ t > 0 by omega), Prod.mk.injEq]; omega
      rw [hl]
      obtain ⟨i1, i2⟩ := fold_line ts 0 n1 (by rw [e3, ← hn1]; omega)
      rw [e3] at i1 i2
      rw [i1, i2]
      exact ⟨by omega, by omega⟩
theorem line_fold (a b c d : Int) : ∀ (cs : List Nat) (s : Nat × Nat), lineF [a, b] [c, d] s cs = (tl a b c d (cs.filterMap kind)).foldl lstep s
  | [], s => rfl
  | x :: cs, s => by
    unfold lineF
    rw [List.foldl_cons]
    have ih := line_fold a b c d cs ((stepsOf [a, b] [c, d] x).foldl lstep s)
    unfold lineF at ih
    rw [ih, List.filterMap_cons]
    unfold kind stepsOf
    by_cases h7 : in7 x = true
    · rw [if_pos h7, if_pos h7]
      simp [tl]
    · rw [if_neg h7, if_neg h7]
      by_cases h8 : in8 x = true
      · rw [if_pos h8, if_pos h8]
        simp [tl]
      · rw [if_neg h8, if_neg h8]
        simp
end Mine
end
section
open PySem PySem.W
namespace Mine
noncomputable def two (f g h a b : Int) : Two := ((piece0 f g a).toArray, (piece1 b h).toArray)
noncomputable def Oct (f : Int) : Prop := 0 ≤ f ∧ f < 8
theorem pd_two {f g h a b : Int} (hf : Oct f) (hg : Oct g) (hh : Oct h) : pd (two f g h a b).1 = a ∧ pd (two f g h a b).2 = b := by
  constructor
  · have := sk_piece0 (a := a) hf hg (z := []) (o := []) .nil
    rw [List.append_nil, List.append_nil] at this
    rw [pd_sk (b := (two f g h a b).1) (o := 92 :: runL a) this, net_cons, net_run]
  · have := sk_piece1 (b := b) hh (z := []) (o := []) .nil
    rw [List.append_nil, List.append_nil] at this
    rw [pd_sk (b := (two f g h a b).2) (o := runL b) this, net_run]
theorem two_len {f g h a b : Int} (ha : -3 ≤ a ∧ a ≤ 3) (hb : -3 ≤ b ∧ b ≤ 3) : (two f g h a b).1.size ≤ 13 ∧ (two f g h a b).2.size ≤ 10 := by
  have h1 := unit_len f
  have h2 := unit_len g
  have h3 := unit_len h
  have h4 := runL_len ha
  have h5 := runL_len hb
  simp only [two, List.size_toArray, piece0, piece1, List.length_append, List.length_cons, List.length_nil]
  omega
theorem sk_two {f g h a b : Int} (hf : Oct f) (hg : Oct g) (hh : Oct h) {z o : List UInt8} (hz : Sk z o) : ∃ o', Sk ((two f g h a b).1.toList ++ ((two f g h a b).2.toList ++ z)) o' ∧ net o' = a + (b + net o) := by
  refine ⟨_, sk_piece0 (a := a) hf hg (sk_piece1 (b := b) hh hz), ?_⟩
  rw [net_cons, net_app, net_run, net_app, net_run]
section
variable {f g h f' g' h' a b c d : Int} (hf : Oct f) (hg : Oct g) (hh : Oct h) (hf' : Oct f') (hg' : Oct g') (hh' : Oct h')
include hf hg hh hf' hg' hh'
theorem tells_tl (ns : List Int) : tells (two f g h a b) (two f' g' h' c d) ns = tl a b c d ns := by
  unfold tells tl
  congr 1
  funext x
  unfold pick
  split
  · rw [(pd_two hf hg hh).1, (pd_two hf hg hh).2]
  · rw [(pd_two hf' hg' hh').1, (pd_two hf' hg' hh').2]
theorem whole_sk {z o : List UInt8} (hz : Sk z o) : ∀ ns : List Int, ∃ o', Sk ((wholeL (two f g h a b) (two f' g' h' c d) ns).flatten ++ z) o' ∧ net o' = (tl a b c d ns).sum + net o
  | [] => ⟨o, hz, by simp [tl]⟩
  | x :: ns => by
    obtain ⟨o1, h1, e1⟩ := whole_sk hz ns
    by_cases hx : x = 0
    · obtain ⟨o2, h2, e2⟩ := sk_two (a := a) (b := b) hf hg hh h1
      refine ⟨o2, ?_, ?_⟩
      · have e : (wholeL (two f g h a b) (two f' g' h' c d) (x :: ns)).flatten ++ z = (two f g h a b).1.toList ++ ((two f g h a b).2.toList ++ ((wholeL (two f g h a b) (two f' g' h' c d) ns).flatten ++ z)) := by
          simp [wholeL, pick, hx]
        rw [e]; exact h2
      · rw [e2, e1]
        simp [tl, hx]; omega
    · obtain ⟨o2, h2, e2⟩ := sk_two (a := c) (b := d) hf' hg' hh' h1
      refine ⟨o2, ?_, ?_⟩
      · have e : (wholeL (two f g h a b) (two f' g' h' c d) (x :: ns)).flatten ++ z = (two f' g' h' c d).1.toList ++ ((two f' g' h' c d).2.toList ++ ((wholeL (two f g h a b) (two f' g' h' c d) ns).flatten ++ z)) := by
          simp [wholeL, pick, hx]
        rw [e]; exact h2
      · rw [e2, e1]
        simp [tl, hx]; omega
theorem pd_whole {wb : Array UInt8} {ns : List Int} (hw : wb.toList = (wholeL (two f g h a b) (two f' g' h' c d) ns).flatten) : pd wb = (tl a b c d ns).sum ∧ pd (wb ++ tailB) = (tl a b c d ns).sum + 4 := by
  constructor
  · obtain ⟨o', h1, e1⟩ := whole_sk (a := a) (b := b) (c := c) (d := d) hf hg hh hf' hg' hh' .nil ns
    rw [List.append_nil, ← hw] at h1
    rw [pd_sk h1, e1]
    simp [net]
  · obtain ⟨o', h1, e1⟩ := whole_sk (a := a) (b := b) (c := c) (d := d) hf hg hh hf' hg' hh' sk_tail ns
    rw [← hw] at h1
    rw [pd_sk (b := wb ++ tailB) (o := o') (by rw [Array.toList_append]; exact h1), e1, net_tail]
end
theorem pick_len {f g h f' g' h' a b c d : Int} (ha : -3 ≤ a ∧ a ≤ 3) (hb : -3 ≤ b ∧ b ≤ 3) (hc : -3 ≤ c ∧ c ≤ 3) (hd : -3 ≤ d ∧ d ≤ 3) (x : Int) : (pick (two f g h a b) (two f' g' h' c d) x).1.size ≤ 13 ∧ (pick (two f g h a b) (two f' g' h' c d) x).2.size ≤ 10 := by
  unfold pick
  split
  · exact two_len ha hb
  · exact two_len hc hd
theorem whole_len {f g h f' g' h' a b c d : Int} (ha : -3 ≤ a ∧ a ≤ 3) (hb : -3 ≤ b ∧ b ≤ 3) (hc : -3 ≤ c ∧ c ≤ 3) (hd : -3 ≤ d ∧ d ≤ 3) : ∀ ns : List Int, (wholeL (two f g h a b) (two f' g' h' c d) ns).flatten.length ≤ 23 * ns.length
  | [] => by simp [wholeL]
  | x :: ns => by
    have ih := whole_len (f := f) (g := g) (h := h) (f' := f') (g' := g') (h' := h') ha hb hc hd ns
    have hp := pick_len (f := f) (g := g) (h := h) (f' := f') (g' := g') (h' := h') ha hb hc hd x
    have e : (wholeL (two f g h a b) (two f' g' h' c d) (x :: ns)).flatten = (pick (two f g h a b) (two f' g' h' c d) x).1.toList ++ ((pick (two f g h a b) (two f' g' h' c d) x).2.toList ++ (wholeL (two f g h a b) (two f' g' h' c d) ns).flatten) := by
      simp [wholeL]
    rw [e, List.length_append, List.length_append, Array.length_toList, Array.length_toList, List.length_cons]
    omega
end Mine
end
section
open PySem PySem.W PyProof.Rows PySem.Calls
set_option maxRecDepth 100000
set_option maxHeartbeats 2000000
namespace Mine
noncomputable def forBody : List Stmt := match ST 12 with
  | .For _ _ b _ _ => b
  | _ => []
/-- what is known of the steps and of the numbers -/
structure Kn (p : Pm) (x0 x1 x2 x3 f g h f' g' h' e : Int) : Prop where
  r0 : -3 ≤ x0 ∧ x0 ≤ 3
  r1 : -3 ≤ x1 ∧ x1 ≤ 3
  r2 : -3 ≤ x2 ∧ x2 ≤ 3
  r3 : -3 ≤ x3 ∧ x3 ≤ 3
  of : Oct f
  og : Oct g
  oh : Oct h
  of' : Oct f'
  og' : Oct g'
  oh' : Oct h'
  la : p.la = 5 * [x0, x1, x2, x3].sum
  lo : p.lo = lowF x0 x1 x2 x3
  ro : p.ro = 5 * (negs [x0, x1, x2, x3]).sum + e
  e0 : 0 ≤ e
  e3 : e < 3
  a : 0 ≤ p.a ∧ p.a < 12
  b : 0 ≤ p.b ∧ p.b < 15
  c : 0 ≤ p.c ∧ p.c < 1024
  x : p.x ≠ 32
  y : p.y ≠ 32
theorem body_all {w : World} {s s1 : Shared} {p : Pm} {m P d0 d1 : Addr} {post : NM} {led lp : LD} {o1 : Obj} {x0 x1 x2 x3 f g h f' g' h' e y0 y1 : Int} {mb : Bool} {t0 t1 u0 u1 u2 u3 : Tok} {k k0 k1 k2 : Nat} (W : Wd w s.heap) (H : Kn p x0 x1 x2 x3 f g h f' g' h' e) (hns : [0, 1, 1, 0, y0, y1, 0, 1, 1, 0] = rowM mb)
    (e1 : o1.data = .cell (some (.ref P))) (hlp : PcsL P (two f g h x0 x1) (two f' g' h' x2 x3) lp)
    (mm : (m, PySem.W.listOf #[.int y0 t0, .int y1 t1] k) ∈ led) (mc : (s.heap.objs.size + 1, o1) ∈ led) (ml : ∀ q ∈ lp, q ∈ led)
    (mt : (p.D, PySem.W.listOf #[.ref d0, .ref d1] k0) ∈ led) (md0 : (d0, PySem.W.listOf #[.int x0 u0, .int x1 u1] k1) ∈ led) (md1 : (d1, PySem.W.listOf #[.int x2 u2, .int x3 u3] k2) ∈ led)
    (I : At s.heap s.heap.objs.size s (p.mm m post) led s1) :
    wpAny (model PR w) (AA 1) (execs forBody (envOfC "law" (scAt 21) s.heap.objs.size 151 (.ref 150))) (fun fl s' => Done (fl = .next ∧ ∃ post', At s.heap s.heap.objs.size s (p.mm m post') led s')) Bot s1 := by
  have hpk := pick_len (f := f) (g := g) (h := h) (f' := f') (g' := g') (h' := h') H.r0 H.r1 H.r2 H.r3
  have hwl := whole_len (f := f) (g := g) (h := h) (f' := f') (g' := g') (h' := h') H.r0 H.r1 H.r2 H.r3 (rowM mb)
  have hn10 : (rowM mb).length = 10 := by cases mb <;> rfl
  have h01 : ∀ x ∈ rowM mb, x = 0 ∨ x = 1 := by cases mb <;> decide
  have htl : tells (two f g h x0 x1) (two f' g' h' x2 x3) (rowM mb) = tl x0 x1 x2 x3 (rowM mb) := tells_tl H.of H.og H.oh H.of' H.og' H.oh' _
  have hsum : (tl x0 x1 x2 x3 (rowM mb)).sum = p.la := by rw [H.la, sum_row]
  have hmin : minD 0 (tl x0 x1 x2 x3 (rowM mb)) = p.lo := by rw [H.lo, low_row]
  show wpAny _ _ (execs (_ :: _) _) _ _ _
  refine seq _ (body0 (rest := led) W (I.sub (fun q hq => by rcases List.mem_cons.mp hq with e' | hq; exact e' ▸ mm; exact hq))) ?_
  clear I
  rintro s2 ⟨R, vs, k', hvs, I⟩
  rw [hns] at hvs
  replace I := I.sub (led' := (s.heap.objs.size + 1, o1) :: (R, PySem.W.listOf vs.toArray k') :: (lp ++ led)) (fun q hq => by
    rcases List.mem_cons.mp hq with e' | hq
    · exact e' ▸ .tail _ (.tail _ mc)
    · rcases List.mem_cons.mp hq with e' | hq
      · exact e' ▸ .head _
      · rcases List.mem_append.mp hq with hq | hq
        · exact .tail _ (.tail _ (ml q hq))
        · exact .tail _ (.tail _ hq))
  show wpAny _ _ (execs (_ :: _) _) _ _ _
  refine seq _ (body1 (rest := led) (lp := lp) (P := P) (k := k') (ns := rowM mb) W e1 hlp (fun x => ⟨Nat.le_trans (hpk x).1 (by decide), Nat.le_trans (hpk x).2 (by decide)⟩) hvs hn10 h01 (by rw [htl, minD_shift, hmin]) (by rw [htl, hsum]) I) ?_
  clear I
  intro s3 I
  show wpAny _ _ (execs (_ :: _) _) _ _ _
  refine seq _ (body2 (rest := led) (lp := lp) (P := P) (k := k') (ns := rowM mb) W e1 hlp hvs hn10 h01 (by rw [hn10] at hwl; omega) I) ?_
  clear I
  rintro s4 ⟨wb, tw, hwb, I⟩
  have hpd := pd_whole H.of H.og H.oh H.of' H.og' H.oh' hwb
  rw [hsum] at hpd
  have hwz : wb.size ≤ 1000 := by
    rw [← Array.length_toList, hwb]; rw [hn10] at hwl; omega
  show wpAny _ _ (execs (_ :: _) _) _ _ _
  refine seq _ (body3 W hwz hpd.1 hpd.2 I) ?_
  clear I
  intro s5 I
  replace I := I.sub (led' := [(R, PySem.W.listOf vs.toArray k'), (p.D, PySem.W.listOf #[.ref d0, .ref d1] k0), (d0, PySem.W.listOf #[.int x0 u0, .int x1 u1] k1), (d1, PySem.W.listOf #[.int x2 u2, .int x3 u3] k2)] ++ led) (fun q hq => by
    have big : ∀ q ∈ led, q ∈ (s.heap.objs.size + 1, o1) :: (R, PySem.W.listOf vs.toArray k') :: (lp ++ led) := fun q hq => .tail _ (.tail _ (List.mem_append_right _ hq))
    rcases List.mem_cons.mp hq with e' | hq
    · exact e' ▸ .tail _ (.head _)
    · rcases List.mem_cons.mp hq with e' | hq
      · exact e' ▸ big _ mt
      · rcases List.mem_cons.mp hq with e' | hq
        · exact e' ▸ big _ md0
        · rcases List.mem_cons.mp hq with e' | hq
          · exact e' ▸ big _ md1
          · exact big _ hq)
  have hneg := low_room x0 x1 x2 x3
  have hnn : 0 ≤ (negs [x0, x1, x2, x3]).sum ∧ (negs [x0, x1, x2, x3]).sum ≤ 12 := by
    have := H.r0; have := H.r1; have := H.r2; have := H.r3
    rw [negs_sum]; omega
  have hro := H.ro
  have hro0 : 0 ≤ p.ro ∧ p.ro ≤ 100 := by have := H.e0; have := H.e3; omega
  show wpAny _ _ (execs (_ :: _) _) _ _ _
  refine seq _ (body4 (rest := led) (ns := rowM mb) W H.x H.y hro0 H.a H.b H.c hvs hn10 h01 H.r0 H.r1 H.r2 H.r3 I) ?_
  clear I
  rintro s6 ⟨cs, tl', hcs, I⟩
  rw [line_fold, hcs] at I
  have hlo0 : p.lo ≤ 0 := by rw [← hmin]; exact minD_nonpos _
  have hlala : p.lo ≤ p.la := by rw [H.lo, H.la]; exact low_last x0 x1 x2 x3
  have hlor : 0 ≤ p.ro + p.lo := by rw [H.lo, H.ro]; have := H.e0; omega
  obtain ⟨f1, f2⟩ := fold_line (tl x0 x1 x2 x3 (rowM mb)) 0 p.ro.toNat (by rw [hmin]; omega)
  rw [hmin, hsum] at f1
  rw [hmin] at f2
  generalize (List.foldl lstep (0, p.ro.toNat) (tl x0 x1 x2 x3 (rowM mb))).1 = qm at *
  generalize (List.foldl lstep (0, p.ro.toNat) (tl x0 x1 x2 x3 (rowM mb))).2 = qn at *
  have hla60 : p.la ≤ 60 := by
    have := H.r0; have := H.r1; have := H.r2; have := H.r3
    rw [H.la]; simp only [List.sum_cons, List.sum_nil]; omega
  have g1 : p.la - p.lo = qm := by omega
  have g2 : p.ro + p.lo = qn := by omega
  have g3 : p.la + p.ro + 1 = (qm + qn + 1 : Nat) := by omega
  have b1 : qm ≤ 200 := by omega
  have b2 : qn ≤ 200 := by omega
  show wpAny _ _ (execs (_ :: _) _) _ _ _
  refine seq _ (body5 W g1 g2 b1 b2 I) ?_
  clear I
  intro s7 I
  show wpAny _ _ (execs (_ :: _) _) _ _ _
  refine seq _ (body6 W H.x H.y g3 b1 b2 I) ?_
  clear I
  intro s8 I
  show wpAny _ _ (execs (_ :: _) _) _ _ _
  refine seq _ (body7 W H.x H.y g1 g2 b1 b2 I) ?_
  clear I
  intro s9 I
  exact wpAny_execs_nil ⟨rfl, _, I.sub (fun q hq => List.mem_append_right _ hq)⟩
end Mine
end
section
open PySem PySem.W PyProof.Rows PySem.Calls
set_option maxRecDepth 100000
set_option maxHeartbeats 2000000
namespace Mine
theorem loop_fin {w : World} {s S : Shared} {p : Pm} {P d0 d1 mL ma mb : Addr} {led lp : LD} {o1 : Obj} {x0 x1 x2 x3 f g h f' g' h' e : Int} {u0 u1 u2 u3 a0 a1 a2 a3 : Tok} {k0 k1 k2 kL ka kb : Nat} (W : Wd w s.heap) (H : Kn p x0 x1 x2 x3 f g h f' g' h' e)
    (e1 : o1.data = .cell (some (.ref P))) (hlp : PcsL P (two f g h x0 x1) (two f' g' h' x2 x3) lp)
    (mc : (s.heap.objs.size + 1, o1) ∈ led) (ml : ∀ q ∈ lp, q ∈ led)
    (mt : (p.D, PySem.W.listOf #[.ref d0, .ref d1] k0) ∈ led) (md0 : (d0, PySem.W.listOf #[.int x0 u0, .int x1 u1] k1) ∈ led) (md1 : (d1, PySem.W.listOf #[.int x2 u2, .int x3 u3] k2) ∈ led)
    (F : Fr s.heap s.heap.objs.size S.heap (fun y => List.lookup y p.nm)) (N : News s.heap s.heap.objs.size S.heap ((mL, PySem.W.listOf #[.ref ma, .ref mb] kL) :: (mb, PySem.W.listOf #[.int 1 a2, .int 0 a3] kb) :: (ma, PySem.W.listOf #[.int 0 a0, .int 1 a1] ka) :: led))
    (hg : S.gens = s.gens) (hd : S.drawn = s.drawn) (ho : S.os = s.os) :
    Done (∃ (n : Nat) (Pv : Nat → Value → Prop) (fix : LD) (e₀ post : NM), e₀.lookup (Str.ofString "middle") = none ∧ wpAny (model PR w) (AA 1) (pyIter (.ref mL)) (ItAt w (AA 1) s.heap (envOfC "law" (scAt 21) s.heap.objs.size 151 (.ref 150)).locals s (e₀ ++ post) fix [] n Pv) Bot S ∧
      (∀ i v own post s₁, i < n → Pv i v → At s.heap (envOfC "law" (scAt 21) s.heap.objs.size 151 (.ref 150)).locals s ((Str.ofString "middle", v) :: (e₀ ++ post)) (fix ++ own) s₁ →
        wpAny (model PR w) (AA 1) (execs forBody (envOfC "law" (scAt 21) s.heap.objs.size 151 (.ref 150))) (fun fl s' => Done (fl = .next ∧ ∃ u post', At s.heap (envOfC "law" (scAt 21) s.heap.objs.size 151 (.ref 150)).locals s ((Str.ofString "middle", u) :: (e₀ ++ post')) (fix ++ own) s')) Bot s₁) ∧
      (∀ post' s', At s.heap (envOfC "law" (scAt 21) s.heap.objs.size 151 (.ref 150)).locals s (e₀ ++ post') fix s' → Done (Flow.next = .next ∧ ∃ post', At s.heap s.heap.objs.size s (p.nm ++ post') led s'))) := by
  have zL := N _ (.head _)
  have za := N _ (.tail _ (.tail _ (.head _)))
  refine ⟨2, fun i v => (#[.ref ma, .ref mb] : Array Value)[i]? = some v, _, p.nm, [], rfl, itList rfl ⟨by rw [List.append_nil]; exact F, N, hg, hd, ho⟩ (list_is zL.1) zL.2.1 (by simp) (by simp), ?_, ?_⟩
  · intro i v own post s₁ hi hv I
    have big : ∀ q ∈ led, q ∈ (mL, PySem.W.listOf #[.ref ma, .ref mb] kL) :: (mb, PySem.W.listOf #[.int 1 a2, .int 0 a3] kb) :: (ma, PySem.W.listOf #[.int 0 a0, .int 1 a1] ka) :: led ++ own := fun q hq => .tail _ (.tail _ (.tail _ (List.mem_append_left _ hq)))
    obtain rfl | rfl : i = 0 ∨ i = 1 := by omega
    · obtain rfl : Value.ref ma = v := Option.some.inj hv
      refine wpAny_mono (body_all (mb := true) (y0 := 0) (y1 := 1) W H rfl e1 hlp (.tail _ (.tail _ (.head _))) (big _ mc) (fun q hq => big _ (ml q hq)) (big _ mt) (big _ md0) (big _ md1) I) (fun fl s' hz => ?_) fun _ _ x => x
      obtain ⟨z, post', I'⟩ := hz
      exact ⟨z, _, post', I'⟩
    · obtain rfl : Value.ref mb = v := Option.some.inj hv
      refine wpAny_mono (body_all (mb := false) (y0 := 1) (y1 := 0) W H rfl e1 hlp (.tail _ (.head _)) (big _ mc) (fun q hq => big _ (ml q hq)) (big _ mt) (big _ md0) (big _ md1) I) (fun fl s' hz => ?_) fun _ _ x => x
      obtain ⟨z, post', I'⟩ := hz
      exact ⟨z, _, post', I'⟩
  · intro post' s' I
    exact ⟨rfl, post', I.sub fun q hq => .tail _ (.tail _ (.tail _ hq))⟩
theorem law_a13 {w : World} {s s1 : Shared} {p : Pm} {P d0 d1 : Addr} {led lp : LD} {o1 : Obj} {x0 x1 x2 x3 f g h f' g' h' e : Int} {u0 u1 u2 u3 : Tok} {k0 k1 k2 : Nat} (W : Wd w s.heap) (H : Kn p x0 x1 x2 x3 f g h f' g' h' e)
    (e1 : o1.data = .cell (some (.ref P))) (hlp : PcsL P (two f g h x0 x1) (two f' g' h' x2 x3) lp)
    (mc : (s.heap.objs.size + 1, o1) ∈ led) (ml : ∀ q ∈ lp, q ∈ led)
    (mt : (p.D, PySem.W.listOf #[.ref d0, .ref d1] k0) ∈ led) (md0 : (d0, PySem.W.listOf #[.int x0 u0, .int x1 u1] k1) ∈ led) (md1 : (d1, PySem.W.listOf #[.int x2 u2, .int x3 u3] k2) ∈ led)
    (I : At s.heap s.heap.objs.size s p.nm led s1) :
    wpAny (model PR w) (AA 1) (exec (ST 12) (envOfC "law" (scAt 21) s.heap.objs.size 151 (.ref 150))) (fun fl s' => Done (fl = .next ∧ ∃ post', At s.heap s.heap.objs.size s (p.nm ++ post') led s')) Bot s1 := by
  obtain ⟨_, _, _, T⟩ := W.t
  have X := W.k
  w_on
  refine fill_of ?_; k_fill; intro _
  show wpAny _ _ (exec (.For (.Name _ _) _ _ [] _) _) _ _ _
  with_reducible refine for_late (s₀ := s) (g := s.heap) ?_ ?_ ?_ ?_
  · rfl
  · rfl
  · have F := I.F
    have N := I.N
    walk_at "go"
    rename Fr _ _ _ _ => F9
    rename News _ _ _ _ => N9
    exact loop_fin W H e1 hlp mc ml mt md0 md1 F9 N9 I.g I.d I.o
  · intro x; rfl
theorem law_a14 {w : World} {s s1 : Shared} {p : Pm} {post : NM} {led : LD} (W : Wd w s.heap) (I : At s.heap s.heap.objs.size s (p.nm ++ post) led s1) :
    wpAny (model PR w) (AA 1) (execs ((bodyAt 21).drop 13) (envOfC "law" (scAt 21) s.heap.objs.size 151 (.ref 150))) (fun fl s' => Done ((match fl with | .ret v => v | _ => Value.none) = .bool true ∧ After s s')) Bot s1 := by
  obtain ⟨_, _, _, T⟩ := W.t
  have X := W.k
  w_on
  refine fill_of ?_; k_fill; intro _
  show wpAny _ _ (execs [_] _) _ _ _
  have F := I.F
  have N := I.N
  walk_at "go"
  exact ⟨rfl, ⟨F.keep, I.g, I.d, I.o⟩⟩
end Mine
end
section
open PySem PySem.W PyProof.Rows PySem.Calls
set_option maxRecDepth 100000
set_option maxHeartbeats 2000000
namespace Mine
theorem four_list {α : Type} {l : List α} (h : l.length = 4) : ∃ a b c d, l = [a, b, c, d] := by
  match l, h with
  | [a, b, c, d], _ => exact ⟨a, b, c, d, rfl⟩
theorem six_list {α : Type} {l : List α} (h : l.length = 6) : ∃ a b c d e f, l = [a, b, c, d, e, f] := by
  match l, h with
  | [a, b, c, d, e, f], _ => exact ⟨a, b, c, d, e, f, rfl⟩
theorem two_list {α : Type} {ps : List α} (hps : ps.length = 2) : ∃ x y, ps = [x, y] := by
  obtain ⟨x, r, e⟩ := List.exists_cons_of_length_eq_add_one hps
  have hr : r.length = 1 := by rw [e, List.length_cons] at hps; omega
  obtain ⟨y, r', e'⟩ := List.exists_cons_of_length_eq_add_one hr
  have hr' : r' = [] := List.length_eq_zero_iff.mp (by rw [e', List.length_cons] at hr; omega)
  exact ⟨x, y, by rw [e, e', hr']⟩
theorem pieces_two (x0 x1 x2 x3 f g h f' g' h' : Int) : pieceAt [x0, x1, x2, x3] [f, g, h, f', g', h'] 0 = two f g h x0 x1 ∧ pieceAt [x0, x1, x2, x3] [f, g, h, f', g', h'] 1 = two f' g' h' x2 x3 := ⟨rfl, rfl⟩
theorem law_main {w : World} {s S : Shared} {l : Addr} {items : Array Value} {ns : List Int} {o1 : Obj} (W : Wd w s.heap) (hl : s.heap.IsList l items) (hi : IntsAre items.toList ns) (hn : items.size ≤ 1000) (e1 : o1.data = .cell none)
    (I : At s.heap s.heap.objs.size s [("script", .ref l)] [(s.heap.objs.size + 1, o1)] S) :
    wpAny (model PR w) (AA 1) (execs (bodyAt 21) (envOfC "law" (scAt 21) s.heap.objs.size 151 (.ref 150))) (fun fl s' => Done ((match fl with | .ret v => v | _ => Value.none) = .bool true ∧ After s s')) Bot S := by
  show wpAny _ _ (execs (_ :: _) _) _ _ _
  refine seq _ (law_a1 W hl hi hn I) ?_
  clear I
  rintro s1 ⟨r, c0, c1, c2, c3, t0, t1, t2, t3, k, I⟩
  show wpAny _ _ (execs (_ :: _) _) _ _ _
  refine seq _ (law_a2 W I) ?_
  clear I
  rintro s2 ⟨S', vs, k', hvs, I⟩
  show wpAny _ _ (execs (_ :: _) _) _ _ _
  refine seq _ (law_a3 W e1 hvs I) ?_
  clear I e1
  rintro s3 ⟨P, lp, o2, e1, hlp, I⟩
  obtain ⟨x0, x1, x2, x3, hst⟩ := four_list (steps_len c0)
  obtain ⟨f, g, h, f', g', h', hdr⟩ := six_list (dress_len c1)
  have hsb := steps_lt c0
  have hdb := dress_lt c1
  rw [hst] at hsb hvs
  rw [hdr] at hdb
  rw [hst, hdr, (pieces_two x0 x1 x2 x3 f g h f' g' h').1, (pieces_two x0 x1 x2 x3 f g h f' g' h').2] at hlp
  simp only [List.forall_mem_cons] at hsb hdb
  obtain ⟨r0, r1, r2, r3, -⟩ := hsb
  obtain ⟨of, og, oh, of', og', oh', -⟩ := hdb
  obtain ⟨v0, v1, v2, v3, rfl⟩ := ints4 hvs
  have z1 := two_len (f := f) (g := g) (h := h) r0 r1
  have z2 := two_len (f := f') (g := g') (h := h') r2 r3
  show wpAny _ _ (execs (_ :: _) _) _ _ _
  refine seq _ (law_a4 W e1 hlp ⟨Nat.le_trans z1.1 (by decide), Nat.le_trans z1.2 (by decide)⟩ ⟨Nat.le_trans z2.1 (by decide), Nat.le_trans z2.2 (by decide)⟩ I) ?_
  clear I
  rintro s4 ⟨D, kD, ds, hds, hT, I⟩
  obtain ⟨⟨d0, q0⟩, ⟨d1, q1⟩, rfl⟩ := two_list hds
  obtain ⟨w0, w1, k1, eq0⟩ := hT 0 _ rfl
  obtain ⟨w2, w3, k2, eq1⟩ := hT 1 _ rfl
  have pa := pd_two (a := x0) (b := x1) of og oh
  have pb := pd_two (a := x2) (b := x3) of' og' oh'
  have eq0' : q0 = PySem.W.listOf #[.int x0 w0, .int x1 w1] k1 := by
    have : q0 = PySem.W.listOf #[.int (pd (two f g h x0 x1).1) w0, .int (pd (two f g h x0 x1).2) w1] k1 := eq0
    rw [this, pa.1, pa.2]
  have eq1' : q1 = PySem.W.listOf #[.int x2 w2, .int x3 w3] k2 := by
    have : q1 = PySem.W.listOf #[.int (pd (two f' g' h' x2 x3).1) w2, .int (pd (two f' g' h' x2 x3).2) w3] k2 := eq1
    rw [this, pb.1, pb.2]
  subst eq0' eq1'
  clear eq0 eq1 hT pa pb
  obtain ⟨led, mD, md0, md1, mc, ml, mS, mr, I⟩ : ∃ led : LD, (D, PySem.W.listOf #[.ref d0, .ref d1] kD) ∈ led ∧ (d0, PySem.W.listOf #[.int x0 w0, .int x1 w1] k1) ∈ led ∧ (d1, PySem.W.listOf #[.int x2 w2, .int x3 w3] k2) ∈ led ∧ (s.heap.objs.size + 1, o2) ∈ led ∧ (∀ q ∈ lp, q ∈ led) ∧ (S', PySem.W.listOf #[.int x0 v0, .int x1 v1, .int x2 v2, .int x3 v3] k') ∈ led ∧ (r, PySem.W.listOf #[.int c0 t0, .int c1 t1, .int c2 t2, .int c3 t3] k) ∈ led ∧
      At s.heap s.heap.objs.size s (nm4 l r S' D) led s4 :=
    ⟨_, .head _, .tail _ (.head _), .tail _ (.tail _ (.head _)), .tail _ (.tail _ (.tail _ (.head _))), fun q hq => .tail _ (.tail _ (.tail _ (.tail _ (List.mem_append_left _ hq)))), .tail _ (.tail _ (.tail _ (.tail _ (List.mem_append_right _ (.head _))))), .tail _ (.tail _ (.tail _ (.tail _ (List.mem_append_right _ (.tail _ (.head _)))))), I⟩
  have one : ∀ {a : Addr × Obj}, a ∈ led → ∀ q ∈ a :: led, q ∈ led := fun h q hq => by
    rcases List.mem_cons.mp hq with e | hq
    · exact e ▸ h
    · exact hq
  show wpAny _ _ (execs (_ :: _) _) _ _ _
  refine seq _ (law_a5 (rest := led) W (I.sub (led' := [(D, PySem.W.listOf #[.ref d0, .ref d1] kD), (d0, PySem.W.listOf #[.int x0 w0, .int x1 w1] k1), (d1, PySem.W.listOf #[.int x2 w2, .int x3 w3] k2), (S', PySem.W.listOf #[.int x0 v0, .int x1 v1, .int x2 v2, .int x3 v3] k')] ++ led) (fun q hq => ?_))) ?_
  · rcases List.mem_cons.mp hq with e | hq
    · exact e ▸ mD
    · rcases List.mem_cons.mp hq with e | hq
      · exact e ▸ md0
      · rcases List.mem_cons.mp hq with e | hq
        · exact e ▸ md1
        · exact one mS q hq
  clear I
  intro s5 I
  replace I := I.sub (led' := (r, PySem.W.listOf #[.int c0 t0, .int c1 t1, .int c2 t2, .int c3 t3] k) :: led) (fun q hq => .tail _ (.tail _ (.tail _ (.tail _ (one mr q hq)))))
  show wpAny _ _ (execs (_ :: _) _) _ _ _
  refine seq _ (law_a6 (rest := led) W I) ?_
  clear I
  rintro s6 ⟨a, b, c, y0, y1, y2, ha, hb, hc, I⟩
  replace I := I.sub (led' := led) (fun q hq => .tail _ hq)
  show wpAny _ _ (execs (_ :: _) _) _ _ _
  refine seq _ (law_a7 (rest := led) W I) ?_
  clear I
  rintro s7 ⟨wh, kw, n0, n1, n2, n3, I⟩
  replace I := I.sub (led' := (wh, PySem.W.listOf #[.int 160 n0, .int 8195 n1, .int 12288 n2, .int 9 n3] kw) :: (r, PySem.W.listOf #[.int c0 t0, .int c1 t1, .int c2 t2, .int c3 t3] k) :: led) (fun q hq => by
    rcases List.mem_cons.mp hq with e | hq
    · exact e ▸ .head _
    · exact .tail _ (one mr q hq))
  show wpAny _ _ (execs (_ :: _) _) _ _ _
  refine seq _ (law_a8 (rest := led) W I) ?_
  clear I
  rintro s8 ⟨x, y, ti, hx, hy, I⟩
  replace I := I.sub (led' := (r, PySem.W.listOf #[.int c0 t0, .int c1 t1, .int c2 t2, .int c3 t3] k) :: (S', PySem.W.listOf #[.int x0 v0, .int x1 v1, .int x2 v2, .int x3 v3] k') :: led) (fun q hq => by
    rcases List.mem_cons.mp hq with e | hq
    · exact e ▸ .tail _ (.head _)
    · exact .tail _ (.tail _ (one mS q hq)))
  show wpAny _ _ (execs (_ :: _) _) _ _ _
  refine seq _ (law_a9 (rest := led) W hvs rfl (by simp only [List.forall_mem_cons]; exact ⟨r0, r1, r2, r3, by simp⟩) I) ?_
  clear I
  rintro s9 ⟨tr, I⟩
  replace I := I.sub (led' := (r, PySem.W.listOf #[.int c0 t0, .int c1 t1, .int c2 t2, .int c3 t3] k) :: led) (fun q hq => by
    rcases List.mem_cons.mp hq with e | hq
    · exact e ▸ .head _
    · exact .tail _ (.tail _ hq))
  show wpAny _ _ (execs (_ :: _) _) _ _ _
  refine seq _ (law_a10 (rest := led) W I) ?_
  clear I
  rintro s10 ⟨tst, I⟩
  replace I := I.sub (led' := (S', PySem.W.listOf #[.int x0 v0, .int x1 v1, .int x2 v2, .int x3 v3] k') :: led) (fun q hq => .tail _ (one mS q hq))
  show wpAny _ _ (execs (_ :: _) _) _ _ _
  refine seq _ (law_a11 (rest := led) W r0 r1 r2 r3 I) ?_
  clear I
  rintro s11 ⟨tlo, tla, I⟩
  replace I := I.sub (led' := led) (fun q hq => .tail _ hq)
  show wpAny _ _ (execs (_ :: _) _) _ _ _
  refine seq _ (law_a12 W I) ?_
  clear I
  rintro s12 ⟨tta, I⟩
  show wpAny _ _ (execs (_ :: _) _) _ _ _
  refine seq _ (law_a13 (P := P) (d0 := d0) (d1 := d1) (lp := lp) (o1 := o2) (x0 := x0) (x1 := x1) (x2 := x2) (x3 := x3) (f := f) (g := g) (h := h) (f' := f') (g' := g') (h' := h') (e := (c3.fdiv 16).fmod 3) W ?_ e1 hlp mc ml mD md0 md1 I) ?_
  · exact ⟨r0, r1, r2, r3, of, og, oh, of', og', oh', rfl, rfl, rfl, Int.fmod_nonneg_of_pos _ (by decide), Int.fmod_lt_of_pos _ (by decide), ha, hb, hc, hx, hy⟩
  clear I
  rintro s13 ⟨post, I⟩
  exact law_a14 W I
end Mine
end
section
open PySem PySem.W PyProof.Rows PySem.Calls
set_option maxRecDepth 100000
set_option maxHeartbeats 2000000
namespace Mine
theorem law_spec {w : World} {A : Around} {s : Shared} {E : Value → Shared → Prop} (hh : A.handled = none) (hd : A.depth + 1 ≤ 301 + 20 * 1) (hu : A.units + 3 ≤ 100 * 1) (W : Wd w s.heap) (l : Addr) (items : Array Value) (ns : List Int) (hl : s.heap.IsList l items) (hi : IntsAre items.toList ns) (hn : items.size ≤ 1000) :
    wpAny (model PR w) A (call (.ref 151) [.ref l]) (fun v s' => v = .bool true ∧ After s s') E s := by
  refine call_fnC (n := 1) (f := 151) (c := 150) (i := 21) (binds := [("script", .ref l)]) hh hd hu (by decide) W rfl rfl (BindsTo.of_eq rfl) ?_ (by decide +kernel) rfl rfl rfl (fun h₁ tk cells F N Y => ?_)
  · intro n x hx
    rw [List.mem_singleton.mp hx]
    exact Or.inl (by rfl)
  obtain ⟨o1, rfl, e1⟩ := Y.one
  replace e1 : o1.data = .cell none := e1
  replace F : Fr s.heap s.heap.objs.size h₁ (fun y => List.lookup y ([("script", .ref l)] : NM)) := frUpd (x := "script") (m := []) F rfl
  exact law_main W hl hi hn e1 ⟨F, N, rfl, rfl, rfl⟩
theorem same_tt : same (WData.bool true) (WData.bool true) = true := by first | rfl | decide +kernel | simp [same]
theorem post_true (l : OpenLaw) (args ds : List WData) : l.row.claim.post args (.bool true) ds = true := by
  show (WShape.has [] (.bool true) WShape.bool && WTm.holds [] (WTm.eq WTm.res (WTm.lit (WData.bool true))) _) = true
  simp only [Bool.and_eq_true]
  refine ⟨by first | rfl | decide +kernel | simp [WShape.has, WShape.arms], ?_⟩
  simp [WTm.holds, WTm.value, same_tt]
theorem fin : WalkO Q LO (XL Q []) (InK K) PySem.Challenge.rw_yf0001_01.row.toRowW DR [] fun f vs => PySem.call f vs := by
  intro w s₀ s₁ mg mb G Y fa o pm cd doc dV kV ho hd hcd hD hmg hg args vals as hpre hlay hrd hwl hlo
  have KX : (K w.params).In s₁.heap := kIn_of (e := ks_K) Y
  refine Ground.open G ?_
  intro T B D TE TW
  wrow_args hpre hlay hrd hwl hlo
  rename_i xs _ _ _ _ _ _ _ l vs _ hL _ _ _ hI _ hcond _
  have eLow : looseW Q LO = LOW := by decide +kernel
  rw [eLow] at T
  have hfa : fa = 151 := by
    have e1 : mg "law" = some (.ref 151) := mg_of KX T.g (by rfl)
    have e2 : mg "law" = some (.ref fa) := hmg
    rw [e1] at e2
    injection e2 with e2; injection e2 with e2; exact e2.symm
  subst hfa
  have hlen : vs.toArray.size ≤ 1000 := by
    have h1 := hI.length
    show vs.length ≤ 1000
    have h2 : (xs.length : Int) ≤ 63 := Int.not_lt.mp hcond
    omega
  refine wpAny_mono (law_spec (A := callerA) rfl (by decide) (by decide) ⟨KX, _, _, _, T⟩ l vs.toArray xs hL hI hlen) (fun v s' hv => ?_) fun _ _ x => x
  obtain ⟨rfl, ha⟩ := hv
  refine GoodW.toG ⟨.inl ⟨.bool true, .bool true, [], rfl, ?_, .bool true, ?_, ?_⟩, ha.k, ha.o, ha.g.trans hg⟩
  · intro cls; rfl
  · exact post_true _ _ _
  · exact unshared_nil
end Mine
end
theorem PySem.Challenge.cw_yf0001_01_holds : PySem.Challenge.rw_yf0001_01.Holds := by
  exact Mine.top Mine.fin
