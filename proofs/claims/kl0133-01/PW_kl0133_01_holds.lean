import PyProof.Rows.All
import Wide.All
import OpenK.AllK
import Wide.FinOn
import PySem.Challenge.RW_kl0133_01
set_option Elab.async false
section
open PySem PySem.W PyProof.Rows
namespace Mine
set_option maxRecDepth 100000
noncomputable def fnParts (i : Nat) : Option (Arguments × List Stmt × Scope) := match PySem.Challenge.pw_kl0133_01.main.body[i]? with | some (.FunctionDef _ a b _ _ _ s _ _ _) => some (a, b, s) | _ => none
noncomputable def KG : Params → Frag := (fun {a0 b0 s0} (_ : fnParts 0 = some (a0, b0, s0)) {a2 b2 s2} (_ : fnParts 2 = some (a2, b2, s2)) {a3 b3 s3} (_ : fnParts 3 = some (a3, b3, s3)) {a6 b6 s6} (_ : fnParts 6 = some (a6, b6, s6)) {a8 b8 s8} (_ : fnParts 8 = some (a8, b8, s8)) {a9 b9 s9} (_ : fnParts 9 = some (a9, b9, s9)) {a10 b10 s10} (_ : fnParts 10 = some (a10, b10, s10)) {a15 b15 s15} (_ : fnParts 15 = some (a15, b15, s15)) {a16 b16 s16} (_ : fnParts 16 = some (a16, b16, s16)) {a17 b17 s17} (_ : fnParts 17 = some (a17, b17, s17)) {a18 b18 s18} (_ : fnParts 18 = some (a18, b18, s18)) {a19 b19 s19} (_ : fnParts 19 = some (a19, b19, s19)) {a20 b20 s20} (_ : fnParts 20 = some (a20, b20, s20)) {a21 b21 s21} (_ : fnParts 21 = some (a21, b21, s21)) {a22 b22 s22} (_ : fnParts 22 = some (a22, b22, s22)) {a23 b23 s23} (_ : fnParts 23 = some (a23, b23, s23)) {a24 b24 s24} (_ : fnParts 24 = some (a24, b24, s24)) {a25 b25 s25} (_ : fnParts 25 = some (a25, b25, s25)) (P : Params) => ((nat_lit 2, { cls := Value.none, dict := (none : Option Nat), data := Data.dict #[] (0 : Nat) }) ::
  (nat_lit 3, { cls := Value.type "dict", dict := (none : Option Nat), data := Data.dict #[{ hash := PyData.keyHash P (Str.ofString "__name__"), key := Value.str (Str.ofString "__name__") (165 : Nat), val := Value.str (Str.ofString "law_kl0133_01") (716 : Nat) }, { hash := PyData.keyHash P (Str.ofString "__doc__"), key := Value.str (Str.ofString "__doc__") (166 : Nat), val := Value.none }, { hash := PyData.keyHash P (Str.ofString "__package__"), key := Value.str (Str.ofString "__package__") (167 : Nat), val := Value.none }, { hash := PyData.keyHash P (Str.ofString "__loader__"), key := Value.str (Str.ofString "__loader__") (168 : Nat), val := Value.builtin "__main__.__loader__#opaque" }, { hash := PyData.keyHash P (Str.ofString "__spec__"), key := Value.str (Str.ofString "__spec__") (169 : Nat), val := Value.none }, { hash := PyData.keyHash P (Str.ofString "__annotations__"), key := Value.str (Str.ofString "__annotations__") (170 : Nat), val := Value.ref (6 : Nat) }, { hash := PyData.keyHash P (Str.ofString "__builtins__"), key := Value.str (Str.ofString "__builtins__") (171 : Nat), val := Value.ref (4 : Nat) }, { hash := PyData.keyHash P (Str.ofString "__file__"), key := Value.str (Str.ofString "__file__") (173 : Nat), val := Value.str (Str.ofString "/claim/cut.py") (172 : Nat) }, { hash := PyData.keyHash P (Str.ofString "__cached__"), key := Value.str (Str.ofString "__cached__") (174 : Nat), val := Value.none }, { hash := PyData.keyHash P (Str.ofString "_wall"), key := Value.str (Str.ofString "_wall") (193 : Nat), val := Value.ref (21 : Nat) }, { hash := PyData.keyHash P (Str.ofString "rgb_to_yiq"), key := Value.str (Str.ofString "rgb_to_yiq") (207 : Nat), val := Value.ref (28 : Nat) }, { hash := PyData.keyHash P (Str.ofString "hsv_to_rgb"), key := Value.str (Str.ofString "hsv_to_rgb") (221 : Nat), val := Value.ref (35 : Nat) }, { hash := PyData.keyHash P (Str.ofString "COMPILER_FLAG_NAMES"), key := Value.str (Str.ofString "COMPILER_FLAG_NAMES") (254 : Nat), val := Value.ref (36 : Nat) }, { hash := PyData.keyHash P (Str.ofString "pretty_flags"), key := Value.str (Str.ofString "pretty_flags") (264 : Nat), val := Value.ref (43 : Nat) }, { hash := PyData.keyHash P (Str.ofString "_strcoll"), key := Value.str (Str.ofString "_strcoll") (274 : Nat), val := Value.ref (50 : Nat) }, { hash := PyData.keyHash P (Str.ofString "_replace_encoding"), key := Value.str (Str.ofString "_replace_encoding") (284 : Nat), val := Value.ref (57 : Nat) }, { hash := PyData.keyHash P (Str.ofString "_append_modifier"), key := Value.str (Str.ofString "_append_modifier") (294 : Nat), val := Value.ref (64 : Nat) }, { hash := PyData.keyHash P (Str.ofString "locale_encoding_alias"), key := Value.str (Str.ofString "locale_encoding_alias") (427 : Nat), val := Value.ref (65 : Nat) }, { hash := PyData.keyHash P (Str.ofString "_law_drawn"), key := Value.str (Str.ofString "_law_drawn") (727 : Nat), val := Value.ref (261 : Nat) }, { hash := PyData.keyHash P (Str.ofString "_law_word"), key := Value.str (Str.ofString "_law_word") (736 : Nat), val := Value.ref (268 : Nat) }, { hash := PyData.keyHash P (Str.ofString "_law_due_word"), key := Value.str (Str.ofString "_law_due_word") (745 : Nat), val := Value.ref (275 : Nat) }, { hash := PyData.keyHash P (Str.ofString "_law_share"), key := Value.str (Str.ofString "_law_share") (754 : Nat), val := Value.ref (282 : Nat) }, { hash := PyData.keyHash P (Str.ofString "_law_due_light"), key := Value.str (Str.ofString "_law_due_light") (762 : Nat), val := Value.ref (289 : Nat) }, { hash := PyData.keyHash P (Str.ofString "_law_light"), key := Value.str (Str.ofString "_law_light") (770 : Nat), val := Value.ref (296 : Nat) }, { hash := PyData.keyHash P (Str.ofString "_law_put"), key := Value.str (Str.ofString "_law_put") (784 : Nat), val := Value.ref (303 : Nat) }, { hash := PyData.keyHash P (Str.ofString "_law_seen"), key := Value.str (Str.ofString "_law_seen") (799 : Nat), val := Value.ref (310 : Nat) }, { hash := PyData.keyHash P (Str.ofString "_law_all"), key := Value.str (Str.ofString "_law_all") (805 : Nat), val := Value.ref (315 : Nat) }, { hash := PyData.keyHash P (Str.ofString "_law_counts"), key := Value.str (Str.ofString "_law_counts") (811 : Nat), val := Value.ref (320 : Nat) }, { hash := PyData.keyHash P (Str.ofString "law"), key := Value.str (Str.ofString "law") (817 : Nat), val := Value.ref (325 : Nat) }] (33 : Nat) }) ::
  (nat_lit 15, { cls := Value.type "tuple", dict := (none : Option Nat), data := Data.seq #[] }) ::
  (nat_lit 17, { cls := Value.type "tuple", dict := (none : Option Nat), data := Data.seq #[Value.str (Str.ofString "k") (190 : Nat)] }) ::
  (nat_lit 18, { cls := Value.type "tuple", dict := (none : Option Nat), data := Data.seq #[] }) ::
  (nat_lit 20, { cls := Value.type "code", dict := (none : Option Nat), data := Data.fields #[Value.str (Str.ofString "_wall") (187 : Nat), Value.str (Str.ofString "_wall") (188 : Nat), Value.str (Str.ofString "/claim/cut.py") (189 : Nat), Value.int 1 (0 : Nat), Value.int 1 (0 : Nat), Value.int 0 (0 : Nat), Value.int 0 (0 : Nat), Value.int 3 (0 : Nat), Value.ref (15 : Nat), Value.bool true, Value.int 181 (0 : Nat), Value.ref (16 : Nat), Value.none, Value.ref (17 : Nat), Value.ref (18 : Nat), Value.ref (19 : Nat), Value.int 191 (0 : Nat), Value.int 1 (0 : Nat), Value.str (Str.ofString "/claim/cut.py") (192 : Nat)] }) ::
  (nat_lit 21, { cls := Value.type "function", dict := (none : Option Nat), data := Data.func { name := Str.ofString "_wall", qualname := Str.ofString "_wall", params := a0, body := FuncBody.stmts b0, scope := s0, globals := (3 : Nat), closure := ([] : List (Str × Nat)), defaults := Value.none, kwdefaults := Value.none, pyModule := Value.str (Str.ofString "__main__") (164 : Nat), code := Value.ref (20 : Nat), annotations := (none : Option Nat), builtins := (0 : Nat) } }) ::
  (nat_lit 22, { cls := Value.type "tuple", dict := (none : Option Nat), data := Data.seq #[] }) ::
  (nat_lit 24, { cls := Value.type "tuple", dict := (none : Option Nat), data := Data.seq #[Value.str (Str.ofString "r") (199 : Nat), Value.str (Str.ofString "g") (200 : Nat), Value.str (Str.ofString "b") (201 : Nat), Value.str (Str.ofString "y") (202 : Nat), Value.str (Str.ofString "i") (203 : Nat), Value.str (Str.ofString "q") (204 : Nat)] }) ::
  (nat_lit 25, { cls := Value.type "tuple", dict := (none : Option Nat), data := Data.seq #[] }) ::
  (nat_lit 27, { cls := Value.type "code", dict := (none : Option Nat), data := Data.fields #[Value.str (Str.ofString "rgb_to_yiq") (196 : Nat), Value.str (Str.ofString "rgb_to_yiq") (197 : Nat), Value.str (Str.ofString "/claim/cut.py") (198 : Nat), Value.int 5 (0 : Nat), Value.int 3 (0 : Nat), Value.int 0 (0 : Nat), Value.int 0 (0 : Nat), Value.int 3 (0 : Nat), Value.ref (22 : Nat), Value.bool true, Value.int 181 (0 : Nat), Value.ref (23 : Nat), Value.none, Value.ref (24 : Nat), Value.ref (25 : Nat), Value.ref (26 : Nat), Value.int 205 (0 : Nat), Value.int 5 (0 : Nat), Value.str (Str.ofString "/claim/cut.py") (206 : Nat)] }) ::
  (nat_lit 28, { cls := Value.type "function", dict := (none : Option Nat), data := Data.func { name := Str.ofString "rgb_to_yiq", qualname := Str.ofString "rgb_to_yiq", params := a2, body := FuncBody.stmts b2, scope := s2, globals := (3 : Nat), closure := ([] : List (Str × Nat)), defaults := Value.none, kwdefaults := Value.none, pyModule := Value.str (Str.ofString "cpy313.colorsys") (194 : Nat), code := Value.ref (27 : Nat), annotations := (none : Option Nat), builtins := (0 : Nat) } }) ::
  (nat_lit 29, { cls := Value.type "tuple", dict := (none : Option Nat), data := Data.seq #[] }) ::
  (nat_lit 31, { cls := Value.type "tuple", dict := (none : Option Nat), data := Data.seq #[Value.str (Str.ofString "h") (211 : Nat), Value.str (Str.ofString "s") (212 : Nat), Value.str (Str.ofString "v") (213 : Nat), Value.str (Str.ofString "i") (214 : Nat), Value.str (Str.ofString "f") (215 : Nat), Value.str (Str.ofString "p") (216 : Nat), Value.str (Str.ofString "q") (217 : Nat), Value.str (Str.ofString "t") (218 : Nat)] }) ::
  (nat_lit 32, { cls := Value.type "tuple", dict := (none : Option Nat), data := Data.seq #[] }) ::
  (nat_lit 34, { cls := Value.type "code", dict := (none : Option Nat), data := Data.fields #[Value.str (Str.ofString "hsv_to_rgb") (208 : Nat), Value.str (Str.ofString "hsv_to_rgb") (209 : Nat), Value.str (Str.ofString "/claim/cut.py") (210 : Nat), Value.int 10 (0 : Nat), Value.int 3 (0 : Nat), Value.int 0 (0 : Nat), Value.int 0 (0 : Nat), Value.int 3 (0 : Nat), Value.ref (29 : Nat), Value.bool true, Value.int 181 (0 : Nat), Value.ref (30 : Nat), Value.none, Value.ref (31 : Nat), Value.ref (32 : Nat), Value.ref (33 : Nat), Value.int 219 (0 : Nat), Value.int 10 (0 : Nat), Value.str (Str.ofString "/claim/cut.py") (220 : Nat)] }) ::
  (nat_lit 35, { cls := Value.type "function", dict := (none : Option Nat), data := Data.func { name := Str.ofString "hsv_to_rgb", qualname := Str.ofString "hsv_to_rgb", params := a3, body := FuncBody.stmts b3, scope := s3, globals := (3 : Nat), closure := ([] : List (Str × Nat)), defaults := Value.none, kwdefaults := Value.none, pyModule := Value.str (Str.ofString "cpy313.colorsys") (194 : Nat), code := Value.ref (34 : Nat), annotations := (none : Option Nat), builtins := (0 : Nat) } }) ::
  (nat_lit 36, { cls := Value.type "dict", dict := (none : Option Nat), data := Data.dict #[{ hash := 1, key := Value.int 1 (224 : Nat), val := Value.str (Str.ofString "OPTIMIZED") (225 : Nat) }, { hash := 2, key := Value.int 2 (226 : Nat), val := Value.str (Str.ofString "NEWLOCALS") (227 : Nat) }, { hash := 4, key := Value.int 4 (228 : Nat), val := Value.str (Str.ofString "VARARGS") (229 : Nat) }, { hash := 8, key := Value.int 8 (230 : Nat), val := Value.str (Str.ofString "VARKEYWORDS") (231 : Nat) }, { hash := 16, key := Value.int 16 (232 : Nat), val := Value.str (Str.ofString "NESTED") (233 : Nat) }, { hash := 32, key := Value.int 32 (234 : Nat), val := Value.str (Str.ofString "GENERATOR") (235 : Nat) }, { hash := 64, key := Value.int 64 (236 : Nat), val := Value.str (Str.ofString "NOFREE") (237 : Nat) }, { hash := 128, key := Value.int 128 (238 : Nat), val := Value.str (Str.ofString "COROUTINE") (239 : Nat) }, { hash := 256, key := Value.int 256 (240 : Nat), val := Value.str (Str.ofString "ITERABLE_COROUTINE") (241 : Nat) }, { hash := 512, key := Value.int 512 (242 : Nat), val := Value.str (Str.ofString "ASYNC_GENERATOR") (243 : Nat) }] (10 : Nat) }) ::
  (nat_lit 37, { cls := Value.type "tuple", dict := (none : Option Nat), data := Data.seq #[] }) ::
  (nat_lit 39, { cls := Value.type "tuple", dict := (none : Option Nat), data := Data.seq #[Value.str (Str.ofString "flags") (258 : Nat), Value.str (Str.ofString "names") (259 : Nat), Value.str (Str.ofString "i") (260 : Nat), Value.str (Str.ofString "flag") (261 : Nat)] }) ::
  (nat_lit 40, { cls := Value.type "tuple", dict := (none : Option Nat), data := Data.seq #[] }) ::
  (nat_lit 42, { cls := Value.type "code", dict := (none : Option Nat), data := Data.fields #[Value.str (Str.ofString "pretty_flags") (255 : Nat), Value.str (Str.ofString "pretty_flags") (256 : Nat), Value.str (Str.ofString "/claim/cut.py") (257 : Nat), Value.int 33 (0 : Nat), Value.int 1 (0 : Nat), Value.int 0 (0 : Nat), Value.int 0 (0 : Nat), Value.int 3 (0 : Nat), Value.ref (37 : Nat), Value.bool true, Value.int 181 (0 : Nat), Value.ref (38 : Nat), Value.none, Value.ref (39 : Nat), Value.ref (40 : Nat), Value.ref (41 : Nat), Value.int 262 (0 : Nat), Value.int 33 (0 : Nat), Value.str (Str.ofString "/claim/cut.py") (263 : Nat)] }) ::
  (nat_lit 43, { cls := Value.type "function", dict := (none : Option Nat), data := Data.func { name := Str.ofString "pretty_flags", qualname := Str.ofString "pretty_flags", params := a6, body := FuncBody.stmts b6, scope := s6, globals := (3 : Nat), closure := ([] : List (Str × Nat)), defaults := Value.none, kwdefaults := Value.none, pyModule := Value.str (Str.ofString "cpy313.dis") (222 : Nat), code := Value.ref (42 : Nat), annotations := (none : Option Nat), builtins := (0 : Nat) } }) ::
  (nat_lit 44, { cls := Value.type "tuple", dict := (none : Option Nat), data := Data.seq #[] }) ::
  (nat_lit 46, { cls := Value.type "tuple", dict := (none : Option Nat), data := Data.seq #[Value.str (Str.ofString "a") (270 : Nat), Value.str (Str.ofString "b") (271 : Nat)] }) ::
  (nat_lit 47, { cls := Value.type "tuple", dict := (none : Option Nat), data := Data.seq #[] }) ::
  (nat_lit 49, { cls := Value.type "code", dict := (none : Option Nat), data := Data.fields #[Value.str (Str.ofString "_strcoll") (267 : Nat), Value.str (Str.ofString "_strcoll") (268 : Nat), Value.str (Str.ofString "/claim/cut.py") (269 : Nat), Value.int 46 (0 : Nat), Value.int 2 (0 : Nat), Value.int 0 (0 : Nat), Value.int 0 (0 : Nat), Value.int 3 (0 : Nat), Value.ref (44 : Nat), Value.bool true, Value.int 181 (0 : Nat), Value.ref (45 : Nat), Value.none, Value.ref (46 : Nat), Value.ref (47 : Nat), Value.ref (48 : Nat), Value.int 272 (0 : Nat), Value.int 46 (0 : Nat), Value.str (Str.ofString "/claim/cut.py") (273 : Nat)] }) ::
  (nat_lit 50, { cls := Value.type "function", dict := (none : Option Nat), data := Data.func { name := Str.ofString "_strcoll", qualname := Str.ofString "_strcoll", params := a8, body := FuncBody.stmts b8, scope := s8, globals := (3 : Nat), closure := ([] : List (Str × Nat)), defaults := Value.none, kwdefaults := Value.none, pyModule := Value.str (Str.ofString "cpy313.locale") (265 : Nat), code := Value.ref (49 : Nat), annotations := (none : Option Nat), builtins := (0 : Nat) } }) ::
  (nat_lit 51, { cls := Value.type "tuple", dict := (none : Option Nat), data := Data.seq #[] }) ::
  (nat_lit 53, { cls := Value.type "tuple", dict := (none : Option Nat), data := Data.seq #[Value.str (Str.ofString "code") (278 : Nat), Value.str (Str.ofString "encoding") (279 : Nat), Value.str (Str.ofString "langname") (280 : Nat), Value.str (Str.ofString "norm_encoding") (281 : Nat)] }) ::
  (nat_lit 54, { cls := Value.type "tuple", dict := (none : Option Nat), data := Data.seq #[] }) ::
  (nat_lit 56, { cls := Value.type "code", dict := (none : Option Nat), data := Data.fields #[Value.str (Str.ofString "_replace_encoding") (275 : Nat), Value.str (Str.ofString "_replace_encoding") (276 : Nat), Value.str (Str.ofString "/claim/cut.py") (277 : Nat), Value.int 48 (0 : Nat), Value.int 2 (0 : Nat), Value.int 0 (0 : Nat), Value.int 0 (0 : Nat), Value.int 3 (0 : Nat), Value.ref (51 : Nat), Value.bool true, Value.int 181 (0 : Nat), Value.ref (52 : Nat), Value.none, Value.ref (53 : Nat), Value.ref (54 : Nat), Value.ref (55 : Nat), Value.int 282 (0 : Nat), Value.int 48 (0 : Nat), Value.str (Str.ofString "/claim/cut.py") (283 : Nat)] }) ::
  (nat_lit 57, { cls := Value.type "function", dict := (none : Option Nat), data := Data.func { name := Str.ofString "_replace_encoding", qualname := Str.ofString "_replace_encoding", params := a9, body := FuncBody.stmts b9, scope := s9, globals := (3 : Nat), closure := ([] : List (Str × Nat)), defaults := Value.none, kwdefaults := Value.none, pyModule := Value.str (Str.ofString "cpy313.locale") (265 : Nat), code := Value.ref (56 : Nat), annotations := (none : Option Nat), builtins := (0 : Nat) } }) ::
  (nat_lit 58, { cls := Value.type "tuple", dict := (none : Option Nat), data := Data.seq #[] }) ::
  (nat_lit 60, { cls := Value.type "tuple", dict := (none : Option Nat), data := Data.seq #[Value.str (Str.ofString "code") (288 : Nat), Value.str (Str.ofString "modifier") (289 : Nat), Value.str (Str.ofString "_") (290 : Nat), Value.str (Str.ofString "encoding") (291 : Nat)] }) ::
  (nat_lit 61, { cls := Value.type "tuple", dict := (none : Option Nat), data := Data.seq #[] }) ::
  (nat_lit 63, { cls := Value.type "code", dict := (none : Option Nat), data := Data.fields #[Value.str (Str.ofString "_append_modifier") (285 : Nat), Value.str (Str.ofString "_append_modifier") (286 : Nat), Value.str (Str.ofString "/claim/cut.py") (287 : Nat), Value.int 65 (0 : Nat), Value.int 2 (0 : Nat), Value.int 0 (0 : Nat), Value.int 0 (0 : Nat), Value.int 3 (0 : Nat), Value.ref (58 : Nat), Value.bool true, Value.int 181 (0 : Nat), Value.ref (59 : Nat), Value.none, Value.ref (60 : Nat), Value.ref (61 : Nat), Value.ref (62 : Nat), Value.int 292 (0 : Nat), Value.int 65 (0 : Nat), Value.str (Str.ofString "/claim/cut.py") (293 : Nat)] }) ::
  (nat_lit 64, { cls := Value.type "function", dict := (none : Option Nat), data := Data.func { name := Str.ofString "_append_modifier", qualname := Str.ofString "_append_modifier", params := a10, body := FuncBody.stmts b10, scope := s10, globals := (3 : Nat), closure := ([] : List (Str × Nat)), defaults := Value.none, kwdefaults := Value.none, pyModule := Value.str (Str.ofString "cpy313.locale") (265 : Nat), code := Value.ref (63 : Nat), annotations := (none : Option Nat), builtins := (0 : Nat) } }) ::
  (nat_lit 255, { cls := Value.type "tuple", dict := (none : Option Nat), data := Data.seq #[] }) ::
  (nat_lit 257, { cls := Value.type "tuple", dict := (none : Option Nat), data := Data.seq #[Value.str (Str.ofString "script") (721 : Nat), Value.str (Str.ofString "drawn") (722 : Nat), Value.str (Str.ofString "turn") (723 : Nat), Value.str (Str.ofString "number") (724 : Nat)] }) ::
  (nat_lit 258, { cls := Value.type "tuple", dict := (none : Option Nat), data := Data.seq #[] }) ::
  (nat_lit 260, { cls := Value.type "code", dict := (none : Option Nat), data := Data.fields #[Value.str (Str.ofString "_law_drawn") (718 : Nat), Value.str (Str.ofString "_law_drawn") (719 : Nat), Value.str (Str.ofString "/claim/cut.py") (720 : Nat), Value.int 81 (0 : Nat), Value.int 1 (0 : Nat), Value.int 0 (0 : Nat), Value.int 0 (0 : Nat), Value.int 3 (0 : Nat), Value.ref (255 : Nat), Value.bool true, Value.int 181 (0 : Nat), Value.ref (256 : Nat), Value.none, Value.ref (257 : Nat), Value.ref (258 : Nat), Value.ref (259 : Nat), Value.int 725 (0 : Nat), Value.int 81 (0 : Nat), Value.str (Str.ofString "/claim/cut.py") (726 : Nat)] }) ::
  (nat_lit 261, { cls := Value.type "function", dict := (none : Option Nat), data := Data.func { name := Str.ofString "_law_drawn", qualname := Str.ofString "_law_drawn", params := a15, body := FuncBody.stmts b15, scope := s15, globals := (3 : Nat), closure := ([] : List (Str × Nat)), defaults := Value.none, kwdefaults := Value.none, pyModule := Value.str (Str.ofString "law_kl0133_01") (716 : Nat), code := Value.ref (260 : Nat), annotations := (none : Option Nat), builtins := (0 : Nat) } }) ::
  (nat_lit 262, { cls := Value.type "tuple", dict := (none : Option Nat), data := Data.seq #[] }) ::
  (nat_lit 264, { cls := Value.type "tuple", dict := (none : Option Nat), data := Data.seq #[Value.str (Str.ofString "place") (731 : Nat), Value.str (Str.ofString "choice") (732 : Nat), Value.str (Str.ofString "tongue") (733 : Nat)] }) ::
  (nat_lit 265, { cls := Value.type "tuple", dict := (none : Option Nat), data := Data.seq #[] }) ::
  (nat_lit 267, { cls := Value.type "code", dict := (none : Option Nat), data := Data.fields #[Value.str (Str.ofString "_law_word") (728 : Nat), Value.str (Str.ofString "_law_word") (729 : Nat), Value.str (Str.ofString "/claim/cut.py") (730 : Nat), Value.int 86 (0 : Nat), Value.int 2 (0 : Nat), Value.int 0 (0 : Nat), Value.int 0 (0 : Nat), Value.int 3 (0 : Nat), Value.ref (262 : Nat), Value.bool true, Value.int 181 (0 : Nat), Value.ref (263 : Nat), Value.none, Value.ref (264 : Nat), Value.ref (265 : Nat), Value.ref (266 : Nat), Value.int 734 (0 : Nat), Value.int 86 (0 : Nat), Value.str (Str.ofString "/claim/cut.py") (735 : Nat)] }) ::
  (nat_lit 268, { cls := Value.type "function", dict := (none : Option Nat), data := Data.func { name := Str.ofString "_law_word", qualname := Str.ofString "_law_word", params := a16, body := FuncBody.stmts b16, scope := s16, globals := (3 : Nat), closure := ([] : List (Str × Nat)), defaults := Value.none, kwdefaults := Value.none, pyModule := Value.str (Str.ofString "law_kl0133_01") (716 : Nat), code := Value.ref (267 : Nat), annotations := (none : Option Nat), builtins := (0 : Nat) } }) ::
  (nat_lit 269, { cls := Value.type "tuple", dict := (none : Option Nat), data := Data.seq #[] }) ::
  (nat_lit 271, { cls := Value.type "tuple", dict := (none : Option Nat), data := Data.seq #[Value.str (Str.ofString "place") (740 : Nat), Value.str (Str.ofString "choice") (741 : Nat), Value.str (Str.ofString "tails") (742 : Nat)] }) ::
  (nat_lit 272, { cls := Value.type "tuple", dict := (none : Option Nat), data := Data.seq #[] }) ::
  (nat_lit 274, { cls := Value.type "code", dict := (none : Option Nat), data := Data.fields #[Value.str (Str.ofString "_law_due_word") (737 : Nat), Value.str (Str.ofString "_law_due_word") (738 : Nat), Value.str (Str.ofString "/claim/cut.py") (739 : Nat), Value.int 93 (0 : Nat), Value.int 2 (0 : Nat), Value.int 0 (0 : Nat), Value.int 0 (0 : Nat), Value.int 3 (0 : Nat), Value.ref (269 : Nat), Value.bool true, Value.int 181 (0 : Nat), Value.ref (270 : Nat), Value.none, Value.ref (271 : Nat), Value.ref (272 : Nat), Value.ref (273 : Nat), Value.int 743 (0 : Nat), Value.int 93 (0 : Nat), Value.str (Str.ofString "/claim/cut.py") (744 : Nat)] }) ::
  (nat_lit 275, { cls := Value.type "function", dict := (none : Option Nat), data := Data.func { name := Str.ofString "_law_due_word", qualname := Str.ofString "_law_due_word", params := a17, body := FuncBody.stmts b17, scope := s17, globals := (3 : Nat), closure := ([] : List (Str × Nat)), defaults := Value.none, kwdefaults := Value.none, pyModule := Value.str (Str.ofString "law_kl0133_01") (716 : Nat), code := Value.ref (274 : Nat), annotations := (none : Option Nat), builtins := (0 : Nat) } }) ::
  (nat_lit 276, { cls := Value.type "tuple", dict := (none : Option Nat), data := Data.seq #[] }) ::
  (nat_lit 278, { cls := Value.type "tuple", dict := (none : Option Nat), data := Data.seq #[Value.str (Str.ofString "hue") (749 : Nat), Value.str (Str.ofString "middle") (750 : Nat), Value.str (Str.ofString "away") (751 : Nat)] }) ::
  (nat_lit 279, { cls := Value.type "tuple", dict := (none : Option Nat), data := Data.seq #[] }) ::
  (nat_lit 281, { cls := Value.type "code", dict := (none : Option Nat), data := Data.fields #[Value.str (Str.ofString "_law_share") (746 : Nat), Value.str (Str.ofString "_law_share") (747 : Nat), Value.str (Str.ofString "/claim/cut.py") (748 : Nat), Value.int 96 (0 : Nat), Value.int 2 (0 : Nat), Value.int 0 (0 : Nat), Value.int 0 (0 : Nat), Value.int 3 (0 : Nat), Value.ref (276 : Nat), Value.bool true, Value.int 181 (0 : Nat), Value.ref (277 : Nat), Value.none, Value.ref (278 : Nat), Value.ref (279 : Nat), Value.ref (280 : Nat), Value.int 752 (0 : Nat), Value.int 96 (0 : Nat), Value.str (Str.ofString "/claim/cut.py") (753 : Nat)] }) ::
  (nat_lit 282, { cls := Value.type "function", dict := (none : Option Nat), data := Data.func { name := Str.ofString "_law_share", qualname := Str.ofString "_law_share", params := a18, body := FuncBody.stmts b18, scope := s18, globals := (3 : Nat), closure := ([] : List (Str × Nat)), defaults := Value.none, kwdefaults := Value.none, pyModule := Value.str (Str.ofString "law_kl0133_01") (716 : Nat), code := Value.ref (281 : Nat), annotations := (none : Option Nat), builtins := (0 : Nat) } }) ::
  (nat_lit 283, { cls := Value.type "tuple", dict := (none : Option Nat), data := Data.seq #[] }) ::
  (nat_lit 285, { cls := Value.type "tuple", dict := (none : Option Nat), data := Data.seq #[Value.str (Str.ofString "hue") (758 : Nat), Value.str (Str.ofString "level") (759 : Nat)] }) ::
  (nat_lit 286, { cls := Value.type "tuple", dict := (none : Option Nat), data := Data.seq #[] }) ::
  (nat_lit 288, { cls := Value.type "code", dict := (none : Option Nat), data := Data.fields #[Value.str (Str.ofString "_law_due_light") (755 : Nat), Value.str (Str.ofString "_law_due_light") (756 : Nat), Value.str (Str.ofString "/claim/cut.py") (757 : Nat), Value.int 99 (0 : Nat), Value.int 2 (0 : Nat), Value.int 0 (0 : Nat), Value.int 0 (0 : Nat), Value.int 3 (0 : Nat), Value.ref (283 : Nat), Value.bool true, Value.int 181 (0 : Nat), Value.ref (284 : Nat), Value.none, Value.ref (285 : Nat), Value.ref (286 : Nat), Value.ref (287 : Nat), Value.int 760 (0 : Nat), Value.int 99 (0 : Nat), Value.str (Str.ofString "/claim/cut.py") (761 : Nat)] }) ::
  (nat_lit 289, { cls := Value.type "function", dict := (none : Option Nat), data := Data.func { name := Str.ofString "_law_due_light", qualname := Str.ofString "_law_due_light", params := a19, body := FuncBody.stmts b19, scope := s19, globals := (3 : Nat), closure := ([] : List (Str × Nat)), defaults := Value.none, kwdefaults := Value.none, pyModule := Value.str (Str.ofString "law_kl0133_01") (716 : Nat), code := Value.ref (288 : Nat), annotations := (none : Option Nat), builtins := (0 : Nat) } }) ::
  (nat_lit 290, { cls := Value.type "tuple", dict := (none : Option Nat), data := Data.seq #[] }) ::
  (nat_lit 292, { cls := Value.type "tuple", dict := (none : Option Nat), data := Data.seq #[Value.str (Str.ofString "hue") (766 : Nat), Value.str (Str.ofString "level") (767 : Nat)] }) ::
  (nat_lit 293, { cls := Value.type "tuple", dict := (none : Option Nat), data := Data.seq #[] }) ::
  (nat_lit 295, { cls := Value.type "code", dict := (none : Option Nat), data := Data.fields #[Value.str (Str.ofString "_law_light") (763 : Nat), Value.str (Str.ofString "_law_light") (764 : Nat), Value.str (Str.ofString "/claim/cut.py") (765 : Nat), Value.int 101 (0 : Nat), Value.int 2 (0 : Nat), Value.int 0 (0 : Nat), Value.int 0 (0 : Nat), Value.int 3 (0 : Nat), Value.ref (290 : Nat), Value.bool true, Value.int 181 (0 : Nat), Value.ref (291 : Nat), Value.none, Value.ref (292 : Nat), Value.ref (293 : Nat), Value.ref (294 : Nat), Value.int 768 (0 : Nat), Value.int 101 (0 : Nat), Value.str (Str.ofString "/claim/cut.py") (769 : Nat)] }) ::
  (nat_lit 296, { cls := Value.type "function", dict := (none : Option Nat), data := Data.func { name := Str.ofString "_law_light", qualname := Str.ofString "_law_light", params := a20, body := FuncBody.stmts b20, scope := s20, globals := (3 : Nat), closure := ([] : List (Str × Nat)), defaults := Value.none, kwdefaults := Value.none, pyModule := Value.str (Str.ofString "law_kl0133_01") (716 : Nat), code := Value.ref (295 : Nat), annotations := (none : Option Nat), builtins := (0 : Nat) } }) ::
  (nat_lit 297, { cls := Value.type "tuple", dict := (none : Option Nat), data := Data.seq #[] }) ::
  (nat_lit 299, { cls := Value.type "tuple", dict := (none : Option Nat), data := Data.seq #[Value.str (Str.ofString "tree") (774 : Nat), Value.str (Str.ofString "key") (775 : Nat), Value.str (Str.ofString "lights") (776 : Nat), Value.str (Str.ofString "words") (777 : Nat), Value.str (Str.ofString "low") (778 : Nat), Value.str (Str.ofString "here") (779 : Nat), Value.str (Str.ofString "high") (780 : Nat), Value.str (Str.ofString "turns") (781 : Nat)] }) ::
  (nat_lit 300, { cls := Value.type "tuple", dict := (none : Option Nat), data := Data.seq #[] }) ::
  (nat_lit 302, { cls := Value.type "code", dict := (none : Option Nat), data := Data.fields #[Value.str (Str.ofString "_law_put") (771 : Nat), Value.str (Str.ofString "_law_put") (772 : Nat), Value.str (Str.ofString "/claim/cut.py") (773 : Nat), Value.int 103 (0 : Nat), Value.int 4 (0 : Nat), Value.int 0 (0 : Nat), Value.int 0 (0 : Nat), Value.int 3 (0 : Nat), Value.ref (297 : Nat), Value.bool true, Value.int 181 (0 : Nat), Value.ref (298 : Nat), Value.none, Value.ref (299 : Nat), Value.ref (300 : Nat), Value.ref (301 : Nat), Value.int 782 (0 : Nat), Value.int 103 (0 : Nat), Value.str (Str.ofString "/claim/cut.py") (783 : Nat)] }) ::
  (nat_lit 303, { cls := Value.type "function", dict := (none : Option Nat), data := Data.func { name := Str.ofString "_law_put", qualname := Str.ofString "_law_put", params := a21, body := FuncBody.stmts b21, scope := s21, globals := (3 : Nat), closure := ([] : List (Str × Nat)), defaults := Value.none, kwdefaults := Value.none, pyModule := Value.str (Str.ofString "law_kl0133_01") (716 : Nat), code := Value.ref (302 : Nat), annotations := (none : Option Nat), builtins := (0 : Nat) } }) ::
  (nat_lit 304, { cls := Value.type "tuple", dict := (none : Option Nat), data := Data.seq #[] }) ::
  (nat_lit 306, { cls := Value.type "tuple", dict := (none : Option Nat), data := Data.seq #[Value.str (Str.ofString "tree") (788 : Nat), Value.str (Str.ofString "most") (789 : Nat), Value.str (Str.ofString "mask") (790 : Nat), Value.str (Str.ofString "lights") (791 : Nat), Value.str (Str.ofString "kinds") (792 : Nat), Value.str (Str.ofString "low") (793 : Nat), Value.str (Str.ofString "here") (794 : Nat), Value.str (Str.ofString "high") (795 : Nat), Value.str (Str.ofString "first") (796 : Nat)] }) ::
  (nat_lit 307, { cls := Value.type "tuple", dict := (none : Option Nat), data := Data.seq #[] }) ::
  (nat_lit 309, { cls := Value.type "code", dict := (none : Option Nat), data := Data.fields #[Value.str (Str.ofString "_law_seen") (785 : Nat), Value.str (Str.ofString "_law_seen") (786 : Nat), Value.str (Str.ofString "/claim/cut.py") (787 : Nat), Value.int 116 (0 : Nat), Value.int 5 (0 : Nat), Value.int 0 (0 : Nat), Value.int 0 (0 : Nat), Value.int 3 (0 : Nat), Value.ref (304 : Nat), Value.bool true, Value.int 181 (0 : Nat), Value.ref (305 : Nat), Value.none, Value.ref (306 : Nat), Value.ref (307 : Nat), Value.ref (308 : Nat), Value.int 797 (0 : Nat), Value.int 116 (0 : Nat), Value.str (Str.ofString "/claim/cut.py") (798 : Nat)] }) ::
  (nat_lit 310, { cls := Value.type "function", dict := (none : Option Nat), data := Data.func { name := Str.ofString "_law_seen", qualname := Str.ofString "_law_seen", params := a22, body := FuncBody.stmts b22, scope := s22, globals := (3 : Nat), closure := ([] : List (Str × Nat)), defaults := Value.none, kwdefaults := Value.none, pyModule := Value.str (Str.ofString "law_kl0133_01") (716 : Nat), code := Value.ref (309 : Nat), annotations := (none : Option Nat), builtins := (0 : Nat) } }) ::
  (nat_lit 311, { cls := Value.type "tuple", dict := (none : Option Nat), data := Data.seq #[] }) ::
  (nat_lit 314, { cls := Value.type "code", dict := (none : Option Nat), data := Data.fields #[Value.str (Str.ofString "_law_all") (800 : Nat), Value.str (Str.ofString "_law_all") (801 : Nat), Value.str (Str.ofString "/claim/cut.py") (802 : Nat), Value.int 126 (0 : Nat), Value.int 4 (0 : Nat), Value.int 0 (0 : Nat), Value.int 0 (0 : Nat), Value.int 3 (0 : Nat), Value.ref (311 : Nat), Value.bool true, Value.int 181 (0 : Nat), Value.ref (312 : Nat), Value.none, Value.none, Value.none, Value.ref (313 : Nat), Value.int 803 (0 : Nat), Value.int 126 (0 : Nat), Value.str (Str.ofString "/claim/cut.py") (804 : Nat)] }) ::
  (nat_lit 315, { cls := Value.type "function", dict := (none : Option Nat), data := Data.func { name := Str.ofString "_law_all", qualname := Str.ofString "_law_all", params := a23, body := FuncBody.stmts b23, scope := s23, globals := (3 : Nat), closure := ([] : List (Str × Nat)), defaults := Value.none, kwdefaults := Value.none, pyModule := Value.str (Str.ofString "law_kl0133_01") (716 : Nat), code := Value.ref (314 : Nat), annotations := (none : Option Nat), builtins := (0 : Nat) } }) ::
  (nat_lit 316, { cls := Value.type "tuple", dict := (none : Option Nat), data := Data.seq #[] }) ::
  (nat_lit 319, { cls := Value.type "code", dict := (none : Option Nat), data := Data.fields #[Value.str (Str.ofString "_law_counts") (806 : Nat), Value.str (Str.ofString "_law_counts") (807 : Nat), Value.str (Str.ofString "/claim/cut.py") (808 : Nat), Value.int 138 (0 : Nat), Value.int 2 (0 : Nat), Value.int 0 (0 : Nat), Value.int 0 (0 : Nat), Value.int 3 (0 : Nat), Value.ref (316 : Nat), Value.bool true, Value.int 181 (0 : Nat), Value.ref (317 : Nat), Value.none, Value.none, Value.none, Value.ref (318 : Nat), Value.int 809 (0 : Nat), Value.int 138 (0 : Nat), Value.str (Str.ofString "/claim/cut.py") (810 : Nat)] }) ::
  (nat_lit 320, { cls := Value.type "function", dict := (none : Option Nat), data := Data.func { name := Str.ofString "_law_counts", qualname := Str.ofString "_law_counts", params := a24, body := FuncBody.stmts b24, scope := s24, globals := (3 : Nat), closure := ([] : List (Str × Nat)), defaults := Value.none, kwdefaults := Value.none, pyModule := Value.str (Str.ofString "law_kl0133_01") (716 : Nat), code := Value.ref (319 : Nat), annotations := (none : Option Nat), builtins := (0 : Nat) } }) ::
  (nat_lit 321, { cls := Value.type "tuple", dict := (none : Option Nat), data := Data.seq #[] }) ::
  (nat_lit 324, { cls := Value.type "code", dict := (none : Option Nat), data := Data.fields #[Value.str (Str.ofString "law") (812 : Nat), Value.str (Str.ofString "law") (813 : Nat), Value.str (Str.ofString "/claim/cut.py") (814 : Nat), Value.int 145 (0 : Nat), Value.int 1 (0 : Nat), Value.int 0 (0 : Nat), Value.int 0 (0 : Nat), Value.int 3 (0 : Nat), Value.ref (321 : Nat), Value.bool true, Value.int 181 (0 : Nat), Value.ref (322 : Nat), Value.none, Value.none, Value.none, Value.ref (323 : Nat), Value.int 815 (0 : Nat), Value.int 145 (0 : Nat), Value.str (Str.ofString "/claim/cut.py") (816 : Nat)] }) ::
  (nat_lit 325, { cls := Value.type "function", dict := (none : Option Nat), data := Data.func { name := Str.ofString "law", qualname := Str.ofString "law", params := a25, body := FuncBody.stmts b25, scope := s25, globals := (3 : Nat), closure := ([] : List (Str × Nat)), defaults := Value.none, kwdefaults := Value.none, pyModule := Value.str (Str.ofString "law_kl0133_01") (716 : Nat), code := Value.ref (324 : Nat), annotations := (none : Option Nat), builtins := (0 : Nat) } }) :: [] : Frag)) rfl rfl rfl rfl rfl rfl rfl rfl rfl rfl rfl rfl rfl rfl rfl rfl rfl rfl
theorem fill_K : PySem.Challenge.rw_kl0133_01 = PySem.Challenge.rw_kl0133_01 ∧ KG = KG := by
  k_fill
  exact ⟨rfl, rfl⟩
end Mine
end
section
open PySem PySem.W PyProof.Rows
namespace Mine
noncomputable abbrev Led := List (Addr × Obj)
noncomputable abbrev PG : Program := PySem.Challenge.rw_kl0133_01.row.prog

/-- what a call of the def at f does, from any caller, from the ledger news -/
noncomputable def Fun (w : World) (p : Program) (loose : List Str) (mean : ExcName → Option Value) (mg mb : Str → Option Value) (f : Addr) (vs : List Value) (news : Led) (D U : Nat) (Post : Value → Led → Prop) : Prop :=
  ∀ (dp un : Nat) (gd : Option (List Code)) (cn : Str) (cs : Scope) (a : Addr) (ccd : Value) (cl : List (Str × Addr)) (outer : List Env) (A₀ : Around) (base h₀ : Heap) (L : Addr) (m : Str → Option Value) (s : Shared) (Q E : Value → Shared → Prop),
    Below A₀ base outer h₀ → Fr h₀ L s.heap m → (KG w.params).In h₀ → News h₀ L s.heap news → Top p loose mean mg mb h₀ → cs.kind = .function →
    dp + D < recursionLimit → un + U < cLine →
    (∀ r nx h' tk', Fr h₀ L h' m → News h₀ L h' nx → Post r nx → Q r { s with heap := h', toks := tk' }) →
    wpAny (model PG w) (ktrTop dp un gd cn cs L a ccd cl outer) (PySem.call (.ref f) vs) Q E s

/-- the ledger has grown: what stood stands, what is new lies above -/
noncomputable def Grow (news nx : Led) : Prop := (∀ p ∈ news, p ∈ nx) ∧ ∀ p ∈ nx, p ∈ news ∨ ∀ q ∈ news, q.1 < p.1
theorem Grow.refl (news : Led) : Grow news news := ⟨fun _ h => h, fun _ h => .inl h⟩
theorem Grow.trans {a b c : Led} (h : Grow a b) (k : Grow b c) : Grow a c :=
  ⟨fun p hp => k.1 p (h.1 p hp), fun p hp => (k.2 p hp).elim (h.2 p) fun e => .inr fun q hq => e q (h.1 q hq)⟩
theorem Grow.cons {news nx : Led} {d : Addr} {o : Obj} (h : Grow news nx) (hl : AllLt d nx) : Grow news ((d, o) :: nx) :=
  ⟨fun p hp => .tail _ (h.1 p hp), fun p hp => by
    rcases List.mem_cons.mp hp with rfl | hp
    · exact .inr fun q hq => ktn_ltOf hl q (h.1 q hq)
    · exact h.2 p hp⟩
theorem sub_cons {a b : Led} {x : Addr × Obj} (h : ∀ p ∈ a, p ∈ b) : ∀ p ∈ a, p ∈ x :: b := fun p hp => .tail _ (h p hp)
theorem sub_grow {a b c : Led} (g : Grow b c) (h : ∀ p ∈ a, p ∈ b) : ∀ p ∈ a, p ∈ c := fun p hp => g.1 p (h p hp)
theorem mem_grow {b c : Led} {p : Addr × Obj} (g : Grow b c) (h : p ∈ b) : p ∈ c := g.1 p h
theorem Grow.sub {news nx : Led} (h : Grow news nx) : ∀ p ∈ news, p ∈ nx := h.1
noncomputable abbrev tupO (l : List Value) (n : Nat) : Obj := { cls := .type "tuple", data := .seq l.toArray n }

inductive Tr where
  | leaf
  | node (l : Tr) (k : Fin 4) (r : Tr)
inductive TrIn (news : Led) : Value → Tr → Prop
  | leaf {a : Addr} {n : Nat} : (a, tupO [] n) ∈ news → TrIn news (.ref a) .leaf
  | node {a : Addr} {n : Nat} {lv rv : Value} {k : Fin 4} {tk : Tok} {l r : Tr} : (a, tupO [lv, .int (k.val : Int) tk, rv] n) ∈ news → TrIn news lv l → TrIn news rv r → TrIn news (.ref a) (.node l k r)
theorem TrIn.mono {news nx : Led} {v : Value} {t : Tr} (h : TrIn news v t) (hs : ∀ p ∈ news, p ∈ nx) : TrIn nx v t := by
  induction h with
  | leaf hm => exact .leaf (hs _ hm)
  | node hm _ _ ih1 ih2 => exact .node (hs _ hm) ih1 ih2
noncomputable def Tr.dat : Tr → PyData
  | .leaf => .tuple []
  | .node l k r => .tuple [l.dat, .int (k.val : Int), r.dat]
noncomputable def Tr.size : Tr → Nat
  | .leaf => 0
  | .node l _ r => l.size + r.size + 1
theorem TrIn.reads {news : Led} {h₀ h : Heap} {L : Addr} {v : Value} {t : Tr} (H : TrIn news v t) (N : News h₀ L h news) : ∃ as, Reads h v t.dat as := by
  induction H with
  | leaf hm => exact ⟨_, Reads.tuple (N _ hm).1 rfl rfl .nil⟩
  | node hm _ _ ih1 ih2 =>
    obtain ⟨a1, h1⟩ := ih1
    obtain ⟨a2, h2⟩ := ih2
    exact ⟨_, Reads.tuple (N _ hm).1 rfl rfl (.cons h1 (.cons (.int _ _) (.cons h2 .nil)))⟩
theorem Tr.depth_le : ∀ t : Tr, t.dat.depth ≤ t.size + 1
  | .leaf => by simp [Tr.dat, PyData.depth, PyData.depthAll]
  | .node l k r => by
    have h1 := Tr.depth_le l
    have h2 := Tr.depth_le r
    simp only [Tr.dat, PyData.depth, PyData.depthAll, Tr.size]
    omega
theorem Tr.canLay : ∀ t : Tr, t.dat.canLay0 = true
  | .leaf => by simp [Tr.dat, PyData.canLay0, PyData.canLayAll0]
  | .node l k r => by
    have h1 := Tr.canLay l
    have h2 := Tr.canLay r
    simp [Tr.dat, PyData.canLay0, PyData.canLayAll0, h1, h2]
theorem Tr.shaped {t : Tr} (h : t.size ≤ 60) : SeqAt.shaped t.dat = true := by
  have h1 := t.depth_le
  show (PyData.canLay0 t.dat && decide (PyData.depth t.dat ≤ 64)) = true
  rw [Bool.and_eq_true]
  exact ⟨t.canLay, decide_eq_true (by omega)⟩
end Mine
namespace Mine
noncomputable def Tr.isLeaf : Tr → Bool
  | .leaf => true
  | .node .. => false
theorem Tr.eqv_leaf : ∀ t : Tr, PyData.eqv t.dat (.tuple []) = t.isLeaf
  | .leaf => by simp [Tr.dat, PyData.eqv, PyData.eqvAll, Tr.isLeaf]
  | .node .. => by simp [Tr.dat, PyData.eqv, PyData.eqvAll, Tr.isLeaf]
/-- a list of four texts, of four ints -/
noncomputable def StrsAt (news : Led) (a : Addr) (W : Fin 4 → Str) : Prop :=
  ∃ (l : List Value) (n : Nat), (a, listOf l.toArray n) ∈ news ∧ ∀ i : Fin 4, ∃ t, l[i.val]? = some (.str (W i) t)
noncomputable def NumsAt (news : Led) (a : Addr) (G : Fin 4 → Int) : Prop :=
  ∃ (l : List Value) (n : Nat), (a, listOf l.toArray n) ∈ news ∧ ∀ i : Fin 4, ∃ t, l[i.val]? = some (.int (G i) t)
theorem StrsAt.mono {news nx : Led} {a : Addr} {W : Fin 4 → Str} (h : StrsAt news a W) (hs : ∀ p ∈ news, p ∈ nx) : StrsAt nx a W :=
  let ⟨l, n, hm, hv⟩ := h
  ⟨l, n, hs _ hm, hv⟩
theorem NumsAt.mono {news nx : Led} {a : Addr} {W : Fin 4 → Int} (h : NumsAt news a W) (hs : ∀ p ∈ news, p ∈ nx) : NumsAt nx a W :=
  let ⟨l, n, hm, hv⟩ := h
  ⟨l, n, hs _ hm, hv⟩
theorem fin4_fit (k : Fin 4) : ((k.val : Nat) : Int) < 2 ^ 63 := by have := k.isLt; omega
section
variable {prog : Program} {w : World} {A : Around} {E : Value → Shared → Prop} {s : Shared} {h₀ : Heap} {L : Addr} {news nx : Led} {Q : Value → Shared → Prop}
theorem eq_leaf {v : Value} {t : Tr} {q : Addr} (N : News h₀ L s.heap nx) (H : TrIn news v t) (hsz : t.size ≤ 60) (hs : ∀ p ∈ news, p ∈ nx) (hq : (q, tupO [] 0) ∈ nx) (hu : A.units + 64 < cLine)
    (h : Q (.bool t.isLeaf) s) : wpAny (model prog w) A (compareOp .Eq v (.ref q)) Q E s := by
  obtain ⟨as, hr⟩ := (H.mono hs).reads N
  exact eq_dataH hr (Reads.tuple (N _ hq).1 rfl rfl .nil) (Tr.shaped hsz) (by decide) hu (by rw [Tr.eqv_leaf]; exact h)
theorem str_item {value slice : Expr} {a : Addr} {W : Fin 4 → Str} {k : Fin 4} {u : Tok} (N : News h₀ L s.heap nx) (H : StrsAt news a W) (hs : ∀ p ∈ news, p ∈ nx)
    (h : ∀ t, Q (.str (W k) t) s)
    (hsub : subscripted slice false (.ref a) (.int (k.val : Int) u) = operate [.ref a, .int (k.val : Int) u] (getItem (.ref a) (.int (k.val : Int) u)) := by with_unfolding_all rfl)
    (hg : ∀ r, letTemporaryGo value (.ref a) r = pure () := by intro _; with_unfolding_all rfl) :
    wpAny (model prog w) A (subscriptTail value slice (.ref a) (.int (k.val : Int) u)) Q E s := by
  obtain ⟨l, n, hm, hv⟩ := H
  obtain ⟨t, ht⟩ := hv k
  exact item_listL ⟨_, (N _ (hs _ hm)).1, rfl, n, rfl⟩ (Int.natCast_nonneg _) (fin4_fit k) (by simpa using ht) (h t) hsub hg
theorem num_item {value slice : Expr} {a : Addr} {W : Fin 4 → Int} {k : Fin 4} {u : Tok} (N : News h₀ L s.heap nx) (H : NumsAt news a W) (hs : ∀ p ∈ news, p ∈ nx)
    (h : ∀ t, Q (.int (W k) t) s)
    (hsub : subscripted slice false (.ref a) (.int (k.val : Int) u) = operate [.ref a, .int (k.val : Int) u] (getItem (.ref a) (.int (k.val : Int) u)) := by with_unfolding_all rfl)
    (hg : ∀ r, letTemporaryGo value (.ref a) r = pure () := by intro _; with_unfolding_all rfl) :
    wpAny (model prog w) A (subscriptTail value slice (.ref a) (.int (k.val : Int) u)) Q E s := by
  obtain ⟨l, n, hm, hv⟩ := H
  obtain ⟨t, ht⟩ := hv k
  exact item_listL ⟨_, (N _ (hs _ hm)).1, rfl, n, rfl⟩ (Int.natCast_nonneg _) (fin4_fit k) (by simpa using ht) (h t) hsub hg
end
theorem Fun.use {w : World} {p : Program} {loose : List Str} {mean : ExcName → Option Value} {mg mb : Str → Option Value} {f : Addr} {vs : List Value} {news : Led} {D U : Nat} {Post : Value → Led → Prop}
    {dp un : Nat} {gd : Option (List Code)} {cn : Str} {cs : Scope} {a : Addr} {ccd : Value} {cl : List (Str × Addr)} {outer : List Env} {A₀ : Around} {base h₀ : Heap} {L : Addr} {m : Str → Option Value} {s : Shared} {Q E : Value → Shared → Prop}
    (B : Below A₀ base outer h₀) (F : Fr h₀ L s.heap m) (X : (KG w.params).In h₀) (N : News h₀ L s.heap news) (T : Top p loose mean mg mb h₀) (hk : cs.kind = .function)
    (C : Fun w p loose mean mg mb f vs news D U Post) (hd : dp + D < recursionLimit) (hu : un + U < cLine)
    (ret : ∀ r nx h' tk', Fr h₀ L h' m → News h₀ L h' nx → Post r nx → Q r { s with heap := h', toks := tk' }) :
    wpAny (model PG w) (ktrTop dp un gd cn cs L a ccd cl outer) (PySem.call (.ref f) vs) Q E s :=
  C _ _ _ _ _ _ _ _ _ _ _ _ _ _ _ _ _ B F X N T hk hd hu ret

noncomputable def sc (x y : Str) : Int := b2i (decide (y.cps.toList < x.cps.toList)) - b2i (decide (x.cps.toList < y.cps.toList))
/-- what put makes of a tree -/
noncomputable def putF (gt lt : Fin 4 → Fin 4 → Bool) (key : Fin 4) : Tr → (Tr × Fin 4 × Tr) × Nat
  | .leaf => ((.leaf, key, .leaf), 0)
  | .node low here high =>
    if lt key here then
      let x := putF gt lt key low
      if gt x.1.2.1 here then ((x.1.1, x.1.2.1, .node x.1.2.2 here high), x.2 + 1) else ((.node x.1.1 x.1.2.1 x.1.2.2, here, high), x.2)
    else
      let x := putF gt lt key high
      if gt x.1.2.1 here then ((.node low here x.1.1, x.1.2.1, x.1.2.2), x.2 + 1) else ((low, here, .node x.1.1 x.1.2.1 x.1.2.2), x.2)
structure PutPost (news : Led) (x : (Tr × Fin 4 × Tr) × Nat) (r : Value) (nx : Led) : Prop where
  out : ∃ (ra a : Addr) (n n2 : Nat) (lv rv : Value) (tk tk2 : Tok), Grow news nx ∧ r = .ref ra ∧
    (ra, tupO [.ref a, .int (x.2 : Int) tk2] n) ∈ nx ∧ (a, tupO [lv, .int (x.1.2.1.val : Int) tk, rv] n2) ∈ nx ∧ TrIn nx lv x.1.1 ∧ TrIn nx rv x.1.2.2
theorem PutPost.of {news nx : Led} {x : (Tr × Fin 4 × Tr) × Nat} {tl tr : Tr} {k : Fin 4} {i : Int} {ra a : Addr} {n n2 : Nat} {lv rv : Value} {tk tk2 : Tok} (g : Grow news nx)
    (m1 : (ra, tupO [.ref a, .int i tk2] n) ∈ nx) (m2 : (a, tupO [lv, .int (k.val : Int) tk, rv] n2) ∈ nx) (t1 : TrIn nx lv tl) (t2 : TrIn nx rv tr) (e1 : x.1 = (tl, k, tr)) (e2 : (x.2 : Int) = i) : PutPost news x (.ref ra) nx := by
  obtain ⟨⟨xl, xk, xr⟩, xn⟩ := x
  cases e1
  cases e2
  exact ⟨_, _, _, _, _, _, _, _, g, rfl, m1, m2, t1, t2⟩
end Mine
namespace Mine
section
variable {prog : Program} {w : World} {A : Around} {E : Value → Shared → Prop} {s : Shared} {h₀ : Heap} {L : Addr} {news nx : Led} {Q : Value → Shared → Prop}
theorem tup_item3 {value slice : Expr} {a : Addr} {x y z v : Value} {n : Nat} {k : Int} {u : Tok} {j : Nat} (N : News h₀ L s.heap nx) (hm : (a, tupO [x, y, z] n) ∈ nx) (hlo : -(2 ^ 63) ≤ k) (hhi : k < 2 ^ 63) (hj : seqIndex? k 3 = some j) (hx : [x, y, z][j]? = some v)
    (h : Q v s)
    (hsub : subscripted slice false (.ref a) (.int k u) = operate [.ref a, .int k u] (getItem (.ref a) (.int k u)) := by with_unfolding_all rfl)
    (hg : ∀ r, letTemporaryGo value (.ref a) r = pure () := by intro _; with_unfolding_all rfl) :
    wpAny (model prog w) A (subscriptTail value slice (.ref a) (.int k u)) Q E s :=
  item_tupleL ⟨_, (N _ hm).1, rfl, n, rfl⟩ hlo hhi hj hx h hsub hg
end
end Mine
end
section
open PySem PySem.W PyProof.Rows
namespace Mine
set_option maxRecDepth 100000
set_option maxHeartbeats 4000000
variable (w : World) (p : Program) (loose : List Str) (mean : ExcName → Option Value) (mg mb : Str → Option Value)

theorem strcoll_fun (news : Led) (x y : Str) (t u : Tok) :
    Fun w p loose mean mg mb 50 [.str x t, .str y u] news 1 8 (fun r nx => nx = news ∧ ∃ t, r = .int (sc x y) t) := by
  unfold Fun
  intro dp un gd cn cs a ccd cl outer A₀ base h₀ L m s Q E B F X N T hk hd hu hret
  refine wpAny_call ?_
  k_dflt ktr_enter
  k_steps
  all_goals exact hret _ _ _ _ (by k_asm) (by k_asm) ⟨rfl, _, rfl⟩

local macro_rules | `(tactic| k_mem) => `(tactic| first | assumption | exact List.Mem.head _ | (refine List.mem_cons_of_mem _ ?_; k_mem) | (refine mem_grow (by assumption) ?_; k_mem))
local macro_rules | `(tactic| ktd_sub) => `(tactic| first | assumption | exact fun _ h => h | (refine sub_cons ?_; ktd_sub) | (refine sub_grow (by assumption) ?_; ktd_sub))
local macro_rules | `(tactic| ktn_ord) => `(tactic| first | assumption | exact Grow.refl _ | (refine Grow.cons ?_ (by ktn_lt); ktn_ord) | (refine Grow.trans ?_ (by assumption); ktn_ord))
local macro_rules | `(tactic| ktr_rel) => `(tactic| first | assumption | exact TrIn.leaf (by k_mem) | exact TrIn.node (by k_mem) (by ktr_rel) (by ktr_rel) | exact TrIn.mono (by assumption) (by ktd_sub))
local macro_rules | `(tactic| walk_at "compareOp Eq ref ref") => `(tactic| (k_here; (with_reducible show wpAny _ _ (compareOp CmpOp.Eq (Value.ref _) (Value.ref _)) _ _ _); k_dflt (refine' eq_leaf ?k1 ?k2 ?k3 ?k4 ?k5 ?k6 ?_; (case k1 => k_asm); (case k2 => first | assumption | (refine TrIn.node ?_ ?_ ?_ <;> assumption) | (refine TrIn.leaf ?_; assumption)); (case k3 => assumption); (case k4 => ktd_sub); (case k5 => k_mem); (case k6 => ktr_units); k_whole); (try dsimp only [Tr.isLeaf])))
local macro_rules | `(tactic| walk_at "subscriptTail") => `(tactic| (k_here; (with_reducible show wpAny _ _ (subscriptTail _ _ (Value.ref _) (Value.int ((Fin.val _ : Nat) : Int) _)) _ _ _); k_dflt (refine' str_item ?k1 ?k2 ?k3 ?_ ?k4 ?k5; (case k1 => k_asm); (case k2 => assumption); (case k3 => ktd_sub); (case k4 => with_unfolding_all rfl); (case k5 => (intro _; with_unfolding_all rfl)); k_whole); (try dsimp only [Tr.isLeaf]); intro _))
local macro_rules | `(tactic| walk_at "subscriptTail") => `(tactic| (k_here; (with_reducible show wpAny _ _ (subscriptTail _ _ (Value.ref _) (Value.int ((Fin.val _ : Nat) : Int) _)) _ _ _); k_dflt (refine' num_item ?k1 ?k2 ?k3 ?_ ?k4 ?k5; (case k1 => k_asm); (case k2 => assumption); (case k3 => ktd_sub); (case k4 => with_unfolding_all rfl); (case k5 => (intro _; with_unfolding_all rfl)); k_whole); (try dsimp only [Tr.isLeaf]); intro _))
local macro_rules | `(tactic| walk_at "subscriptTail") => `(tactic| (k_here; (with_reducible show wpAny _ _ (subscriptTail _ _ (Value.ref _) (Value.int 0 _)) _ _ _); k_dflt (refine' tup_item3 (k := 0) (j := 0) ?k1 ?k2 (by decide) (by decide) rfl rfl ?_ ?k4 ?k5; (case k1 => k_asm); (case k2 => k_mem); (case k4 => with_unfolding_all rfl); (case k5 => (intro _; with_unfolding_all rfl)); k_whole)))
local macro_rules | `(tactic| walk_at "subscriptTail") => `(tactic| (k_here; (with_reducible show wpAny _ _ (subscriptTail _ _ (Value.ref _) (Value.int 1 _)) _ _ _); k_dflt (refine' tup_item3 (k := 1) (j := 1) ?k1 ?k2 (by decide) (by decide) rfl rfl ?_ ?k4 ?k5; (case k1 => k_asm); (case k2 => k_mem); (case k4 => with_unfolding_all rfl); (case k5 => (intro _; with_unfolding_all rfl)); k_whole)))
local macro_rules | `(tactic| walk_at "subscriptTail") => `(tactic| (k_here; (with_reducible show wpAny _ _ (subscriptTail _ _ (Value.ref _) (Value.int 2 _)) _ _ _); k_dflt (refine' tup_item3 (k := 2) (j := 2) ?k1 ?k2 (by decide) (by decide) rfl rfl ?_ ?k4 ?k5; (case k1 => k_asm); (case k2 => k_mem); (case k4 => with_unfolding_all rfl); (case k5 => (intro _; with_unfolding_all rfl)); k_whole)))
local macro_rules | `(tactic| walk_at "call ref") => `(tactic| (k_here; (with_reducible show wpAny _ _ (PySem.call (Value.ref 50) _) _ _ _); k_dflt (refine' Fun.use ?k1 ?k2 ?k3 ?k4 ?k5 ?k6 (strcoll_fun _ _ _ _ _ _ _ _ _ _ _) ?kd ?ku ?_; (case k1 => k_asm); (case k2 => k_asm); (case k3 => k_asm); (case k4 => k_asm); (case k5 => k_asm); (case k6 => first | exact rfl | assumption); (case kd => ktr_room); (case ku => ktr_units)); intro r9 nx9 h9 tk9 F9 N9 P9; obtain ⟨e9, t9, f9⟩ := P9; subst e9; subst f9; (try dsimp only); (try k_fold)))

theorem put_fun (la wa : Addr) (G : Fin 4 → Int) (W : Fin 4 → Str) (key : Fin 4) : ∀ t : Tr, t.size ≤ 60 → ∀ (news : Led) (v : Value) (tk : Tok), TrIn news v t → NumsAt news la G → StrsAt news wa W →
    Fun w p loose mean mg mb 303 [v, .int (key.val : Int) tk, .ref la, .ref wa] news (t.size + 3) (8 * t.size + 100) (PutPost news (putF (fun a b => decide (G a > G b)) (fun a b => decide (sc (W a) (W b) < 0)) key t)) := by
  intro t
  induction t with
  | leaf =>
    intro hsz news v tk H hG hW
    unfold Fun
    cases H with
    | leaf hm => ?_
    have H := TrIn.leaf hm
    intro dp un gd cn cs a ccd cl outer A₀ base h₀ L m s Q E B F X N T hk hd hu hret
    refine wpAny_call ?_
    k_dflt ktr_enter
    k_steps
    all_goals (refine' hret _ _ _ _ ?f1 ?f2 (PutPost.of (tl := .leaf) (tr := .leaf) (k := key) ?g ?m1 ?m2 ?t1 ?t2 rfl rfl); (case f1 => k_asm); (case f2 => k_asm); (case g => ktn_ord); (case m1 => k_mem); (case m2 => k_mem); (case t1 => ktr_rel); (case t2 => ktr_rel))
  | node l k r ihl ihr =>
    intro hsz news v tk H hG hW
    unfold Fun
    cases H with
    | node hm hl hr => ?_
    have H := TrIn.node hm hl hr
    have hsl : l.size ≤ 60 := by simp only [Tr.size] at hsz; omega
    have hsr : r.size ≤ 60 := by simp only [Tr.size] at hsz; omega
    intro dp un gd cn cs a ccd cl outer A₀ base h₀ L m s Q E B F X N T hk hd hu hret
    simp only [Tr.size] at hd hu
    refine wpAny_call ?_
    k_dflt ktr_enter
    k_steps
    · k_dflt (refine' Fun.use ?k1 ?k2 ?k3 ?k4 ?k5 ?k6 (ihl hsl _ _ _ (hl.mono ?s1) (hG.mono ?s2) (hW.mono ?s3)) ?kd ?ku ?_; (case k1 => k_asm); (case k2 => k_asm); (case k3 => k_asm); (case k4 => k_asm); (case k5 => k_asm); (case k6 => first | exact rfl | assumption); (case s1 => ktd_sub); (case s2 => ktd_sub); (case s3 => ktd_sub); (case kd => ktr_room); (case ku => ktr_units))
      intro r9 nx9 h9 tk9 F9 N9 P9
      obtain ⟨ra, a, n, n2, lv', rv', tk', tk2, hg9, f9, hra, ha, hl9, hr9⟩ := P9.out
      subst f9
      (try dsimp only)
      k_steps
      all_goals (refine' hret _ _ _ _ ?f1 ?f2 (PutPost.of ?g ?m1 ?m2 ?t1 ?t2 ?e1 ?e2); (case f1 => k_asm); (case f2 => k_asm); (case m1 => k_mem); (case m2 => k_mem); (case g => ktn_ord); (case t1 => ktr_rel); (case t2 => ktr_rel); (case e1 => (simp only [putF, decide_eq_true_eq]; (repeat' split) <;> first | rfl | (exfalso; omega))); (case e2 => (simp only [putF, decide_eq_true_eq]; (repeat' split) <;> first | rfl | (exfalso; omega))))
    · k_dflt (refine' Fun.use ?k1 ?k2 ?k3 ?k4 ?k5 ?k6 (ihr hsr _ _ _ (hr.mono ?s1) (hG.mono ?s2) (hW.mono ?s3)) ?kd ?ku ?_; (case k1 => k_asm); (case k2 => k_asm); (case k3 => k_asm); (case k4 => k_asm); (case k5 => k_asm); (case k6 => first | exact rfl | assumption); (case s1 => ktd_sub); (case s2 => ktd_sub); (case s3 => ktd_sub); (case kd => ktr_room); (case ku => ktr_units))
      intro r9 nx9 h9 tk9 F9 N9 P9
      obtain ⟨ra, a, n, n2, lv', rv', tk', tk2, hg9, f9, hra, ha, hl9, hr9⟩ := P9.out
      subst f9
      (try dsimp only)
      k_steps
      all_goals (refine' hret _ _ _ _ ?f1 ?f2 (PutPost.of ?g ?m1 ?m2 ?t1 ?t2 ?e1 ?e2); (case f1 => k_asm); (case f2 => k_asm); (case m1 => k_mem); (case m2 => k_mem); (case g => ktn_ord); (case t1 => ktr_rel); (case t2 => ktr_rel); (case e1 => (simp only [putF, decide_eq_true_eq]; (repeat' split) <;> first | rfl | (exfalso; omega))); (case e2 => (simp only [putF, decide_eq_true_eq]; (repeat' split) <;> first | rfl | (exfalso; omega))))
end Mine
end
section
open PySem PySem.W PyProof.Rows
namespace Mine
noncomputable def SetAt (d : Addr) (news nx : Led) : Prop := ∀ p ∈ news, p.1 ≠ d → p ∈ nx
theorem News.agree {h₀ h : Heap} {L : Addr} {news : Led} (N : News h₀ L h news) {a : Addr} {o o' : Obj} (h1 : (a, o) ∈ news) (h2 : (a, o') ∈ news) : o = o' := by
  have e1 := (N _ h1).1
  have e2 := (N _ h2).1
  rw [e1] at e2
  exact Option.some.inj e2
theorem tup_ne_list {h₀ h : Heap} {L : Addr} {news : Led} (N : News h₀ L h news) {a d : Addr} {l : List Value} {n : Nat} {its : Array Value} {n2 : Nat} (h1 : (a, tupO l n) ∈ news) (h2 : (d, listOf its n2) ∈ news) : a ≠ d := by
  rintro rfl
  have e := News.agree N h1 h2
  have e2 := congrArg Obj.cls e
  simp at e2
theorem TrIn.set {h₀ h : Heap} {L : Addr} {news nx : Led} {v : Value} {t : Tr} {d : Addr} {its : Array Value} {n : Nat} (N : News h₀ L h news) (H : TrIn news v t) (hd : (d, listOf its n) ∈ news) (S : SetAt d news nx) : TrIn nx v t := by
  induction H with
  | leaf hm => exact .leaf (S _ hm (tup_ne_list N hm hd))
  | node hm _ _ ih1 ih2 => exact .node (S _ hm (tup_ne_list N hm hd)) ih1 ih2
theorem NumsAt.set {news nx : Led} {a d : Addr} {G : Fin 4 → Int} (H : NumsAt news a G) (hne : a ≠ d) (S : SetAt d news nx) : NumsAt nx a G :=
  let ⟨l, n, hm, hv⟩ := H
  ⟨l, n, S _ hm hne, hv⟩
theorem StrsAt.set {news nx : Led} {a d : Addr} {G : Fin 4 → Str} (H : StrsAt news a G) (hne : a ≠ d) (S : SetAt d news nx) : StrsAt nx a G :=
  let ⟨l, n, hm, hv⟩ := H
  ⟨l, n, S _ hm hne, hv⟩
/-- a list of ints of the ledger -/
noncomputable def IntsL (news : Led) (a : Addr) (ns : List Int) : Prop := ∃ (vs : List Value) (n : Nat), (a, listOf vs.toArray n) ∈ news ∧ IntsAre vs ns
theorem IntsL.one {news : Led} {a : Addr} {x : Int} {t : Tok} {n : Nat} (h : (a, listOf [Value.int x t].toArray n) ∈ news) : IntsL news a [x] := ⟨_, _, h, .cons _ _ .nil⟩
theorem IntsL.zero {news : Led} {a : Addr} {n : Nat} (h : (a, listOf ([] : List Value).toArray n) ∈ news) : IntsL news a [] := ⟨_, _, h, .nil⟩
theorem IntsL.mono {news nx : Led} {a : Addr} {ns : List Int} (h : IntsL news a ns) (hs : ∀ p ∈ news, p ∈ nx) : IntsL nx a ns :=
  let ⟨vs, n, hm, hi⟩ := h
  ⟨vs, n, hs _ hm, hi⟩
theorem IntsL.set {news nx : Led} {a d : Addr} {ns : List Int} (h : IntsL news a ns) (hne : a ≠ d) (S : SetAt d news nx) : IntsL nx a ns :=
  let ⟨vs, n, hm, hi⟩ := h
  ⟨vs, n, S _ hm hne, hi⟩
theorem IntsL.fst {news : Led} {a : Addr} {ns : List Int} (h : IntsL news a ns) : ∃ o, (a, o) ∈ news :=
  let ⟨_, _, hm, _⟩ := h
  ⟨_, hm⟩
section
variable {prog : Program} {w : World} {A : Around} {E : Value → Shared → Prop} {s : Shared} {h₀ : Heap} {L : Addr} {m : Str → Option Value} {news nx : Led}
theorem set_any {D : Addr} {vs : List Value} {n : Nat} {k : Int} {t : Tok} {v : Value} {Q : Unit → Shared → Prop} (F : Fr h₀ L s.heap m) (N : News h₀ L s.heap news) (hm : (D, listOf vs.toArray n) ∈ news) (h0 : 0 ≤ k) (h1 : k < vs.length) (hfit : k < 2 ^ 63)
    (h : ∀ h' nx, Fr h₀ L h' m → News h₀ L h' nx → SetAt D news nx → (D, listOf (vs.set k.toNat v).toArray n) ∈ nx → Q () { s with heap := h' }) :
    wpAny (model prog w) A (setItem (.ref D) (.int k t) v) Q E s := by
  have z := N _ hm
  refine ki_setAt z.1 h0 hfit (by simpa using h1) ?_
  refine h _ ((D, listOf (vs.set k.toNat v).toArray n) :: news.filter (fun p => p.1 != D)) (F.change (Heap.SameBut.update ..) z.2.1 z.2.2) ?_ ?_ (.head _)
  · intro p hp
    rcases List.mem_cons.mp hp with rfl | hp
    · refine ⟨?_, z.2⟩
      refine Heap.get?_update_self _ z.1 ?_ |>.trans ?_
      · rfl
      · simp [Obj.mapSeq]
    · obtain ⟨hp1, hp2⟩ := List.mem_filter.mp hp
      have hne : p.1 ≠ D := by simpa using hp2
      exact ⟨(Heap.get?_update_ne _ _ _ _ hne).trans (N p hp1).1, (N p hp1).2⟩
  · intro p hp hne
    exact .tail _ (List.mem_filter.mpr ⟨hp, by simpa using hne⟩)
theorem intsL_get {a : Addr} {ns : List Int} {k : Int} {u : Tok} {Q : Value → Shared → Prop} (N : News h₀ L s.heap nx) (H : IntsL news a ns) (hs : ∀ p ∈ news, p ∈ nx) (h0 : 0 ≤ k) (h1 : k < ns.length) (hfit : k < 2 ^ 63)
    (h : ∀ t, Q (.int (ns.getD k.toNat 0) t) s) : wpAny (model prog w) A (getItem (.ref a) (.int k u)) Q E s := by
  obtain ⟨vs, n, hm, hi⟩ := H
  exact getItem_intsK (PySem.IsL.isList (n := n) (N _ (hs _ hm)).1) hi h0 h1 hfit h
theorem intsL_sub {value slice : Expr} {a : Addr} {ns : List Int} {k : Int} {u : Tok} {Q : Value → Shared → Prop} (N : News h₀ L s.heap nx) (H : IntsL news a ns) (hs : ∀ p ∈ news, p ∈ nx) (h0 : 0 ≤ k) (h1 : k < ns.length) (hfit : k < 2 ^ 63)
    (h : ∀ t, Q (.int (ns.getD k.toNat 0) t) s)
    (hsub : subscripted slice false (.ref a) (.int k u) = operate [.ref a, .int k u] (getItem (.ref a) (.int k u)) := by with_unfolding_all rfl) :
    wpAny (model prog w) A (subscriptTail value slice (.ref a) (.int k u)) Q E s := by
  obtain ⟨vs, n, hm, hi⟩ := H
  exact item_anyK (PySem.IsL.isList (n := n) (N _ (hs _ hm)).1) hi h0 h1 hfit h hsub
theorem intsL_set {a : Addr} {ns : List Int} {k x : Int} {t u : Tok} {Q : Unit → Shared → Prop} (F : Fr h₀ L s.heap m) (N : News h₀ L s.heap nx) (H : IntsL news a ns) (hs : ∀ p ∈ news, p ∈ nx) (h0 : 0 ≤ k) (h1 : k < ns.length) (hfit : k < 2 ^ 63)
    (h : ∀ h' ny, Fr h₀ L h' m → News h₀ L h' ny → SetAt a nx ny → (∃ its n, (a, listOf its n) ∈ nx) → IntsL ny a (ns.set k.toNat x) → Q () { s with heap := h' }) :
    wpAny (model prog w) A (setItem (.ref a) (.int k t) (.int x u)) Q E s := by
  obtain ⟨vs, n, hm, hi⟩ := H
  have hl : vs.length = ns.length := hi.length
  exact set_any F N (hs _ hm) h0 (by omega) hfit fun h' ny F' N' S hm' => h h' ny F' N' S ⟨_, _, hs _ hm⟩ ⟨_, _, hm', ints_set hi _⟩
end
/-- the table of kinds -/
structure Kinds (news : Led) (ka : Addr) (kk : Fin 4 → Addr) (K : Fin 4 → List Int) : Prop where
  outer : ∃ n, (ka, listOf [.ref (kk 0), .ref (kk 1), .ref (kk 2), .ref (kk 3)].toArray n) ∈ news
  inner : ∀ i, IntsL news (kk i) (K i) ∧ (K i).length = 16
  inj : ∀ i j, kk i = kk j → i = j
  off : ∀ i, ka ≠ kk i
theorem Kinds.mono {news nx : Led} {ka : Addr} {kk : Fin 4 → Addr} {K : Fin 4 → List Int} (h : Kinds news ka kk K) (hs : ∀ p ∈ news, p ∈ nx) : Kinds nx ka kk K :=
  ⟨let ⟨n, hm⟩ := h.outer; ⟨n, hs _ hm⟩, fun i => ⟨(h.inner i).1.mono hs, (h.inner i).2⟩, h.inj, h.off⟩
noncomputable def updK (K : Fin 4 → List Int) (i : Fin 4) (ns : List Int) : Fin 4 → List Int := fun j => if j = i then ns else K j
theorem Kinds.set {news nx : Led} {ka : Addr} {kk : Fin 4 → Addr} {K : Fin 4 → List Int} {i : Fin 4} {ns : List Int} (h : Kinds news ka kk K) (S : SetAt (kk i) news nx) (H : IntsL nx (kk i) ns) (hl : ns.length = 16) : Kinds nx ka kk (updK K i ns) := by
  refine ⟨let ⟨n, hm⟩ := h.outer; ⟨n, S _ hm (h.off i)⟩, fun j => ?_, h.inj, h.off⟩
  unfold updK
  by_cases e : j = i
  · subst e; simp only [if_true]; exact ⟨H, hl⟩
  · simp only [if_neg e]
    exact ⟨(h.inner j).1.set (fun q => e (h.inj _ _ q)) S, (h.inner j).2⟩
section
variable {prog : Program} {w : World} {A : Around} {E : Value → Shared → Prop} {s : Shared} {h₀ : Heap} {L : Addr} {m : Str → Option Value} {news nx : Led}
theorem kinds_sub {value slice : Expr} {a : Addr} {kk : Fin 4 → Addr} {K : Fin 4 → List Int} {k : Fin 4} {u : Tok} {Q : Value → Shared → Prop} (N : News h₀ L s.heap nx) (H : Kinds news a kk K) (hs : ∀ p ∈ news, p ∈ nx)
    (h : Q (.ref (kk k)) s)
    (hsub : subscripted slice false (.ref a) (.int (k.val : Int) u) = operate [.ref a, .int (k.val : Int) u] (getItem (.ref a) (.int (k.val : Int) u)) := by with_unfolding_all rfl)
    (hg : ∀ r, letTemporaryGo value (.ref a) r = pure () := by intro _; with_unfolding_all rfl) :
    wpAny (model prog w) A (subscriptTail value slice (.ref a) (.int (k.val : Int) u)) Q E s := by
  obtain ⟨n, hm⟩ := H.outer
  refine item_listL (x := .ref (kk k)) ⟨_, (N _ (hs _ hm)).1, rfl, n, rfl⟩ (Int.natCast_nonneg _) (fin4_fit k) ?_ h hsub hg
  match k with
  | 0 => rfl
  | 1 => rfl
  | 2 => rfl
  | 3 => rfl
end

theorem Fun.cast {w : World} {p : Program} {loose : List Str} {mean : ExcName → Option Value} {mg mb : Str → Option Value} {f : Addr} {vs vs' : List Value} {news : Led} {D U : Nat} {Post : Value → Led → Prop}
    (e : vs = vs') (C : Fun w p loose mean mg mb f vs' news D U Post) : Fun w p loose mean mg mb f vs news D U Post := e ▸ C
/-- what seen makes: the list, the table -/
noncomputable def seenF (G : Fin 4 → Int) : Tr → Int → Nat → (Fin 4 → List Int) → List Int × (Fin 4 → List Int)
  | .leaf, _, _, K => ([], K)
  | .node low here high, most, mask, K =>
    if G here ≥ most then ([9], K)
    else
      let mk := mask + 2 ^ here.val
      let K1 := updK K here ((K here).set mk ((K here).getD mk 0 + 1))
      let x := seenF G low (G here) mk K1
      let y := seenF G high (G here) mk x.2
      (x.1 ++ [(here.val : Int)] ++ y.1, y.2)
noncomputable def okF : Tr → Nat → Bool
  | .leaf, _ => true
  | .node low here high, mask => decide (mask + 2 ^ here.val < 16) && okF low (mask + 2 ^ here.val) && okF high (mask + 2 ^ here.val)
theorem seenF_cut {G : Fin 4 → Int} {l r : Tr} {k : Fin 4} {most : Int} {mask : Nat} {K : Fin 4 → List Int} (h : most ≤ G k) : seenF G (.node l k r) most mask K = ([9], K) := by
  simp only [seenF]; rw [if_pos h]
theorem seenF_on {G : Fin 4 → Int} {l r : Tr} {k : Fin 4} {most : Int} {mask : Nat} {K : Fin 4 → List Int} (h : ¬ most ≤ G k) {mk : Nat} {K1 : Fin 4 → List Int} (e : mk = mask + 2 ^ k.val) (e1 : K1 = updK K k ((K k).set mk ((K k).getD mk 0 + 1))) :
    seenF G (.node l k r) most mask K = ((seenF G l (G k) mk K1).1 ++ [(k.val : Int)] ++ (seenF G r (G k) mk (seenF G l (G k) mk K1).2).1, (seenF G r (G k) mk (seenF G l (G k) mk K1).2).2) := by
  subst e; subst e1
  simp only [seenF]; rw [if_neg h]
structure SeenPost (news : Led) (ka : Addr) (kk : Fin 4 → Addr) (x : List Int × (Fin 4 → List Int)) (r : Value) (nx : Led) : Prop where
  out : ∃ (ra : Addr), r = .ref ra ∧ IntsL nx ra x.1 ∧ Kinds nx ka kk x.2 ∧ ∀ p ∈ news, (∀ i, p.1 ≠ kk i) → p ∈ nx
theorem TrIn.frame {h₀ h : Heap} {L : Addr} {news nx : Led} {v : Value} {t : Tr} {ka : Addr} {kk : Fin 4 → Addr} {K : Fin 4 → List Int} (N : News h₀ L h news) (H : TrIn news v t) (Kd : Kinds news ka kk K) (fr : ∀ p ∈ news, (∀ i, p.1 ≠ kk i) → p ∈ nx) : TrIn nx v t := by
  have off : ∀ {a : Addr} {l : List Value} {n : Nat}, (a, tupO l n) ∈ news → ∀ i, a ≠ kk i := fun hm i => by
    obtain ⟨vs, n2, hm2, _⟩ := (Kd.inner i).1
    exact tup_ne_list N hm hm2
  induction H with
  | leaf hm => exact .leaf (fr _ hm (off hm))
  | node hm _ _ ih1 ih2 => exact .node (fr _ hm (off hm)) ih1 ih2
theorem NumsAt.frame {news nx : Led} {a : Addr} {kk : Fin 4 → Addr} {G : Fin 4 → Int} (H : NumsAt news a G) (hne : ∀ i, a ≠ kk i) (fr : ∀ p ∈ news, (∀ i, p.1 ≠ kk i) → p ∈ nx) : NumsAt nx a G :=
  let ⟨l, n, hm, hv⟩ := H
  ⟨l, n, fr _ hm hne, hv⟩
theorem IntsL.frame {news nx : Led} {a : Addr} {kk : Fin 4 → Addr} {ns : List Int} (H : IntsL news a ns) (hne : ∀ i, a ≠ kk i) (fr : ∀ p ∈ news, (∀ i, p.1 ≠ kk i) → p ∈ nx) : IntsL nx a ns :=
  let ⟨l, n, hm, hv⟩ := H
  ⟨l, n, fr _ hm hne, hv⟩
theorem seenF_len (G : Fin 4 → Int) : ∀ (t : Tr) (most : Int) (mask : Nat) (K : Fin 4 → List Int), (seenF G t most mask K).1.length ≤ t.size
  | .leaf, _, _, _ => by simp [seenF, Tr.size]
  | .node l k r, most, mask, K => by
    simp only [seenF, Tr.size]
    split
    · simp
    · have h1 := seenF_len G l (G k) (mask + 2 ^ k.val) (updK K k ((K k).set (mask + 2 ^ k.val) ((K k).getD (mask + 2 ^ k.val) 0 + 1)))
      have h2 := seenF_len G r (G k) (mask + 2 ^ k.val) (seenF G l (G k) (mask + 2 ^ k.val) (updK K k ((K k).set (mask + 2 ^ k.val) ((K k).getD (mask + 2 ^ k.val) 0 + 1)))).2
      simp only [List.length_append, List.length_cons, List.length_nil]
      omega
section
variable {prog : Program} {w : World} {A : Around} {E : Value → Shared → Prop} {s : Shared} {h₀ : Heap} {L : Addr} {m : Str → Option Value} {news news2 nx : Led}
theorem intsL_add {a b : Addr} {ns ms : List Int} {Q : Value → Shared → Prop} (F : Fr h₀ L s.heap m) (N : News h₀ L s.heap nx) (Ha : IntsL news a ns) (hs : ∀ p ∈ news, p ∈ nx) (Hb : IntsL news2 b ms) (hs2 : ∀ p ∈ news2, p ∈ nx)
    (hsz : ns.length + ms.length ≤ sizeLine)
    (h : ∀ h' D o, Fr h₀ L h' m → News h₀ L h' ((D, o) :: nx) → (∀ p ∈ nx, p.1 < D) → IntsL ((D, o) :: nx) D (ns ++ ms) → Q (.ref D) { s with heap := h' }) :
    wpAny (model prog w) A (binaryOp .Add (.ref a) (.ref b)) Q E s := by
  obtain ⟨vs, n, hm, hi⟩ := Ha
  obtain ⟨us, n2, hm2, hi2⟩ := Hb
  refine add_arrays_ints (its := vs.toArray) (its2 := us.toArray) F N (PySem.IsL.isList (n := n) (N _ (hs _ hm)).1) (PySem.IsL.isList (n := n2) (N _ (hs2 _ hm2)).1) hi hi2 (fun h' F' N' hi' => ?_) hsz
  exact h h' _ _ F' N' (fun p hp => Heap.lt_size (N p hp).1) ⟨_, 0, .head _, hi'⟩
end
end Mine
end
section
open PySem PySem.W PyProof.Rows
namespace Mine
set_option maxRecDepth 100000
set_option maxHeartbeats 4000000
variable (w : World) (p : Program) (loose : List Str) (mean : ExcName → Option Value) (mg mb : Str → Option Value)
local macro_rules | `(tactic| k_mem) => `(tactic| first | assumption | exact List.Mem.head _ | (refine List.mem_cons_of_mem _ ?_; k_mem) | (refine mem_grow (by assumption) ?_; k_mem))
local macro_rules | `(tactic| ktd_sub) => `(tactic| first | assumption | exact fun _ h => h | (refine sub_cons ?_; ktd_sub) | (refine sub_grow (by assumption) ?_; ktd_sub))
local macro_rules | `(tactic| ktn_ord) => `(tactic| first | assumption | exact Grow.refl _ | (refine Grow.cons ?_ (by ktn_lt); ktn_ord) | (refine Grow.trans ?_ (by assumption); ktn_ord))
local macro_rules | `(tactic| ktr_rel) => `(tactic| first | assumption | exact TrIn.leaf (by k_mem) | exact TrIn.node (by k_mem) (by ktr_rel) (by ktr_rel) | exact TrIn.mono (by assumption) (by ktd_sub))
local macro_rules | `(tactic| walk_at "compareOp Eq ref ref") => `(tactic| (k_here; (with_reducible show wpAny _ _ (compareOp CmpOp.Eq (Value.ref _) (Value.ref _)) _ _ _); k_dflt (refine' eq_leaf ?k1 ?k2 ?k3 ?k4 ?k5 ?k6 ?_; (case k1 => k_asm); (case k2 => assumption); (case k3 => assumption); (case k4 => ktd_sub); (case k5 => k_mem); (case k6 => ktr_units); k_whole); (try dsimp only [Tr.isLeaf])))
local macro_rules | `(tactic| walk_at "subscriptTail") => `(tactic| (k_here; (with_reducible show wpAny _ _ (subscriptTail _ _ (Value.ref _) (Value.int ((Fin.val _ : Nat) : Int) _)) _ _ _); k_dflt (refine' str_item ?k1 ?k2 ?k3 ?_ ?k4 ?k5; (case k1 => k_asm); (case k2 => assumption); (case k3 => ktd_sub); (case k4 => with_unfolding_all rfl); (case k5 => (intro _; with_unfolding_all rfl)); k_whole); intro _))
local macro_rules | `(tactic| walk_at "subscriptTail") => `(tactic| (k_here; (with_reducible show wpAny _ _ (subscriptTail _ _ (Value.ref _) (Value.int ((Fin.val _ : Nat) : Int) _)) _ _ _); k_dflt (refine' num_item ?k1 ?k2 ?k3 ?_ ?k4 ?k5; (case k1 => k_asm); (case k2 => assumption); (case k3 => ktd_sub); (case k4 => with_unfolding_all rfl); (case k5 => (intro _; with_unfolding_all rfl)); k_whole); intro _))
local macro_rules | `(tactic| walk_at "subscriptTail") => `(tactic| (k_here; (with_reducible show wpAny _ _ (subscriptTail _ _ (Value.ref _) (Value.int ((Fin.val _ : Nat) : Int) _)) _ _ _); k_dflt (refine' kinds_sub ?k1 ?k2 ?k3 ?_ ?k4 ?k5; (case k1 => k_asm); (case k2 => assumption); (case k3 => ktd_sub); (case k4 => with_unfolding_all rfl); (case k5 => (intro _; with_unfolding_all rfl)); k_whole)))
theorem seen_fun (la ka : Addr) (kk : Fin 4 → Addr) (G : Fin 4 → Int) (hlk : ∀ i, la ≠ kk i) : ∀ t : Tr, t.size ≤ 60 → ∀ (news : Led) (v : Value) (most : Int) (mask : Nat) (K : Fin 4 → List Int) (tk tk2 : Tok), okF t mask = true → mask < 16 → TrIn news v t → NumsAt news la G → Kinds news ka kk K →
    Fun w p loose mean mg mb 310 [v, .int most tk, .int (mask : Int) tk2, .ref la, .ref ka] news (t.size + 3) (8 * t.size + 100) (SeenPost news ka kk (seenF G t most mask K)) := by
  intro t
  induction t with
  | leaf =>
    intro hsz news v most mask K tk tk2 hok hmask H hG hK
    unfold Fun
    cases H with
    | leaf hm => ?_
    have H := TrIn.leaf hm
    intro dp un gd cn cs a ccd cl outer A₀ base h₀ L m s Q E B F X N T hk hd hu hret
    refine wpAny_call ?_
    k_dflt ktr_enter
    k_steps
    all_goals (refine' hret _ _ _ _ ?f1 ?f2 ⟨⟨_, rfl, ?m1, ?m2, ?m3⟩⟩; (case f1 => k_asm); (case f2 => k_asm); (case m1 => exact ⟨[], _, by k_mem, IntsAre.nil⟩); (case m2 => exact hK.mono (by ktd_sub)); (case m3 => exact fun p hp _ => (show ∀ p ∈ news, p ∈ _ from by ktd_sub) p hp))
  | node l k r ihl ihr =>
    intro hsz news v most mask K tk tk2 hok hmask H hG hK
    unfold Fun
    cases H with
    | node hm hl hr => ?_
    have H := TrIn.node hm hl hr
    have hsl : l.size ≤ 60 := by simp only [Tr.size] at hsz; omega
    have hsr : r.size ≤ 60 := by simp only [Tr.size] at hsz; omega
    intro dp un gd cn cs a ccd cl outer A₀ base h₀ L m s Q E B F X N T hk hd hu hret
    simp only [Tr.size] at hd hu
    refine wpAny_call ?_
    k_dflt ktr_enter
    simp only [okF, Bool.and_eq_true, decide_eq_true_eq] at hok
    obtain ⟨⟨hmk, hokl⟩, hokr⟩ := hok
    have e : (mask : Int) + 1 * 2 ^ (Int.toNat (k.val : Int)) = ((mask + 2 ^ k.val : Nat) : Int) := by simp
    have e0 : 0 ≤ (mask : Int) + 1 * 2 ^ (Int.toNat (k.val : Int)) := by rw [e]; exact Int.natCast_nonneg _
    have e1 : (mask : Int) + 1 * 2 ^ (Int.toNat (k.val : Int)) < ((K k).length : Int) := by rw [e, (hK.inner k).2]; omega
    have e2 : (mask : Int) + 1 * 2 ^ (Int.toNat (k.val : Int)) < 2 ^ 63 := by rw [e]; omega
    have e3 : ((mask : Int) + 1 * 2 ^ (Int.toNat (k.val : Int))).toNat = mask + 2 ^ k.val := by rw [e]; rfl
    k_steps
    · refine' hret _ _ _ _ ?f1 ?f2 ⟨⟨_, rfl, ?m1, ?m2, ?m3⟩⟩
      (case f1 => k_asm)
      (case f2 => k_asm)
      (case m1 => (rw [seenF_cut (by omega)]; exact ⟨_, _, by k_mem, .cons _ _ .nil⟩))
      (case m2 => (rw [seenF_cut (by omega)]; exact hK.mono (by ktd_sub)))
      (case m3 => exact fun p hp _ => (show ∀ p ∈ news, p ∈ _ from by ktd_sub) p hp)
    · k_dflt (refine' intsL_get ?k1 (hK.inner k).1 ?k3 e0 e1 e2 ?_; (case k1 => k_asm); (case k3 => ktd_sub))
      intro t5
      k_steps
      k_dflt (refine' intsL_set ?k1 ?k2 (hK.inner k).1 ?k3 e0 e1 e2 ?_; (case k1 => k_asm); (case k2 => k_asm); (case k3 => ktd_sub))
      intro h6 ny F6 N6 S6 hd6 I6
      obtain ⟨its6, n6, hd6⟩ := hd6
      have hK6 := (hK.mono (nx := _) (by ktd_sub)).set S6 I6 (by rw [List.length_set]; exact (hK.inner k).2)
      have hl6 := TrIn.set (by k_asm) (hl.mono (by ktd_sub)) hd6 S6
      have hr6 := TrIn.set (by k_asm) (hr.mono (by ktd_sub)) hd6 S6
      have hG6 := (hG.mono (by ktd_sub)).set (hlk k) S6
      have hsub6 : ∀ p ∈ news, (∀ i, p.1 ≠ kk i) → p ∈ ny := fun p hp hne => S6 p (sub_cons (fun _ h => h) p hp) (hne k)
      clear hd6 S6
      k_steps
      k_dflt (refine' Fun.use ?k1 ?k2 ?k3 ?k4 ?k5 ?k6 (Fun.cast (by rw [e]) (ihl hsl _ _ _ _ _ _ _ hokl hmk hl6 hG6 hK6)) ?kd ?ku ?_; (case k1 => k_asm); (case k2 => k_asm); (case k3 => k_asm); (case k4 => k_asm); (case k5 => k_asm); (case k6 => first | exact rfl | assumption); (case kd => ktr_room); (case ku => ktr_units))
      intro r7 nx7 h7 tk7 F7 N7 P7
      obtain ⟨ra7, f7, I7, K7, fr7⟩ := P7.out
      subst f7
      have hr7 := TrIn.frame N6 hr6 hK6 fr7
      have hG7 := hG6.frame hlk fr7
      have hsub7 : ∀ p ∈ news, (∀ i, p.1 ≠ kk i) → p ∈ nx7 := fun p hp hne => fr7 p (hsub6 p hp hne) hne
      clear hl6 hr6 hG6 hK6 hsub6 P7
      (try dsimp only)
      k_steps
      have hlen7 := seenF_len G l (G k) (mask + 2 ^ k.val) (updK K k ((K k).set (mask + 2 ^ k.val) ((K k).getD (mask + 2 ^ k.val) 0 + 1)))
      rw [e3] at I7 K7
      k_dflt (refine' intsL_add (ms := [(k.val : Int)]) ?k1 ?k2 I7 ?s1 (IntsL.one ?m1) ?s2 ?sz ?_; (case k1 => k_asm); (case k2 => k_asm); (case s1 => ktd_sub); (case s2 => exact fun _ h => h); (case m1 => exact List.Mem.head _); (case sz => (rw [sizeLine_eq]; simp only [List.length_cons, List.length_nil]; omega)))
      intro h8 D8 o8 F8 N8 l8 I8
      have hD8 : ∀ i, D8 ≠ kk i := fun i => by
        obtain ⟨o, ho⟩ := (K7.inner i).1.fst
        have := l8 _ (.tail _ ho)
        exact Nat.ne_of_gt this
      k_steps
      k_dflt (refine' Fun.use ?k1 ?k2 ?k3 ?k4 ?k5 ?k6 (Fun.cast (by rw [e]) (ihr hsr _ _ _ _ _ _ _ hokr hmk (hr7.mono ?s1) (hG7.mono ?s2) (K7.mono ?s3))) ?kd ?ku ?_; (case k1 => k_asm); (case k2 => k_asm); (case k3 => k_asm); (case k4 => k_asm); (case k5 => k_asm); (case k6 => first | exact rfl | assumption); (case s1 => ktd_sub); (case s2 => ktd_sub); (case s3 => ktd_sub); (case kd => ktr_room); (case ku => ktr_units))
      intro r9 nx9 h9 tk9 F9 N9 P9
      obtain ⟨ra9, f9, I9, K9, fr9⟩ := P9.out
      subst f9
      have hI9 := I8.frame hD8 fr9
      have hsub9 : ∀ p ∈ news, (∀ i, p.1 ≠ kk i) → p ∈ nx9 := fun p hp hne => fr9 p (.tail _ (.tail _ (hsub7 p hp hne))) hne
      (try dsimp only)
      k_steps
      have hlen9 := seenF_len G r (G k) (mask + 2 ^ k.val) (seenF G l (G k) (mask + 2 ^ k.val) (updK K k ((K k).set (mask + 2 ^ k.val) ((K k).getD (mask + 2 ^ k.val) 0 + 1)))).2
      k_dflt (refine' intsL_add ?k1 ?k2 hI9 ?s1 I9 ?s2 ?sz ?_; (case k1 => k_asm); (case k2 => k_asm); (case s1 => exact fun _ h => h); (case s2 => exact fun _ h => h); (case sz => (rw [sizeLine_eq]; simp only [List.length_append, List.length_cons, List.length_nil]; omega)))
      intro h10 D10 o10 F10 N10 l10 I10
      k_steps
      refine' hret _ _ _ _ ?f1 ?f2 ⟨⟨_, rfl, ?m1, ?m2, ?m3⟩⟩
      (case f1 => k_asm)
      (case f2 => k_asm)
      (case m1 => (rw [seenF_on (by omega) rfl rfl]; exact I10))
      (case m2 => (rw [seenF_on (by omega) rfl rfl]; exact K9.mono (by ktd_sub)))
      (case m3 => exact fun p hp hne => .tail _ (hsub9 p hp hne))
end Mine
end
section
open PySem PySem.W PyProof.Rows
namespace Mine
noncomputable abbrev noE : Value → Shared → Prop := fun _ _ => False
/-- an object that a step of an iterator of these classes cannot be -/
noncomputable def Kept (cl : List Value) (o : Obj) : Prop := o.cls ∉ cl ∨ ∀ vs, o.data ≠ .fields vs
noncomputable def KeepA (mt : List Addr) (nx ny : Led) : Prop := ∀ p ∈ nx, p.1 ∉ mt → p ∈ ny
noncomputable def KeepL (cl : List Value) (nx ny : Led) : Prop := ∀ p ∈ nx, Kept cl p.2 → p ∈ ny
theorem kept_seq {cl : List Value} {c : Value} {dd : Option Addr} {xs : Array Value} {n : Nat} {sl : Array (Option Value)} : Kept cl ⟨c, dd, .seq xs n, sl⟩ := .inr fun _ h => nomatch h
theorem kept_dict {cl : List Value} {c : Value} {dd : Option Addr} {xs : Array DictEntry} {n : Nat} {sl : Array (Option Value)} : Kept cl ⟨c, dd, .dict xs n, sl⟩ := .inr fun _ h => nomatch h
theorem kept_cell {cl : List Value} {o : Obj} {v : Option Value} (h : o.data = .cell v) : Kept cl o := .inr fun _ e => by rw [h] at e; cases e
theorem Kept.ne {h₀ h : Heap} {L : Addr} {nx : Led} (N : News h₀ L h nx) {I : Addr} {oI : Obj} {cl : List Value} (hm : (I, oI) ∈ nx) (hc : oI.cls ∈ cl) {vs : Array Value} (hd : oI.data = .fields vs) {p : Addr × Obj} (hp : p ∈ nx) (hk : Kept cl p.2) : p.1 ≠ I := by
  rintro rfl
  have e : p.2 = oI := News.agree N (a := p.1) hp hm
  rcases hk with hk | hk
  · exact hk (e ▸ hc)
  · exact hk vs (e ▸ hd)
section
variable {h₀ h h' : Heap} {L d : Addr} {m : Str → Option Value} {nx : Led} {o o' : Obj}
theorem led_set (F : Fr h₀ L h m) (N : News h₀ L h nx) (hm : (d, o) ∈ nx) (hs : Heap.SameBut d h h') (ho : h'.get? d = some o') : Fr h₀ L h' m ∧ News h₀ L h' ((d, o') :: nx.filter (fun p => p.1 != d)) := by
  have z := N _ hm
  refine ⟨F.change hs z.2.1 z.2.2, fun p hp => ?_⟩
  rcases List.mem_cons.mp hp with rfl | hp
  · exact ⟨ho, z.2⟩
  · obtain ⟨hp1, hp2⟩ := List.mem_filter.mp hp
    have hne : p.1 ≠ d := by simpa using hp2
    exact ⟨hs.extBut _ _ hne (N p hp1).1, (N p hp1).2⟩
theorem led_ext (F : Fr h₀ L h m) (N : News h₀ L h nx) (hm : (d, o) ∈ nx) (hs : Heap.ExtBut d h h') : Fr h₀ L h' m ∧ News h₀ L h' (nx.filter (fun p => p.1 != d)) := by
  have z := N _ hm
  refine ⟨⟨F.ns.extBut hs (Ne.symm z.2.1), fun b x e => hs b x (fun q => ?_) (F.keep b x e), F.above⟩, fun p hp => ?_⟩
  · have := z.2.2; rw [← q, e] at this; cases this
  · obtain ⟨hp1, hp2⟩ := List.mem_filter.mp hp
    have hne : p.1 ≠ d := by simpa using hp2
    exact ⟨hs _ _ hne (N p hp1).1, (N p hp1).2⟩
end

structure Iter (w : World) (A : Around) (target : Expr) (I : Addr) (n : Nat) (cl : List Value) (mt : List Addr) (P : Nat → Value → Led → Prop) (SI : Nat → Led → Prop) : Prop where
  next : ∀ (i : Nat) (s : Shared) (E : Value → Shared → Prop) (h₀ : Heap) (L : Addr) (m : Str → Option Value) (nx : Led) (Q : Value → Shared → Prop), i < n → SI i nx → Fr h₀ L s.heap m → News h₀ L s.heap nx →
    (∀ v h' tk ny, P i v ny → SI (i + 1) ny → Fr h₀ L h' m → News h₀ L h' ny → KeepL cl nx ny → KeepA mt nx ny → Q v { s with heap := h', toks := tk }) →
    wpAny (model PG w) A (pyNext (.ref I)) (fun r s' => ∃ v, r = some v ∧ wpAny (model PG w) A (letOwnedTupleGo target (.ref I) v) (fun _ => Q v) E s') E s
  done : ∀ (s : Shared) (E : Value → Shared → Prop) (h₀ : Heap) (L : Addr) (m : Str → Option Value) (nx : Led) (Q : Shared → Prop), SI n nx → Fr h₀ L s.heap m → News h₀ L s.heap nx →
    (∀ h' tk ny, Fr h₀ L h' m → News h₀ L h' ny → KeepL cl nx ny → KeepA mt nx ny → Q { s with heap := h', toks := tk }) →
    wpAny (model PG w) A (pyNext (.ref I)) (fun r s' => r = none ∧ Q s') E s

/-- what stands at the end of a turn -/
noncomputable def ForPost (h₀ : Heap) (L : Addr) (SI : Nat → Led → Prop) (Inv : Nat → (Str → Option Value) → Led → Prop) (i : Nat) (s : Shared) (R : Result → Shared → Prop) (f : Flow) (s₂ : Shared) : Prop :=
  match f with
  | .ret v => R (.ok (.ret v)) s₂
  | .brk => R (.ok .next) s₂
  | _ => ∃ h' tk m' ny, s₂ = { s with heap := h', toks := tk } ∧ Fr h₀ L h' m' ∧ News h₀ L h' ny ∧ SI i ny ∧ Inv i m' ny

section
variable {w : World} {A : Around} {s : Shared} {env : Env} {h₀ : Heap} {L : Addr} {target : Expr} {body orelse : List Stmt} {R : Result → Shared → Prop} {n : Nat} {cl : List Value} {mt : List Addr} {P : Nat → Value → Led → Prop} {SI : Nat → Led → Prop} {I : Addr} {m : Str → Option Value} {nx : Led}
theorem for_iter (T : Iter w A target I n cl mt P SI) (Inv : Nat → (Str → Option Value) → Led → Prop)
    (stable : ∀ i m nx ny, Inv i m nx → KeepL cl nx ny → Inv i m ny)
    (turn : ∀ i v m₁ ny h tk, i < n → P i v ny → SI (i + 1) ny → Inv i m₁ ny → Fr h₀ L h m₁ → News h₀ L h ny →
      wpAny (model PG w) A (assign target env v) (fun _ s₂ => wpAny (model PG w) A (execs body env) (ForPost h₀ L SI Inv (i + 1) s R) noE s₂) noE { s with heap := h, toks := tk })
    (done : ∀ m₁ ny h tk, Inv n m₁ ny → Fr h₀ L h m₁ → News h₀ L h ny → wpAny (model PG w) A (execs orelse env) (fun f s₃ => R (.ok f) s₃) noE { s with heap := h, toks := tk })
    (F : Fr h₀ L s.heap m) (N : News h₀ L s.heap nx) (hSI : SI 0 nx) (hI : Inv 0 m nx) : codeAny (model PG w) A (.forLoop target (.ref I) body orelse env) R s := by
  refine codeAny_forLoop_any
    (fun k s' => ∃ h' tk m' ny i, s' = { s with heap := h', toks := tk } ∧ Fr h₀ L h' m' ∧ News h₀ L h' ny ∧ SI i ny ∧ Inv i m' ny ∧ i ≤ n ∧ k = n + 1 - i) ?_ (n + 1)
    ⟨s.heap, s.toks, m, nx, 0, rfl, F, N, hSI, hI, Nat.zero_le _, rfl⟩
  rintro k s' ⟨h', tk, m', ny, i, rfl, F', N', hS', hI', hi, rfl⟩
  by_cases hlt : i < n
  · refine wpAny_mono (T.next i { s with heap := h', toks := tk } _ h₀ L m' ny (fun v s₁ => wpAny (model PG w) A (assign target env v) (fun _ s₂ => wpAny (model PG w) A (execs body env) (ForPost h₀ L SI Inv (i + 1) s R) noE s₂) noE s₁) hlt hS' F' N' fun v h₁ tk₁ nz hP hS₁ F₁ N₁ hK _ => ?_) (fun r s₁ hr => ?_) fun _ _ e => e
    · exact turn i v m' nz h₁ tk₁ hlt hP hS₁ (stable _ _ _ _ hI' hK) F₁ N₁
    · obtain ⟨v, rfl, hr⟩ := hr
      refine wpAny_mono hr (fun _ s₂ h₂ => wpAny_mono h₂ (fun _ s₃ h₃ => wpAny_mono h₃ (fun f s₄ h₄ => ?_) fun _ _ e => e.elim) fun _ _ e => e.elim) fun _ _ e => e
      cases f with
      | ret v => exact h₄
      | brk => exact h₄
      | next =>
        obtain ⟨h₅, tk₅, m₅, n₅, rfl, F₅, N₅, S₅, I₅⟩ := h₄
        exact ⟨n + 1 - (i + 1), by omega, h₅, tk₅, m₅, n₅, i + 1, rfl, F₅, N₅, S₅, I₅, hlt, rfl⟩
      | cont =>
        obtain ⟨h₅, tk₅, m₅, n₅, rfl, F₅, N₅, S₅, I₅⟩ := h₄
        exact ⟨n + 1 - (i + 1), by omega, h₅, tk₅, m₅, n₅, i + 1, rfl, F₅, N₅, S₅, I₅, hlt, rfl⟩
  · have hin : i = n := by omega
    subst hin
    refine wpAny_mono (T.done { s with heap := h', toks := tk } _ h₀ L m' ny (fun s₁ => wpAny (model PG w) A (execs orelse env) (fun f s₃ => R (.ok f) s₃) noE s₁) hS' F' N' fun h₁ tk₁ nz F₁ N₁ hK _ => ?_) (fun r s₁ hr => ?_) fun _ _ e => e
    · exact done m' nz h₁ tk₁ (stable _ _ _ _ hI' hK) F₁ N₁
    · obtain ⟨rfl, hr⟩ := hr
      exact wpAny_mono hr (fun _ _ x => x) fun _ _ e => e.elim
end

/-- the iterator of a list of the ledger -/
noncomputable def SIList (I l : Addr) (vs : List Value) (nn : Nat) (i : Nat) (nx : Led) : Prop := (∃ o, (I, o) ∈ nx ∧ o.cls = .type "list_iterator" ∧ o.data = .fields #[.ref l, .int (i : Nat) 0]) ∧ (l, listOf vs.toArray nn) ∈ nx
noncomputable def SITup (I l : Addr) (vs : List Value) (nn : Nat) (i : Nat) (nx : Led) : Prop := (∃ o, (I, o) ∈ nx ∧ o.cls = .type "tuple_iterator" ∧ o.data = .fields #[.ref l, .int (i : Nat) 0]) ∧ (l, tupO vs nn) ∈ nx
noncomputable def SIRange (I : Addr) (a : Int) (n : Nat) (i : Nat) (nx : Led) : Prop := (I, ({ cls := .type "range_iterator", dict := none, data := .fields #[rawInt (a + (i : Nat)), rawInt ((n : Int) - (i : Nat)), rawInt 1], slots := #[] } : Obj)) ∈ nx
section
variable {w : World} {A : Around} {target : Expr} {I l : Addr} {vs : List Value} {nn : Nat}
theorem iter_list (hh : A.handled = none) : Iter w A target I vs.length [.type "list_iterator"] [I] (fun i v _ => vs[i]? = some v) (SIList I l vs nn) where
  next := fun i s E h₀ L m nx Q hi hS F N h => by
    obtain ⟨⟨o, hm, hc, hd⟩, hl⟩ := hS
    have hit : s.heap.IsListIter I l i := ⟨o, (N _ hm).1, hc, hd⟩
    have hls : s.heap.IsList l vs.toArray := ⟨_, (N _ hl).1, rfl, nn, rfl⟩
    refine wpAny_pyNext_list_item hit hls (x := vs[i]) (by simp [hi]) fun h' hit' hs' => ⟨_, rfl, ?_⟩
    obtain ⟨o', ho', hc', hd'⟩ := id hit'
    obtain ⟨F', N'⟩ := led_set F N hm hs' ho'
    refine letGo_listiter hit' ?_
    have keep : KeepL [.type "list_iterator"] nx ((I, o') :: nx.filter (fun p => p.1 != I)) := fun p hp hk =>
      .tail _ (List.mem_filter.mpr ⟨hp, by simpa using Kept.ne N hm (by rw [hc]; simp) hd hp hk⟩)
    exact h _ h' s.toks _ (by simp [hi]) ⟨⟨o', .head _, hc', hd'⟩, keep _ hl kept_seq⟩ F' N' keep (fun p hp hne => .tail _ (List.mem_filter.mpr ⟨hp, by simpa using hne⟩))
  done := fun s E h₀ L m nx Q hS F N h => by
    obtain ⟨⟨o, hm, hc, hd⟩, hl⟩ := hS
    have hit : s.heap.IsListIter I l vs.length := ⟨o, (N _ hm).1, hc, hd⟩
    have hls : s.heap.IsList l vs.toArray := ⟨_, (N _ hl).1, rfl, nn, rfl⟩
    refine wpAny_pyNext_list_end hh hit hls (by simp) fun h' hx => ⟨rfl, ?_⟩
    obtain ⟨F', N'⟩ := led_ext F N hm hx
    exact h h' s.toks _ F' N' (fun p hp hk => List.mem_filter.mpr ⟨hp, by simpa using Kept.ne N hm (by rw [hc]; simp) hd hp hk⟩) fun p hp hne => List.mem_filter.mpr ⟨hp, by simpa using hne⟩
theorem iter_tup (hh : A.handled = none) : Iter w A target I vs.length [.type "tuple_iterator"] [I] (fun i v _ => vs[i]? = some v) (SITup I l vs nn) where
  next := fun i s E h₀ L m nx Q hi hS F N h => by
    obtain ⟨⟨o, hm, hc, hd⟩, hl⟩ := hS
    have hit : s.heap.IsTupleIter I l i := ⟨o, (N _ hm).1, hc, hd⟩
    have hls : s.heap.IsTuple l vs.toArray := ⟨_, (N _ hl).1, rfl, nn, rfl⟩
    refine wpAny_pyNext_tuple_item hit hls (x := vs[i]) (by simp [hi]) fun h' hit' hs' => ⟨_, rfl, ?_⟩
    obtain ⟨o', ho', hc', hd'⟩ := id hit'
    obtain ⟨F', N'⟩ := led_set F N hm hs' ho'
    refine letGo_tupleiter hit' ?_
    have keep : KeepL [.type "tuple_iterator"] nx ((I, o') :: nx.filter (fun p => p.1 != I)) := fun p hp hk =>
      .tail _ (List.mem_filter.mpr ⟨hp, by simpa using Kept.ne N hm (by rw [hc]; simp) hd hp hk⟩)
    exact h _ h' s.toks _ (by simp [hi]) ⟨⟨o', .head _, hc', hd'⟩, keep _ hl kept_seq⟩ F' N' keep (fun p hp hne => .tail _ (List.mem_filter.mpr ⟨hp, by simpa using hne⟩))
  done := fun s E h₀ L m nx Q hS F N h => by
    obtain ⟨⟨o, hm, hc, hd⟩, hl⟩ := hS
    have hit : s.heap.IsTupleIter I l vs.length := ⟨o, (N _ hm).1, hc, hd⟩
    have hls : s.heap.IsTuple l vs.toArray := ⟨_, (N _ hl).1, rfl, nn, rfl⟩
    refine wpAny_pyNext_tuple_end hh hit hls (by simp) fun h' hx => ⟨rfl, ?_⟩
    obtain ⟨F', N'⟩ := led_ext F N hm hx
    exact h h' s.toks _ F' N' (fun p hp hk => List.mem_filter.mpr ⟨hp, by simpa using Kept.ne N hm (by rw [hc]; simp) hd hp hk⟩) fun p hp hne => List.mem_filter.mpr ⟨hp, by simpa using hne⟩
theorem letGo_rangeiter {E : Value → Shared → Prop} {v : Value} {x y z : Int} {Q' : Unit → Shared → Prop} {s' : Shared} (hit : IsRangeIter s'.heap I x y z) (h : Q' () s') :
    wpAny (model PG w) A (letOwnedTupleGo target (.ref I) v) Q' E s' := by
  unfold letOwnedTupleGo
  cases target <;> first
    | exact wpAny_pure h
    | (cases v <;> first
      | exact wpAny_pure h
      | (refine wpAny_bind (wpAny_load hit ?_); exact wpAny_pure h))
theorem iter_range {a : Int} {n : Nat} (hh : A.handled = none) : Iter w A target I n [.type "range_iterator"] [I] (fun i v _ => ∃ t, v = .int (a + (i : Nat)) t) (SIRange I a n) where
  next := fun i s E h₀ L m nx Q hi hS F N h => by
    have hit : IsRangeIter s.heap I (a + (i : Nat)) ((n : Int) - (i : Nat)) 1 := (N _ hS).1
    refine wpAny_pyNext_range_item hit (by omega) fun h' hit' hs' => ⟨_, rfl, ?_⟩
    obtain ⟨F', N'⟩ := led_set F N hS hs' hit'
    refine letGo_rangeiter hit' ?_
    refine h _ h' _ _ ⟨_, rfl⟩ ?_ F' N' (fun p hp hk => .tail _ (List.mem_filter.mpr ⟨hp, by simpa using Kept.ne N hS (by simp) rfl hp hk⟩)) (fun p hp hne => .tail _ (List.mem_filter.mpr ⟨hp, by simpa using hne⟩))
    have e1 : a + ((i + 1 : Nat) : Int) = a + (i : Int) + 1 := by push_cast; omega
    have e2 : (n : Int) - ((i + 1 : Nat) : Int) = (n : Int) - (i : Int) - 1 := by push_cast; omega
    unfold SIRange
    rw [e1, e2]
    exact .head _
  done := fun s E h₀ L m nx Q hS F N h => by
    have hit : IsRangeIter s.heap I (a + (n : Nat)) ((n : Int) - (n : Nat)) 1 := (N _ hS).1
    refine wpAny_pyNext_range_end hh hit (by omega) fun h' hx => ⟨rfl, ?_⟩
    obtain ⟨F', N'⟩ := led_ext F N hS hx
    exact h h' s.toks _ F' N' (fun p hp hk => List.mem_filter.mpr ⟨hp, by simpa using Kept.ne N hS (by simp) rfl hp hk⟩) fun p hp hne => List.mem_filter.mpr ⟨hp, by simpa using hne⟩
end
section
variable {w : World} {A : Around} {s : Shared} {env : Env} {h₀ : Heap} {L : Addr} {target : Expr} {body orelse : List Stmt} {R : Result → Shared → Prop} {E : Value → Shared → Prop} {m : Str → Option Value} {nx : Led} {l : Addr} {vs : List Value} {nn : Nat}
theorem push_new {o : Obj} (F : Fr h₀ L s.heap m) (N : News h₀ L s.heap nx) (hf : o.isFreed = false) : Fr h₀ L (s.heap.push o) m ∧ News h₀ L (s.heap.push o) ((s.heap.objs.size, o) :: nx) := ⟨F.push o, N.push F o hf⟩
theorem for_list (Inv : Nat → (Str → Option Value) → Led → Prop) (hh : A.handled = none)
    (stable : ∀ i m nx ny, Inv i m nx → KeepL [.type "list_iterator"] nx ny → Inv i m ny)
    (F : Fr h₀ L s.heap m) (N : News h₀ L s.heap nx) (hm : (l, listOf vs.toArray nn) ∈ nx) (hI : Inv 0 m nx)
    (turn : ∀ I i v m₁ ny h tk, vs[i]? = some v → SIList I l vs nn (i + 1) ny → Inv i m₁ ny → Fr h₀ L h m₁ → News h₀ L h ny →
      wpAny (model PG w) A (assign target env v) (fun _ s₂ => wpAny (model PG w) A (execs body env) (ForPost h₀ L (SIList I l vs nn) Inv (i + 1) s R) noE s₂) noE { s with heap := h, toks := tk })
    (done : ∀ m₁ ny h tk, Inv vs.length m₁ ny → Fr h₀ L h m₁ → News h₀ L h ny → wpAny (model PG w) A (execs orelse env) (fun f s₃ => R (.ok f) s₃) noE { s with heap := h, toks := tk }) :
    wpAny (model PG w) A (pyIter (.ref l)) (fun it s₂ => codeAny (model PG w) A (.forLoop target it body orelse env) R s₂) E s := by
  refine wpAny_pyIter_list ⟨_, (N _ hm).1, rfl, nn, rfl⟩ ?_
  obtain ⟨F', N'⟩ := push_new (o := { cls := .type "list_iterator", data := .fields #[.ref l, .int 0 0] }) F N rfl
  exact for_iter (iter_list hh) Inv stable (fun i v m₁ ny h tk _ hP hS hI' F₁ N₁ => turn _ i v m₁ ny h tk hP hS hI' F₁ N₁) done F' N'
    ⟨⟨_, .head _, rfl, rfl⟩, .tail _ hm⟩ (stable _ _ _ _ hI fun p hp _ => .tail _ hp)
theorem for_tup (Inv : Nat → (Str → Option Value) → Led → Prop) (hh : A.handled = none)
    (stable : ∀ i m nx ny, Inv i m nx → KeepL [.type "tuple_iterator"] nx ny → Inv i m ny)
    (F : Fr h₀ L s.heap m) (N : News h₀ L s.heap nx) (hm : (l, tupO vs nn) ∈ nx) (hI : Inv 0 m nx)
    (turn : ∀ I i v m₁ ny h tk, vs[i]? = some v → SITup I l vs nn (i + 1) ny → Inv i m₁ ny → Fr h₀ L h m₁ → News h₀ L h ny →
      wpAny (model PG w) A (assign target env v) (fun _ s₂ => wpAny (model PG w) A (execs body env) (ForPost h₀ L (SITup I l vs nn) Inv (i + 1) s R) noE s₂) noE { s with heap := h, toks := tk })
    (done : ∀ m₁ ny h tk, Inv vs.length m₁ ny → Fr h₀ L h m₁ → News h₀ L h ny → wpAny (model PG w) A (execs orelse env) (fun f s₃ => R (.ok f) s₃) noE { s with heap := h, toks := tk }) :
    wpAny (model PG w) A (pyIter (.ref l)) (fun it s₂ => codeAny (model PG w) A (.forLoop target it body orelse env) R s₂) E s := by
  refine wpAny_pyIter_tuple ⟨_, (N _ hm).1, rfl, nn, rfl⟩ ?_
  obtain ⟨F', N'⟩ := push_new (o := { cls := .type "tuple_iterator", data := .fields #[.ref l, .int 0 0] }) F N rfl
  exact for_iter (iter_tup hh) Inv stable (fun i v m₁ ny h tk _ hP hS hI' F₁ N₁ => turn _ i v m₁ ny h tk hP hS hI' F₁ N₁) done F' N'
    ⟨⟨_, .head _, rfl, rfl⟩, .tail _ hm⟩ (stable _ _ _ _ hI fun p hp _ => .tail _ hp)
theorem for_range {r : Addr} {a b : Int} {t u v : Tok} {n : Nat} (Inv : Nat → (Str → Option Value) → Led → Prop) (hh : A.handled = none)
    (stable : ∀ i m nx ny, Inv i m nx → KeepL [.type "range_iterator"] nx ny → Inv i m ny)
    (F : Fr h₀ L s.heap m) (N : News h₀ L s.heap nx) (hr : IsRange s.heap r a b 1 t u v) (hsmall : Builtin.Range.small a b 1 = true) (hn : Builtin.Range.rangeSize a b 1 = (n : Int)) (hI : Inv 0 m nx)
    (turn : ∀ I i t m₁ ny h tk, i < n → SIRange I a n (i + 1) ny → Inv i m₁ ny → Fr h₀ L h m₁ → News h₀ L h ny →
      wpAny (model PG w) A (assign target env (.int (a + (i : Nat)) t)) (fun _ s₂ => wpAny (model PG w) A (execs body env) (ForPost h₀ L (SIRange I a n) Inv (i + 1) s R) noE s₂) noE { s with heap := h, toks := tk })
    (done : ∀ m₁ ny h tk, Inv n m₁ ny → Fr h₀ L h m₁ → News h₀ L h ny → wpAny (model PG w) A (execs orelse env) (fun f s₃ => R (.ok f) s₃) noE { s with heap := h, toks := tk }) :
    wpAny (model PG w) A (pyIter (.ref r)) (fun it s₂ => codeAny (model PG w) A (.forLoop target it body orelse env) R s₂) E s := by
  refine wpAny_pyIter_range hr hsmall ?_
  rw [hn]
  obtain ⟨F', N'⟩ := push_new (o := { cls := .type "range_iterator", data := .fields #[rawInt a, rawInt (n : Int), rawInt 1] }) F N rfl
  refine for_iter (iter_range (a := a) (n := n) hh) Inv stable (fun i v m₁ ny h tk hi hP hS hI' F₁ N₁ => ?_) done F' N' ?_ (stable _ _ _ _ hI fun p hp _ => .tail _ hp)
  · obtain ⟨t, rfl⟩ := hP
    exact turn _ i t m₁ ny h tk hi hS hI' F₁ N₁
  · unfold SIRange
    have e1 : a + ((0 : Nat) : Int) = a := by simp
    have e2 : (n : Int) - ((0 : Nat) : Int) = n := by simp
    rw [e1, e2]
    exact .head _
end
end Mine
end
section
open PySem PySem.W PyProof.Rows
open PySem.AutoSeq1 (wpAny_loadPart')
set_option maxRecDepth 100000
namespace Mine
section
variable {prog : Program} {w : World} {A : Around} {E : Value → Shared → Prop} {s : Shared}
theorem nextOfT_item {it t : Addr} {i : Nat} {items : Array Value} {x : Value} {Q : Value → Shared → Prop} (hit : s.heap.IsTupleIter it t i) (ht : s.heap.IsTuple t items) (hx : items[i]? = some x)
    (hQ : ∀ h', h'.IsTupleIter it t (i + 1) → Heap.SameBut it s.heap h' → Q x { s with heap := h' }) : wpAny (model prog w) A (Builtin.SmallTypes.nextOf (.ref it)) Q E s := by
  obtain ⟨o, ho, hc, hd⟩ := id hit
  obtain ⟨ol, hol, _, nl, hdl⟩ := ht
  unfold Builtin.SmallTypes.nextOf
  refine wpAny_bind (wpAny_callSpecial?_slot (name := Str.ofString "__next__") hit.typeIs F.slot_tuple_iterator_next
    (wpAny_call_entry F.slot_tuple_iterator_next hit.typeIs F.entry_tuple_iterator_next ?_ (F.args_tuple_iterator_next_1 _)))
  show wpAny _ _ (field (.ref it) 0 >>= _) _ _ s
  refine wpAny_bind (wpAny_field ho hd (x := .ref t) rfl ?_)
  show wpAny _ _ (if (Value.ref t == Value.none) = true then _ else _) _ _ s
  rw [if_neg (show ¬ ((Value.ref t == Value.none) = true) from Bool.false_ne_true)]
  show wpAny _ _ (field (.ref it) 1 >>= _) _ _ s
  refine wpAny_bind (wpAny_field ho hd (x := .int i 0) rfl ?_)
  show wpAny _ _ (seqItems? (.ref t) >>= _) _ _ s
  refine wpAny_bind (wpAny_seqItems hol hdl ?_)
  simp only [Int.toNat_natCast, hx]
  refine wpAny_bind (wpAny_setField ho hd (by simp) (wpAny_pure ⟨x, rfl, wpAny_pure (hQ _ ?_ (Heap.SameBut.update ..))⟩))
  exact ⟨_, Heap.get?_update_self _ ho (Obj.isFreed_of_fields (Obj.data_mapFields hd _)), (Obj.cls_mapFields ..).trans hc, by
    rw [Obj.data_mapFields hd]; simp [rawInt]⟩
theorem nextOfT_end {it t : Addr} {i : Nat} {items : Array Value} {Q : Value → Shared → Prop} (hh : A.handled = none) (hit : s.heap.IsTupleIter it t i) (ht : s.heap.IsTuple t items) (hx : items[i]? = none)
    (hE : ∀ h' e, Heap.ExtBut it s.heap h' → (∃ o, h'.get? e = some o ∧ o.cls = .type "StopIteration") → E (.ref e) { s with heap := h' }) :
    wpAny (model prog w) A (Builtin.SmallTypes.nextOf (.ref it)) Q E s := by
  obtain ⟨o, ho, hc, hd⟩ := id hit
  obtain ⟨ol, hol, _, nl, hdl⟩ := ht
  unfold Builtin.SmallTypes.nextOf
  refine wpAny_bind (wpAny_callSpecial?_slot (name := Str.ofString "__next__") hit.typeIs F.slot_tuple_iterator_next
    (wpAny_call_entry F.slot_tuple_iterator_next hit.typeIs F.entry_tuple_iterator_next ?_ (F.args_tuple_iterator_next_1 _)))
  show wpAny _ _ (field (.ref it) 0 >>= _) _ _ s
  refine wpAny_bind (wpAny_field ho hd (x := .ref t) rfl ?_)
  show wpAny _ _ (if (Value.ref t == Value.none) = true then _ else _) _ _ s
  rw [if_neg (show ¬ ((Value.ref t == Value.none) = true) from Bool.false_ne_true)]
  show wpAny _ _ (field (.ref it) 1 >>= _) _ _ s
  refine wpAny_bind (wpAny_field ho hd (x := .int i 0) rfl ?_)
  show wpAny _ _ (seqItems? (.ref t) >>= _) _ _ s
  refine wpAny_bind (wpAny_seqItems hol hdl ?_)
  simp only [Int.toNat_natCast, hx]
  refine wpAny_bind (wpAny_rule (wpAny_bind (wpAny_setField ho hd (by simp) ?_)))
  show wpAny _ _ (newExc (.type "StopIteration") [] >>= _) _ _ _
  refine wpAny_bind ?_
  simp only [newExc, newTuple]
  refine wpAny_bind (wpAny_newObj_type ?_ (by size_fits))
  refine wpAny_bind (m := firstArgMember _ _) (wpAny_of_eq (a := Value.none) (by first | rfl | (simp only [firstArgMember]; rfl)) ?_)
  refine wpAny_newObj_type ?_ (by size_fits)
  simp only [raiseNew]
  refine wpAny_bind (wpAny_handled ?_)
  first | rw [show A.in1.handled = none from hh] | rw [hh]
  refine wpAny_bind (wpAny_pure (wpAny_throw ?_))
  exact hE _ _ (((Heap.SameBut.update ..).extBut.push _).push _) ⟨_, Heap.get?_push_size _ rfl, rfl⟩

theorem enumT_next {e it l : Addr} {i : Nat} {items : Array Value} {x old : Value} {Q : Value → Shared → Prop}
    (he : IsEnum s.heap e it i old) (hit : s.heap.IsTupleIter it l i) (hl : s.heap.IsTuple l items) (hx : items[i]? = some x) (hne : e ≠ it)
    (hQ : ∀ h', IsEnumOut h' e it ((i : Int) + 1) x s.heap.objs.size → h'.IsTupleIter it l (i + 1) →
      h'.get? s.heap.objs.size = some { cls := .type "tuple", data := .seq #[.int i s.toks, x] } →
      (∀ b o, b ≠ e → b ≠ it → s.heap.get? b = some o → h'.get? b = some o) → Q (.ref s.heap.objs.size) { s with heap := h', toks := s.toks + 1 }) :
    wpAny (model prog w) A (Builtin.«enumerate.__next__» ⟨[.ref e], []⟩) (fun fin s' => ∃ v, fin = .done (.ret v) ∧ Q v s') E s := by
  obtain ⟨hp, g, d, tk, os⟩ := s
  show wpAny _ _ (field (.ref e) 2 >>= _) _ _ _
  refine wpAny_bind (wpAny_field he rfl (x := .ref it) rfl ?_)
  refine wpAny_bind (nextOfT_item hit hl hx fun h₁ hit₁ hs₁ => ?_)
  replace hs₁ : Heap.SameBut it hp h₁ := hs₁
  have he₁ : IsEnum h₁ e it i old := (hs₁.2 e hne).trans he
  show wpAny _ _ (field (.ref e) 3 >>= _) _ _ ⟨h₁, g, d, tk, os⟩
  refine wpAny_bind (wpAny_field he₁ rfl (x := rawInt i) rfl ?_)
  show wpAny _ _ (field (.ref e) 4 >>= _) _ _ ⟨h₁, g, d, tk, os⟩
  refine wpAny_bind (wpAny_field he₁ rfl (x := .none) rfl ?_)
  show wpAny _ _ (mkInt i >>= _) _ _ ⟨h₁, g, d, tk, os⟩
  refine wpAny_bind (wpAny_mkInt ?_)
  show wpAny _ _ (setField (.ref e) 3 (rawInt ((i : Int) + 1)) >>= _) _ _ ⟨h₁, g, d, tk + 1, os⟩
  refine wpAny_bind (wpAny_setField_rec he₁ (by simp) fun h₂ he₂ hs₂ => ?_)
  replace hs₂ : Heap.SameBut e h₁ h₂ := hs₂
  replace he₂ : IsEnum h₂ e it ((i : Int) + 1) old := he₂
  show wpAny _ _ (setField (.ref e) 4 .none >>= _) _ _ ⟨h₂, g, d, tk + 1, os⟩
  refine wpAny_bind (wpAny_setField_rec he₂ (by simp) fun h₃ he₃ hs₃ => ?_)
  replace hs₃ : Heap.SameBut e h₂ h₃ := hs₃
  replace he₃ : IsEnum h₃ e it ((i : Int) + 1) old := he₃
  show wpAny _ _ (newTuple [.int i tk, x] >>= _) _ _ ⟨h₃, g, d, tk + 1, os⟩
  refine wpAny_bind (wpAny_newTuple ?_)
  have he₄ : IsEnum (h₃.push { cls := .type "tuple", data := .seq #[.int i tk, x] }) e it ((i : Int) + 1) old := Heap.get?_push_of_some _ he₃
  generalize hh₄ : h₃.push { cls := .type "tuple", data := .seq #[.int i tk, x] } = h₄ at he₄
  have hsz : h₃.objs.size = hp.objs.size := by rw [hs₃.1, hs₂.1, hs₁.1]
  have hel : e < hp.objs.size := Heap.lt_size he
  have ht₄ : h₄.get? hp.objs.size = some { cls := .type "tuple", data := .seq #[.int i tk, x] } := by rw [← hh₄, ← hsz]; exact Heap.get?_push_size _ rfl
  have hk₄ : ∀ b o, b ≠ e → b ≠ it → hp.get? b = some o → h₄.get? b = some o := fun b o hbe hbi hb => by
    rw [← hh₄]; exact Heap.get?_push_of_some _ (hs₃.extBut b o hbe (hs₂.extBut b o hbe (hs₁.extBut b o hbi hb)))
  have hit₄ : h₄.IsTupleIter it l (i + 1) := by
    obtain ⟨o, ho, r⟩ := hit₁
    rw [← hh₄]
    exact ⟨o, Heap.get?_push_of_some _ (hs₃.extBut _ _ (Ne.symm hne) (hs₂.extBut _ _ (Ne.symm hne) ho)), r⟩
  show wpAny _ _ (Builtin.SmallTypes.ownedTupleIsFree (.ref e) >>= _) _ _ ⟨h₄, g, d, tk + 1, os⟩
  rw [hsz]
  clear hh₄ he₃ hs₃ he₂ hs₂ he₁ hs₁ hit₁ hsz h₃ h₂ h₁
  refine wpAny_bind ?_
  unfold Builtin.SmallTypes.ownedTupleIsFree
  refine wpAny_bind (wpAny_field he₄ rfl (x := .none) rfl (wpAny_pure ?_))
  simp only [if_true]
  refine wpAny_bind (wpAny_rule ?_)
  refine wpAny_bind (wpAny_field he₄ rfl (x := old) rfl ?_)
  refine wpAny_bind (wpAny_setField_rec he₄ (by simp) fun h₅ he₅ hs₅ => ?_)
  replace hs₅ : Heap.SameBut e h₄ h₅ := hs₅
  replace he₅ : IsEnum h₅ e it ((i : Int) + 1) x := he₅
  show wpAny _ _ (Builtin.SmallTypes.ownedTupleHandOut (.ref e) (.ref hp.objs.size) >>= _) _ _ ⟨h₅, g, d, tk + 1, os⟩
  refine wpAny_bind ?_
  unfold Builtin.SmallTypes.ownedTupleHandOut
  refine wpAny_bind (wpAny_setField_rec he₅ (by simp) fun h₆ he₆ hs₆ => ?_)
  replace hs₆ : Heap.SameBut e h₅ h₆ := hs₆
  replace he₆ : IsEnumOut h₆ e it ((i : Int) + 1) x hp.objs.size := he₆
  refine wpAny_setField_rec he₆ (by simp) fun h₇ he₇ hs₇ => ?_
  replace hs₇ : Heap.SameBut e h₆ h₇ := hs₇
  replace he₇ : IsEnumOut h₇ e it ((i : Int) + 1) x hp.objs.size := he₇
  refine wpAny_bind (wpAny_letGo (wpAny_pure ⟨_, rfl, hQ h₇ he₇ ?_ ?_ ?_⟩))
  · obtain ⟨o, ho, r⟩ := hit₄
    exact ⟨o, hs₇.extBut _ _ (Ne.symm hne) (hs₆.extBut _ _ (Ne.symm hne) (hs₅.extBut _ _ (Ne.symm hne) ho)), r⟩
  · exact hs₇.extBut _ _ (Nat.ne_of_gt hel) (hs₆.extBut _ _ (Nat.ne_of_gt hel) (hs₅.extBut _ _ (Nat.ne_of_gt hel) ht₄))
  · exact fun b o hbe hbi hb => hs₇.extBut b o hbe (hs₆.extBut b o hbe (hs₅.extBut b o hbe (hk₄ b o hbe hbi hb)))

theorem pyNext_enumT_item {e it l : Addr} {i : Nat} {items : Array Value} {x old : Value} {Q : Option Value → Shared → Prop}
    (he : IsEnum s.heap e it i old) (hit : s.heap.IsTupleIter it l i) (hl : s.heap.IsTuple l items) (hx : items[i]? = some x) (hne : e ≠ it)
    (hQ : ∀ h', IsEnumOut h' e it ((i : Int) + 1) x s.heap.objs.size → h'.IsTupleIter it l (i + 1) →
      h'.get? s.heap.objs.size = some { cls := .type "tuple", data := .seq #[.int i s.toks, x] } →
      (∀ b o, b ≠ e → b ≠ it → s.heap.get? b = some o → h'.get? b = some o) → Q (some (.ref s.heap.objs.size)) { s with heap := h', toks := s.toks + 1 }) :
    wpAny (model prog w) A (pyNext (.ref e)) Q E s := by
  have hT : s.TypeIs (.ref e) "enumerate" := ⟨_, he, rfl⟩
  unfold pyNext
  exact wpAny_bind (wpAny_attempt (wpAny_callSpecial?_slot (name := Str.ofString "__next__") hT F.slot_enumerate_next
    (wpAny_call_entry F.slot_enumerate_next hT F.entry_enumerate_next
      (enumT_next he hit hl hx hne fun h' a b c k => wpAny_pure (hQ h' a b c k)) (F.args_enumerate_next_1 _))))
theorem pyNext_enumT_end {e it l : Addr} {i : Nat} {items : Array Value} {old : Value} {Q : Option Value → Shared → Prop} (hh : A.handled = none)
    (he : IsEnum s.heap e it i old) (hit : s.heap.IsTupleIter it l i) (hl : s.heap.IsTuple l items) (hx : items[i]? = none)
    (hQ : ∀ h', Heap.ExtBut it s.heap h' → Q none { s with heap := h' }) : wpAny (model prog w) A (pyNext (.ref e)) Q E s := by
  have hT : s.TypeIs (.ref e) "enumerate" := ⟨_, he, rfl⟩
  unfold pyNext
  refine wpAny_bind (wpAny_attempt (wpAny_callSpecial?_slot (name := Str.ofString "__next__") hT F.slot_enumerate_next
    (wpAny_call_entry F.slot_enumerate_next hT F.entry_enumerate_next ?_ (F.args_enumerate_next_1 _))))
  show wpAny _ _ (field (.ref e) 2 >>= _) _ _ _
  refine wpAny_bind (wpAny_field he rfl (x := .ref it) rfl ?_)
  refine wpAny_bind (nextOfT_end hh hit hl hx fun h' x he' hx' => ?_)
  obtain ⟨o, ho, hc⟩ := hx'
  refine wpAny_bind (wpAny_isInstance (T := "StopIteration") (b := true) ⟨o, ho, hc⟩ isSubtype_stop ?_)
  exact wpAny_pure (hQ _ he')
end
theorem meets_enumerate_newT (l : Addr) (items : Array Value) (n : Nat) (dct : Option Addr) (sl : Array (Option Value)) :
    Meets (Builtin.«enumerate.__new__» ⟨[.type "enumerate", .ref l], []⟩) (fun _ R s => s.heap.get? l = some { cls := .type "tuple", dict := dct, data := .seq items n, slots := sl } ∧
      R (.ok (.ret (.ref (s.heap.push { cls := .type "tuple_iterator", data := .fields #[.ref l, .int 0 0] }).objs.size)))
        { s with heap := (s.heap.push { cls := .type "tuple_iterator", data := .fields #[.ref l, .int 0 0] }).push { cls := .type "enumerate", data := .fields #[.none, .bool false, .ref s.heap.objs.size, rawInt 0, .none, .none] } }) :=
  .of_wp fun prog w A R s h => by
    obtain ⟨hp, g, d, tk, os⟩ := s; obtain ⟨hl, h⟩ := h
    have hsub := sub_enumerate
    have hL : Heap.IsTuple (Shared.heap ⟨hp, g, d, tk, os⟩) l items := ⟨_, hl, rfl, n, rfl⟩
    wp_walk using wpAny_loadPart' hl
    refine wpAny_stack_any fun st => wpAny_pure ?_
    split
    · rename_i c _ _ _ _ _
      cases (c == Value.type "enumerate")
      · wp_walk using wpAny_loadPart' hl, wpAny_pyIter_tuple hL
        exact ⟨_, rfl, h⟩
      · wp_walk using wpAny_loadPart' hl, wpAny_pyIter_tuple hL
        exact ⟨_, rfl, h⟩
    · wp_walk using wpAny_loadPart' hl, wpAny_pyIter_tuple hL
      exact ⟨_, rfl, h⟩
section
variable {prog : Program} {w : World} {A : Around} {E : Value → Shared → Prop} {s : Shared}
theorem call_enumerate_tup {l : Addr} {items : Array Value} {Q : Value → Shared → Prop} (hL : s.heap.IsTuple l items)
    (h : Q (.ref (s.heap.objs.size + 1)) { s with heap := (s.heap.push { cls := .type "tuple_iterator", data := .fields #[.ref l, .int 0 0] }).push { cls := .type "enumerate", data := .fields #[.none, .bool false, .ref s.heap.objs.size, rawInt 0, .none, .none] } }) :
    wpAny (model prog w) A (PySem.call (.type "enumerate") [.ref l]) Q E s := by
  obtain ⟨⟨c, dct, dt, sl⟩, hl, hc, n, hd⟩ := hL
  replace hc : c = .type "tuple" := hc
  replace hd : dt = .seq items n := hd
  subst hc hd
  refine callType_new F.called_enumerate (by decide) (F.typeCall_enumerate_1 _) (F.newCall_enumerate_1 _) (fun obj => F.args_object_init_2 obj _) F.entry_enumerate_new
    (meets_enumerate_newT l items n dct sl) ⟨hl, ?_⟩
  have hz : (s.heap.push { cls := .type "tuple_iterator", data := .fields #[.ref l, .int 0 0] }).objs.size = s.heap.objs.size + 1 := Heap.size_push ..
  show _ ∧ _
  rw [hz]
  have this := Heap.get?_push_size (s.heap.push { cls := .type "tuple_iterator", data := .fields #[.ref l, .int 0 0] })
      (o := { cls := .type "enumerate", data := .fields #[.none, .bool false, .ref s.heap.objs.size, rawInt 0, .none, .none] }) rfl
  rw [hz] at this
  exact ⟨⟨_, this, rfl⟩, h⟩
end
noncomputable abbrev enumO (it : Addr) (i : Int) (old : Value) : Obj := { cls := .type "enumerate", dict := none, data := .fields #[.none, .bool false, .ref it, rawInt i, .none, old], slots := #[] }
noncomputable def SIEnum (c : String) (src : List Value → Nat → Obj) (e it l : Addr) (vs : List Value) (nn : Nat) (i : Nat) (nx : Led) : Prop :=
  (∃ old, (e, enumO it (i : Nat) old) ∈ nx) ∧ (∃ o, (it, o) ∈ nx ∧ o.cls = .type c ∧ o.data = .fields #[.ref l, .int (i : Nat) 0]) ∧ (l, src vs nn) ∈ nx
noncomputable abbrev SIEnumT := SIEnum "tuple_iterator" (fun vs n => tupO vs n)
noncomputable abbrev SIEnumL := SIEnum "list_iterator" (fun vs n => listOf vs.toArray n)
theorem cls_ne {h₀ h : Heap} {L : Addr} {nx : Led} (N : News h₀ L h nx) {a b : Addr} {o o' : Obj} (h1 : (a, o) ∈ nx) (h2 : (b, o') ∈ nx) (hc : o.cls ≠ o'.cls) : a ≠ b := by
  rintro rfl
  exact hc (congrArg Obj.cls (News.agree N h1 h2))
section
variable {w : World} {A : Around} {elts : List Expr} {kk : Nat} {tp : Pos} {e it l : Addr} {vs : List Value} {nn : Nat}
theorem led_two {h₀ h h' : Heap} {L : Addr} {m : Str → Option Value} {nx : Led} {oe oi oe' oi' : Obj} (F : Fr h₀ L h m) (N : News h₀ L h nx) (he : (e, oe) ∈ nx) (hi : (it, oi) ∈ nx)
    (hk : ∀ b o, b ≠ e → b ≠ it → h.get? b = some o → h'.get? b = some o) (he' : h'.get? e = some oe') (hi' : h'.get? it = some oi') :
    Fr h₀ L h' m ∧ News h₀ L h' ((e, oe') :: (it, oi') :: nx.filter (fun p => p.1 != e && p.1 != it)) := by
  have ze := N _ he
  have zi := N _ hi
  refine ⟨⟨F.ns.at fun o x => hk _ o (Ne.symm ze.2.1) (Ne.symm zi.2.1) x, fun b x q => hk b x (fun r => ?_) (fun r => ?_) (F.keep b x q), F.above⟩, fun p hp => ?_⟩
  · have := ze.2.2; rw [← r, q] at this; cases this
  · have := zi.2.2; rw [← r, q] at this; cases this
  · rcases List.mem_cons.mp hp with rfl | hp
    · exact ⟨he', ze.2⟩
    · rcases List.mem_cons.mp hp with rfl | hp
      · exact ⟨hi', zi.2⟩
      · obtain ⟨hp1, hp2⟩ := List.mem_filter.mp hp
        simp only [Bool.and_eq_true, bne_iff_ne, ne_eq] at hp2
        exact ⟨hk _ _ hp2.1 hp2.2 (N p hp1).1, (N p hp1).2⟩
theorem iter_enumT (hh : A.handled = none) : Iter w A (.Tuple elts kk tp) e vs.length [.type "enumerate", .type "tuple_iterator"] [e, it] (fun i v ny => ∃ T t n x, v = .ref T ∧ (T, tupO [.int (i : Nat) t, x] n) ∈ ny ∧ vs[i]? = some x) (SIEnumT e it l vs nn) where
  next := fun i s E h₀ L m nx Q hi hS F N h => by
    obtain ⟨⟨old, he⟩, ⟨o, hm, hc, hd⟩, hl⟩ := hS
    have hne : e ≠ it := cls_ne N he hm (by rw [hc]; simp)
    have hit : s.heap.IsTupleIter it l i := ⟨o, (N _ hm).1, hc, hd⟩
    have hls : s.heap.IsTuple l vs.toArray := ⟨_, (N _ hl).1, rfl, nn, rfl⟩
    have hie : IsEnum s.heap e it i old := (N _ he).1
    refine pyNext_enumT_item hie hit hls (x := vs[i]) (by simp [hi]) hne fun h' ho hit' hT hk => ⟨_, rfl, ?_⟩
    refine wpAny_letOwnedTupleGo_enum ho fun h₂ he₂ hs₂ => ?_
    replace hs₂ : Heap.SameBut e h' h₂ := hs₂
    obtain ⟨o', ho', hc', hd'⟩ := hit'
    have helt : e < s.heap.objs.size := Heap.lt_size hie
    have hk₂ : ∀ b o, b ≠ e → b ≠ it → s.heap.get? b = some o → h₂.get? b = some o := fun b o hb hb' x => hs₂.extBut b o hb (hk b o hb hb' x)
    obtain ⟨F', N'⟩ := led_two F N he hm hk₂ he₂ (hs₂.extBut _ _ (Ne.symm hne) ho')
    have hT₂ : h₂.get? s.heap.objs.size = some (tupO [.int (i : Nat) s.toks, vs[i]] 0) := hs₂.extBut _ _ (Nat.ne_of_gt helt) hT
    have NT : News h₀ L h₂ ((s.heap.objs.size, tupO [.int (i : Nat) s.toks, vs[i]] 0) :: (e, enumO it (((i + 1 : Nat)) : Int) vs[i]) :: (it, o') :: nx.filter (fun p => p.1 != e && p.1 != it)) := fun p hp => by
      rcases List.mem_cons.mp hp with rfl | hp
      · refine ⟨hT₂, Nat.ne_of_gt F.ns.lt, ?_⟩
        cases q : h₀.get? s.heap.objs.size with
        | none => rfl
        | some o => exact absurd (Heap.lt_size (F.keep _ _ q)) (Nat.lt_irrefl _)
      · have e1 : ((i + 1 : Nat) : Int) = (i : Int) + 1 := by push_cast; rfl
        rw [e1] at hp
        exact N' p hp
    have keep : KeepL [.type "enumerate", .type "tuple_iterator"] nx ((s.heap.objs.size, tupO [.int (i : Nat) s.toks, vs[i]] 0) :: (e, enumO it (((i + 1 : Nat)) : Int) vs[i]) :: (it, o') :: nx.filter (fun p => p.1 != e && p.1 != it)) := fun p hp hk =>
      .tail _ (.tail _ (.tail _ (List.mem_filter.mpr ⟨hp, by
        have h1 := Kept.ne N he (by simp) rfl hp hk
        have h2 := Kept.ne N hm (by rw [hc]; simp) hd hp hk
        simp [h1, h2]⟩)))
    exact h _ h₂ _ _ ⟨_, _, _, _, rfl, .head _, by simp [hi]⟩ ⟨⟨_, .tail _ (.head _)⟩, ⟨o', .tail _ (.tail _ (.head _)), hc', hd'⟩, keep _ hl kept_seq⟩ F' NT keep (fun p hp hne => .tail _ (.tail _ (.tail _ (List.mem_filter.mpr ⟨hp, by simpa using hne⟩))))
  done := fun s E h₀ L m nx Q hS F N h => by
    obtain ⟨⟨old, he⟩, ⟨o, hm, hc, hd⟩, hl⟩ := hS
    have hit : s.heap.IsTupleIter it l vs.length := ⟨o, (N _ hm).1, hc, hd⟩
    have hls : s.heap.IsTuple l vs.toArray := ⟨_, (N _ hl).1, rfl, nn, rfl⟩
    have hie : IsEnum s.heap e it vs.length old := (N _ he).1
    refine pyNext_enumT_end hh hie hit hls (by simp) fun h' hx => ⟨rfl, ?_⟩
    obtain ⟨F', N'⟩ := led_ext F N hm hx
    exact h h' s.toks _ F' N' (fun p hp hk => List.mem_filter.mpr ⟨hp, by simpa using Kept.ne N hm (by rw [hc]; simp) hd hp hk⟩) fun p hp hne => List.mem_filter.mpr ⟨hp, by
        have h1 : p.1 ≠ it := fun q => hne (by simp [q])
        simpa using h1⟩
theorem iter_enumL (hh : A.handled = none) : Iter w A (.Tuple elts kk tp) e vs.length [.type "enumerate", .type "list_iterator"] [e, it] (fun i v ny => ∃ T t n x, v = .ref T ∧ (T, tupO [.int (i : Nat) t, x] n) ∈ ny ∧ vs[i]? = some x) (SIEnumL e it l vs nn) where
  next := fun i s E h₀ L m nx Q hi hS F N h => by
    obtain ⟨⟨old, he⟩, ⟨o, hm, hc, hd⟩, hl⟩ := hS
    have hne : e ≠ it := cls_ne N he hm (by rw [hc]; simp)
    have hit : s.heap.IsListIter it l i := ⟨o, (N _ hm).1, hc, hd⟩
    have hls : s.heap.IsList l vs.toArray := ⟨_, (N _ hl).1, rfl, nn, rfl⟩
    have hie : IsEnum s.heap e it i old := (N _ he).1
    refine wpAny_pyNext_enum_item hie hit hls (x := vs[i]) (by simp [hi]) hne fun h' ho hit' hT _ hk => ⟨_, rfl, ?_⟩
    refine wpAny_letOwnedTupleGo_enum ho fun h₂ he₂ hs₂ => ?_
    replace hs₂ : Heap.SameBut e h' h₂ := hs₂
    obtain ⟨o', ho', hc', hd'⟩ := hit'
    have helt : e < s.heap.objs.size := Heap.lt_size hie
    have hk₂ : ∀ b o, b ≠ e → b ≠ it → s.heap.get? b = some o → h₂.get? b = some o := fun b o hb hb' x => hs₂.extBut b o hb (hk b o hb hb' x)
    obtain ⟨F', N'⟩ := led_two F N he hm hk₂ he₂ (hs₂.extBut _ _ (Ne.symm hne) ho')
    have hT₂ : h₂.get? s.heap.objs.size = some (tupO [.int (i : Nat) s.toks, vs[i]] 0) := hs₂.extBut _ _ (Nat.ne_of_gt helt) hT
    have NT : News h₀ L h₂ ((s.heap.objs.size, tupO [.int (i : Nat) s.toks, vs[i]] 0) :: (e, enumO it (((i + 1 : Nat)) : Int) vs[i]) :: (it, o') :: nx.filter (fun p => p.1 != e && p.1 != it)) := fun p hp => by
      rcases List.mem_cons.mp hp with rfl | hp
      · refine ⟨hT₂, Nat.ne_of_gt F.ns.lt, ?_⟩
        cases q : h₀.get? s.heap.objs.size with
        | none => rfl
        | some o => exact absurd (Heap.lt_size (F.keep _ _ q)) (Nat.lt_irrefl _)
      · have e1 : ((i + 1 : Nat) : Int) = (i : Int) + 1 := by push_cast; rfl
        rw [e1] at hp
        exact N' p hp
    have keep : KeepL [.type "enumerate", .type "list_iterator"] nx ((s.heap.objs.size, tupO [.int (i : Nat) s.toks, vs[i]] 0) :: (e, enumO it (((i + 1 : Nat)) : Int) vs[i]) :: (it, o') :: nx.filter (fun p => p.1 != e && p.1 != it)) := fun p hp hk =>
      .tail _ (.tail _ (.tail _ (List.mem_filter.mpr ⟨hp, by
        have h1 := Kept.ne N he (by simp) rfl hp hk
        have h2 := Kept.ne N hm (by rw [hc]; simp) hd hp hk
        simp [h1, h2]⟩)))
    exact h _ h₂ _ _ ⟨_, _, _, _, rfl, .head _, by simp [hi]⟩ ⟨⟨_, .tail _ (.head _)⟩, ⟨o', .tail _ (.tail _ (.head _)), hc', hd'⟩, keep _ hl kept_seq⟩ F' NT keep (fun p hp hne => .tail _ (.tail _ (.tail _ (List.mem_filter.mpr ⟨hp, by simpa using hne⟩))))
  done := fun s E h₀ L m nx Q hS F N h => by
    obtain ⟨⟨old, he⟩, ⟨o, hm, hc, hd⟩, hl⟩ := hS
    have hit : s.heap.IsListIter it l vs.length := ⟨o, (N _ hm).1, hc, hd⟩
    have hls : s.heap.IsList l vs.toArray := ⟨_, (N _ hl).1, rfl, nn, rfl⟩
    have hie : IsEnum s.heap e it vs.length old := (N _ he).1
    refine wpAny_pyNext_enum_end hh hie hit hls (by simp) fun h' hx => ⟨rfl, ?_⟩
    obtain ⟨F', N'⟩ := led_ext F N hm hx
    exact h h' s.toks _ F' N' (fun p hp hk => List.mem_filter.mpr ⟨hp, by simpa using Kept.ne N hm (by rw [hc]; simp) hd hp hk⟩) fun p hp hne => List.mem_filter.mpr ⟨hp, by
        have h1 : p.1 ≠ it := fun q => hne (by simp [q])
        simpa using h1⟩
end
section
variable {w : World} {A : Around} {s : Shared} {env : Env} {h₀ : Heap} {L : Addr} {elts : List Expr} {kk : Nat} {tp : Pos} {body orelse : List Stmt} {R : Result → Shared → Prop} {E : Value → Shared → Prop} {m : Str → Option Value} {nx : Led} {l : Addr} {vs : List Value} {nn : Nat}
theorem for_enumT (Inv : Nat → (Str → Option Value) → Led → Prop) (hh : A.handled = none)
    (stable : ∀ i m nx ny, Inv i m nx → KeepL [.type "enumerate", .type "tuple_iterator"] nx ny → Inv i m ny)
    (F : Fr h₀ L s.heap m) (N : News h₀ L s.heap nx) (hm : (l, tupO vs nn) ∈ nx) (hI : Inv 0 m nx)
    (turn : ∀ e it i T x t n m₁ ny h tk, vs[i]? = some x → (T, tupO [.int (i : Nat) t, x] n) ∈ ny → SIEnumT e it l vs nn (i + 1) ny → Inv i m₁ ny → Fr h₀ L h m₁ → News h₀ L h ny →
      wpAny (model PG w) A (assign (.Tuple elts kk tp) env (.ref T)) (fun _ s₂ => wpAny (model PG w) A (execs body env) (ForPost h₀ L (SIEnumT e it l vs nn) Inv (i + 1) s R) noE s₂) noE { s with heap := h, toks := tk })
    (done : ∀ m₁ ny h tk, Inv vs.length m₁ ny → Fr h₀ L h m₁ → News h₀ L h ny → wpAny (model PG w) A (execs orelse env) (fun f s₃ => R (.ok f) s₃) noE { s with heap := h, toks := tk }) :
    wpAny (model PG w) A (PySem.call (.type "enumerate") [.ref l]) (fun xv s₁ => wpAny (model PG w) A (pyIter xv) (fun it s₂ => codeAny (model PG w) A (.forLoop (.Tuple elts kk tp) it body orelse env) R s₂) E s₁) E s := by
  refine call_enumerate_tup (items := vs.toArray) ⟨_, (N _ hm).1, rfl, nn, rfl⟩ ?_
  obtain ⟨F', N'⟩ := push_new (o := { cls := .type "tuple_iterator", data := .fields #[.ref l, .int 0 0] }) F N rfl
  obtain ⟨F₂, N₂⟩ := push_new (s := { s with heap := s.heap.push { cls := .type "tuple_iterator", data := .fields #[.ref l, .int 0 0] } }) (o := { cls := .type "enumerate", data := .fields #[.none, .bool false, .ref s.heap.objs.size, rawInt 0, .none, .none] }) F' N' rfl
  have hz : (s.heap.push { cls := .type "tuple_iterator", data := .fields #[.ref l, .int 0 0] }).objs.size = s.heap.objs.size + 1 := Heap.size_push ..
  dsimp only at N₂ F₂
  rw [hz] at N₂
  refine wpAny_pyIter_enum (it := s.heap.objs.size) (i := 0) (old := .none) (N₂ _ (.head _)).1 ?_
  exact for_iter (s := { s with heap := _ }) (iter_enumT (it := s.heap.objs.size) (l := l) (nn := nn) hh) Inv stable (fun i v m₁ ny h tk _ hP hS hI' F₁ N₁ => by
      obtain ⟨T, t, n, x, rfl, hT, hx⟩ := hP
      exact turn _ _ i T x t n m₁ ny h tk hx hT hS hI' F₁ N₁) done F₂ N₂
    ⟨⟨_, .head _⟩, ⟨_, .tail _ (.head _), rfl, rfl⟩, .tail _ (.tail _ hm)⟩ (stable _ _ _ _ hI fun p hp _ => .tail _ (.tail _ hp))
theorem for_enumL (Inv : Nat → (Str → Option Value) → Led → Prop) (hh : A.handled = none)
    (stable : ∀ i m nx ny, Inv i m nx → KeepL [.type "enumerate", .type "list_iterator"] nx ny → Inv i m ny)
    (F : Fr h₀ L s.heap m) (N : News h₀ L s.heap nx) (hm : (l, listOf vs.toArray nn) ∈ nx) (hI : Inv 0 m nx)
    (turn : ∀ e it i T x t n m₁ ny h tk, vs[i]? = some x → (T, tupO [.int (i : Nat) t, x] n) ∈ ny → SIEnumL e it l vs nn (i + 1) ny → Inv i m₁ ny → Fr h₀ L h m₁ → News h₀ L h ny →
      wpAny (model PG w) A (assign (.Tuple elts kk tp) env (.ref T)) (fun _ s₂ => wpAny (model PG w) A (execs body env) (ForPost h₀ L (SIEnumL e it l vs nn) Inv (i + 1) s R) noE s₂) noE { s with heap := h, toks := tk })
    (done : ∀ m₁ ny h tk, Inv vs.length m₁ ny → Fr h₀ L h m₁ → News h₀ L h ny → wpAny (model PG w) A (execs orelse env) (fun f s₃ => R (.ok f) s₃) noE { s with heap := h, toks := tk }) :
    wpAny (model PG w) A (PySem.call (.type "enumerate") [.ref l]) (fun xv s₁ => wpAny (model PG w) A (pyIter xv) (fun it s₂ => codeAny (model PG w) A (.forLoop (.Tuple elts kk tp) it body orelse env) R s₂) E s₁) E s := by
  have hlt : l < s.heap.objs.size := Heap.lt_size (N _ hm).1
  refine call_enumerate_list (items := vs.toArray) ⟨_, (N _ hm).1, rfl, nn, rfl⟩ fun h' hE hI₀ hsz hk => ?_
  have F₂ : Fr h₀ L h' m := F.keeps hk
  obtain ⟨oi, hoi, hc, hd⟩ := hI₀
  have fresh : ∀ a, s.heap.objs.size ≤ a → h₀.get? a = none ∧ a ≠ L := fun a ha => by
    refine ⟨?_, Nat.ne_of_gt (Nat.lt_of_lt_of_le F.ns.lt ha)⟩
    cases q : h₀.get? a with
    | none => rfl
    | some o => exact absurd (Nat.lt_of_lt_of_le (Heap.lt_size (F.keep _ _ q)) ha) (Nat.lt_irrefl _)
  have N₂ : News h₀ L h' ((s.heap.objs.size + 1, enumO s.heap.objs.size 0 .none) :: (s.heap.objs.size, oi) :: nx) := fun p hp => by
    rcases List.mem_cons.mp hp with rfl | hp
    · exact ⟨hE, (fresh _ (Nat.le_succ _)).2, (fresh _ (Nat.le_succ _)).1⟩
    · rcases List.mem_cons.mp hp with rfl | hp
      · exact ⟨hoi, (fresh _ (Nat.le_refl _)).2, (fresh _ (Nat.le_refl _)).1⟩
      · exact ⟨hk _ _ (N p hp).1, (N p hp).2⟩
  refine wpAny_pyIter_enum (it := s.heap.objs.size) (i := 0) (old := .none) (N₂ _ (.head _)).1 ?_
  exact for_iter (s := { s with heap := _ }) (iter_enumL (it := s.heap.objs.size) (l := l) (nn := nn) hh) Inv stable (fun i v m₁ ny h tk _ hP hS hI' F₁ N₁ => by
      obtain ⟨T, t, n, x, rfl, hT, hx⟩ := hP
      exact turn _ _ i T x t n m₁ ny h tk hx hT hS hI' F₁ N₁) done F₂ N₂
    ⟨⟨_, .head _⟩, ⟨_, .tail _ (.head _), hc, hd⟩, .tail _ (.tail _ hm)⟩ (stable _ _ _ _ hI fun p hp _ => .tail _ (.tail _ hp))
end
end Mine
end
section
open PySem PySem.W PyProof.Rows PyProof.Rows.LCg
set_option maxRecDepth 100000
namespace Mine
/-- an iterator with its source's addresses -/
structure IterS (w : World) (A : Around) (I : Addr) (n : Nat) (icl : List Value) (P : Nat → Value → Prop) (SI : Nat → Led → Prop) (src : List Addr) : Prop where
  next : ∀ (i : Nat) (s : Shared) (E : Value → Shared → Prop) (h₀ : Heap) (L : Addr) (m : Str → Option Value) (nx : Led) (Q : Option Value → Shared → Prop), i < n → SI i nx → Fr h₀ L s.heap m → News h₀ L s.heap nx →
    (∀ v h' tk ny, P i v → SI (i + 1) ny → Fr h₀ L h' m → News h₀ L h' ny → KeepL icl nx ny → KeepA [I] nx ny → Q (some v) { s with heap := h', toks := tk }) →
    wpAny (model PG w) A (pyNext (.ref I)) Q E s
  done : ∀ (s : Shared) (E : Value → Shared → Prop) (h₀ : Heap) (L : Addr) (m : Str → Option Value) (nx : Led) (Q : Option Value → Shared → Prop), SI n nx → Fr h₀ L s.heap m → News h₀ L s.heap nx →
    (∀ h' tk ny, Fr h₀ L h' m → News h₀ L h' ny → KeepL icl nx ny → KeepA [I] nx ny → Q none { s with heap := h', toks := tk }) →
    wpAny (model PG w) A (pyNext (.ref I)) Q E s
  stab : ∀ i nx ny, SI i nx → (∀ p ∈ nx, p.1 ∈ src → p ∈ ny) → SI i ny
  mem : ∀ i nx, SI i nx → ∀ a ∈ src, ∃ o, (a, o) ∈ nx
  self : ∀ i (s : Shared) (Q : Value → Shared → Prop) (E : Value → Shared → Prop) (h₀ : Heap) (L : Addr) (nx : Led), SI i nx → News h₀ L s.heap nx → Q (.ref I) s → wpAny (model PG w) A (pyIter (.ref I)) Q E s
  go : ∀ i (target : Expr) (v : Value) (s : Shared) (Q : Unit → Shared → Prop) (E : Value → Shared → Prop) (h₀ : Heap) (L : Addr) (nx : Led), SI i nx → News h₀ L s.heap nx → Q () s → wpAny (model PG w) A (letOwnedTupleGo target (.ref I) v) Q E s
theorem iterS_list {w : World} {A : Around} {I l : Addr} {vs : List Value} {nn : Nat} (hh : A.handled = none) : IterS w A I vs.length [.type "list_iterator"] (fun i v => vs[i]? = some v) (SIList I l vs nn) [I, l] where
  next := fun i s E h₀ L m nx Q hi hS F N h => by
    obtain ⟨⟨o, hm, hc, hd⟩, hl⟩ := hS
    have hit : s.heap.IsListIter I l i := ⟨o, (N _ hm).1, hc, hd⟩
    have hls : s.heap.IsList l vs.toArray := ⟨_, (N _ hl).1, rfl, nn, rfl⟩
    refine wpAny_pyNext_list_item hit hls (x := vs[i]) (by simp [hi]) fun h' hit' hs' => ?_
    obtain ⟨o', ho', hc', hd'⟩ := id hit'
    obtain ⟨F', N'⟩ := led_set F N hm hs' ho'
    have keep : KeepL [.type "list_iterator"] nx ((I, o') :: nx.filter (fun p => p.1 != I)) := fun p hp hk =>
      .tail _ (List.mem_filter.mpr ⟨hp, by simpa using Kept.ne N hm (by rw [hc]; simp) hd hp hk⟩)
    exact h _ h' s.toks _ (by simp [hi]) ⟨⟨o', .head _, hc', hd'⟩, keep _ hl kept_seq⟩ F' N' keep (fun p hp hne => .tail _ (List.mem_filter.mpr ⟨hp, by simpa using hne⟩))
  done := fun s E h₀ L m nx Q hS F N h => by
    obtain ⟨⟨o, hm, hc, hd⟩, hl⟩ := hS
    have hit : s.heap.IsListIter I l vs.length := ⟨o, (N _ hm).1, hc, hd⟩
    have hls : s.heap.IsList l vs.toArray := ⟨_, (N _ hl).1, rfl, nn, rfl⟩
    refine wpAny_pyNext_list_end hh hit hls (by simp) fun h' hx => ?_
    obtain ⟨F', N'⟩ := led_ext F N hm hx
    exact h h' s.toks _ F' N' (fun p hp hk => List.mem_filter.mpr ⟨hp, by simpa using Kept.ne N hm (by rw [hc]; simp) hd hp hk⟩) fun p hp hne => List.mem_filter.mpr ⟨hp, by simpa using hne⟩
  stab := fun i nx ny ⟨⟨o, hm, r⟩, hl⟩ h => ⟨⟨o, h _ hm (by simp), r⟩, h _ hl (by simp)⟩
  mem := fun i nx ⟨⟨o, hm, r⟩, hl⟩ a ha => by
    rcases List.mem_cons.mp ha with rfl | ha
    · exact ⟨o, hm⟩
    · rw [List.mem_singleton.mp ha]; exact ⟨_, hl⟩
  self := fun i s Q E h₀ L nx ⟨⟨o, hm, hc, hd⟩, hl⟩ N h => wpAny_pyIter_listiter (l := l) (i := i) ⟨o, (N _ hm).1, hc, hd⟩ h
  go := fun i target v s Q E h₀ L nx ⟨⟨o, hm, hc, hd⟩, hl⟩ N h => letGo_listiter (t := l) (i := i) ⟨o, (N _ hm).1, hc, hd⟩ h
theorem iterS_tup {w : World} {A : Around} {I l : Addr} {vs : List Value} {nn : Nat} (hh : A.handled = none) : IterS w A I vs.length [.type "tuple_iterator"] (fun i v => vs[i]? = some v) (SITup I l vs nn) [I, l] where
  next := fun i s E h₀ L m nx Q hi hS F N h => by
    obtain ⟨⟨o, hm, hc, hd⟩, hl⟩ := hS
    have hit : s.heap.IsTupleIter I l i := ⟨o, (N _ hm).1, hc, hd⟩
    have hls : s.heap.IsTuple l vs.toArray := ⟨_, (N _ hl).1, rfl, nn, rfl⟩
    refine wpAny_pyNext_tuple_item hit hls (x := vs[i]) (by simp [hi]) fun h' hit' hs' => ?_
    obtain ⟨o', ho', hc', hd'⟩ := id hit'
    obtain ⟨F', N'⟩ := led_set F N hm hs' ho'
    have keep : KeepL [.type "tuple_iterator"] nx ((I, o') :: nx.filter (fun p => p.1 != I)) := fun p hp hk =>
      .tail _ (List.mem_filter.mpr ⟨hp, by simpa using Kept.ne N hm (by rw [hc]; simp) hd hp hk⟩)
    exact h _ h' s.toks _ (by simp [hi]) ⟨⟨o', .head _, hc', hd'⟩, keep _ hl kept_seq⟩ F' N' keep (fun p hp hne => .tail _ (List.mem_filter.mpr ⟨hp, by simpa using hne⟩))
  done := fun s E h₀ L m nx Q hS F N h => by
    obtain ⟨⟨o, hm, hc, hd⟩, hl⟩ := hS
    have hit : s.heap.IsTupleIter I l vs.length := ⟨o, (N _ hm).1, hc, hd⟩
    have hls : s.heap.IsTuple l vs.toArray := ⟨_, (N _ hl).1, rfl, nn, rfl⟩
    refine wpAny_pyNext_tuple_end hh hit hls (by simp) fun h' hx => ?_
    obtain ⟨F', N'⟩ := led_ext F N hm hx
    exact h h' s.toks _ F' N' (fun p hp hk => List.mem_filter.mpr ⟨hp, by simpa using Kept.ne N hm (by rw [hc]; simp) hd hp hk⟩) fun p hp hne => List.mem_filter.mpr ⟨hp, by simpa using hne⟩
  stab := fun i nx ny ⟨⟨o, hm, r⟩, hl⟩ h => ⟨⟨o, h _ hm (by simp), r⟩, h _ hl (by simp)⟩
  mem := fun i nx ⟨⟨o, hm, r⟩, hl⟩ a ha => by
    rcases List.mem_cons.mp ha with rfl | ha
    · exact ⟨o, hm⟩
    · rw [List.mem_singleton.mp ha]; exact ⟨_, hl⟩
  self := fun i s Q E h₀ L nx ⟨⟨o, hm, hc, hd⟩, hl⟩ N h => wpAny_pyIter_tupleiter (t := l) (i := i) ⟨o, (N _ hm).1, hc, hd⟩ h
  go := fun i target v s Q E h₀ L nx ⟨⟨o, hm, hc, hd⟩, hl⟩ N h => letGo_tupleiter (t := l) (i := i) ⟨o, (N _ hm).1, hc, hd⟩ h
theorem iterS_range {w : World} {A : Around} {I : Addr} {a : Int} {n : Nat} (hh : A.handled = none) : IterS w A I n [.type "range_iterator"] (fun i v => ∃ t, v = .int (a + (i : Nat)) t) (SIRange I a n) [I] where
  next := fun i s E h₀ L m nx Q hi hS F N h => by
    have hit : IsRangeIter s.heap I (a + (i : Nat)) ((n : Int) - (i : Nat)) 1 := (N _ hS).1
    refine wpAny_pyNext_range_item hit (by omega) fun h' hit' hs' => ?_
    obtain ⟨F', N'⟩ := led_set F N hS hs' hit'
    refine h _ h' _ _ ⟨_, rfl⟩ ?_ F' N' (fun p hp hk => .tail _ (List.mem_filter.mpr ⟨hp, by simpa using Kept.ne N hS (by simp) rfl hp hk⟩)) (fun p hp hne => .tail _ (List.mem_filter.mpr ⟨hp, by simpa using hne⟩))
    have e1 : a + ((i + 1 : Nat) : Int) = a + (i : Int) + 1 := by push_cast; omega
    have e2 : (n : Int) - ((i + 1 : Nat) : Int) = (n : Int) - (i : Int) - 1 := by push_cast; omega
    unfold SIRange
    rw [e1, e2]
    exact .head _
  done := fun s E h₀ L m nx Q hS F N h => by
    have hit : IsRangeIter s.heap I (a + (n : Nat)) ((n : Int) - (n : Nat)) 1 := (N _ hS).1
    refine wpAny_pyNext_range_end hh hit (by omega) fun h' hx => ?_
    obtain ⟨F', N'⟩ := led_ext F N hS hx
    exact h h' s.toks _ F' N' (fun p hp hk => List.mem_filter.mpr ⟨hp, by simpa using Kept.ne N hS (by simp) rfl hp hk⟩) fun p hp hne => List.mem_filter.mpr ⟨hp, by simpa using hne⟩
  stab := fun i nx ny hm h => h _ hm (by simp)
  mem := fun i nx hm b hb => by rw [List.mem_singleton.mp hb]; exact ⟨_, hm⟩
  self := fun i s Q E h₀ L nx hm N h => wpAny_pyIter_rangeiter (N _ hm).1 h
  go := fun i target v s Q E h₀ L nx hm N h => letGo_rangeiter (N _ hm).1 h

/-- the tests of a clause -/
noncomputable abbrev testsOf (cenv : Env) (ifs : List Expr) : Sem Bool := forIn ifs true fun c r => if r = true then do let ok ← isTrue c cenv (eval c cenv); pure (ForInStep.yield ok) else pure (ForInStep.yield r)

section
variable {w : World} {A : Around} {s : Shared} {env : Env} {h₀ : Heap} {L : Addr} {m : Str → Option Value} {E : Value → Shared → Prop}
/-- how a turn of a comprehension ends -/
noncomputable def CEnd (h₀ : Heap) (L : Addr) (m : Str → Option Value) (s : Shared) (nx : Led) (J : Led → Prop) (s' : Shared) : Prop :=
  ∃ h' tk ny, s' = { s with heap := h', toks := tk } ∧ Fr h₀ L h' m ∧ News h₀ L h' ny ∧ (∀ p ∈ nx, p ∈ ny) ∧ J ny
/-- the state at the head of a comprehension's turn -/
noncomputable def CHead (h₀ : Heap) (L : Addr) (m : Str → Option Value) (s : Shared) (SI : Nat → Led → Prop) (Inv : Nat → List Value → Led → Prop) (nx₀ : Led) (C D : Addr) (n : Nat) (k : Nat) (s' : Shared) : Prop :=
  ∃ h' tk ny i ys oC m₂, s' = { s with heap := h', toks := tk } ∧ Fr h₀ L h' m ∧ News h₀ L h' ny ∧ SI i ny ∧ Inv i ys ny ∧ (∀ p ∈ nx₀, p ∈ ny) ∧ (C, oC) ∈ ny ∧ NsObj oC m₂ ∧ (D, lst ys) ∈ ny ∧ i ≤ n ∧ ys.length ≤ i ∧ k = n + 1 - i

/-- the loop of a comprehension of one clause, the target a name -/
theorem comp_loop {x : Str} {px : Pos} {elt iter : Expr} {ifs : List Expr} {scope : Scope} {cl : List (Str × Addr)} {pos : Pos} {I C D : Addr} {n : Nat} {icl : List Value} {P : Nat → Value → Prop} {SI : Nat → Led → Prop} {src : List Addr} {R : Result → Shared → Prop} {nx₀ nx : Led}
    (T : IterS w A I n icl P SI src) (Inv : Nat → List Value → Led → Prop)
    (stable : ∀ i ys nx ny, Inv i ys nx → (∀ p ∈ nx, Kept icl p.2 → p.1 ≠ C → p.1 ≠ D → p ∈ ny) → Inv i ys ny)
    (hsz : n ≤ sizeLine) (hkind : scope.kind = .function) (hx : scope.names.lookup x = some .local)
    (hCL : C ≠ L) (hCD : C ≠ D) (hDL : D ≠ L) (hsrc : C ∉ src ∧ D ∉ src) (hold : ∀ p ∈ nx₀, p.1 ≠ C ∧ p.1 ≠ D ∧ p.1 ≠ I)
    (turn : ∀ i v ys nx oC m₂ h tk, i < n → ys.length ≤ i → P i v → Inv i ys nx → (∀ p ∈ nx₀, p ∈ nx) → (C, oC) ∈ nx → NsObj oC m₂ → m₂ x = some v → (D, lst ys) ∈ nx → Fr h₀ L h m → News h₀ L h nx →
      wpAny (model PG w) A (testsOf (compEnvC scope cl C env) ifs) (fun ok s₂ => if ok = true then wpAny (model PG w) A (eval elt (compEnvC scope cl C env)) (fun y s₃ => CEnd h₀ L m { s with heap := h, toks := tk } nx (Inv (i + 1) (ys ++ [y])) s₃) noE s₂
        else CEnd h₀ L m { s with heap := h, toks := tk } nx (Inv (i + 1) ys) s₂) noE { s with heap := h, toks := tk })
    (done : ∀ ys nx oC m₂ h tk, Inv n ys nx → (∀ p ∈ nx₀, p ∈ nx) → (C, oC) ∈ nx → NsObj oC m₂ → (D, lst ys) ∈ nx → Fr h₀ L h m → News h₀ L h nx → R (.ok .next) { s with heap := h, toks := tk })
    (F : Fr h₀ L s.heap m) (N : News h₀ L s.heap nx) (hSI : SI 0 nx) (hInv : Inv 0 [] nx) (h0 : ∀ p ∈ nx₀, p ∈ nx) {oC : Obj} {m₂ : Str → Option Value} (hCm : (C, oC) ∈ nx) (hCo : NsObj oC m₂) (hDm : (D, lst []) ∈ nx)
    (hCI : C ≠ I) (hDI : D ≠ I) :
    codeAny (model PG w) A (.compLoop (.ListComp elt [⟨.Name x px, iter, ifs, 0⟩] scope pos) 0 (.ref I) (.ref D) (compEnvC scope cl C env)) R s := by
  refine codeAny_compLoop_tests (CHead h₀ L m s SI Inv nx₀ C D n) ?_ (n + 1)
    ⟨s.heap, s.toks, nx, 0, [], oC, m₂, rfl, F, N, hSI, hInv, h0, hCm, hCo, hDm, Nat.zero_le _, Nat.le_refl _, rfl⟩
  rintro k s' ⟨h', tk, ny, i, ys, oC, m₂, rfl, F', N', hS', hI', h0', hCm', hCo', hDm', hi, hyl, rfl⟩
  obtain ⟨_, _, hCd, _, _⟩ := id hCo'
  have kC : Kept icl oC := .inr fun vs e => by rw [hCd] at e; cases e
  by_cases hlt : i < n
  · refine T.next i { s with heap := h', toks := tk } _ h₀ L m ny _ hlt hS' F' N' fun v h₁ tk₁ nz hP hS₁ F₁ N₁ hK hA => ?_
    have hC₁ := hA _ hCm' (by simpa using hCI)
    have hD₁ := hA _ hDm' (by simpa using hDI)
    have zC := N₁ _ hC₁
    refine wpAny_assign_Name (wpAny_storeName_local (lookup_relabel_local hx) (hCo'.ns zC.1) (fun h₂ hn₂ hs₂ => ?_) (by simp [compEnvC, relabel, hkind]))
    obtain ⟨oC₂, heC₂, hoC₂⟩ := ns_obj hn₂
    have hs₂' : Heap.SameBut C h₁ h₂ := hs₂
    obtain ⟨F₂, N₂⟩ := led_set F₁ N₁ hC₁ hs₂' heC₂
    have up : ∀ p ∈ nz, p.1 ≠ C → p ∈ (C, oC₂) :: nz.filter (fun p => p.1 != C) := fun p hp hne => .tail _ (List.mem_filter.mpr ⟨hp, by simpa using hne⟩)
    have hS₂ : SI (i + 1) ((C, oC₂) :: nz.filter (fun p => p.1 != C)) := T.stab _ _ _ hS₁ fun p hp hs => up p hp fun e => hsrc.1 (e ▸ hs)
    have hI₁ : Inv i ys nz := stable _ _ _ _ hI' fun p hp hk _ _ => hK p hp hk
    have hI₂ : Inv i ys ((C, oC₂) :: nz.filter (fun p => p.1 != C)) := stable _ _ _ _ hI₁ fun p hp _ hc _ => up p hp hc
    have h0₂ : ∀ p ∈ nx₀, p ∈ (C, oC₂) :: nz.filter (fun p => p.1 != C) := fun p hp => up p (hA p (h0' p hp) (by simpa using (hold p hp).2.2)) (hold p hp).1
    have hD₂ := up _ hD₁ (Ne.symm hCD)
    have hC₂ : (C, oC₂) ∈ (C, oC₂) :: nz.filter (fun p => p.1 != C) := .head _
    generalize (C, oC₂) :: nz.filter (fun p => p.1 != C) = nw at N₂ hS₂ hI₂ h0₂ hD₂ hC₂
    refine wpAny_mono (turn i v ys nw oC₂ _ h₂ _ hlt hyl hP hI₂ h0₂ hC₂ hoC₂ (by simp) hD₂ F₂ N₂) (fun ok s₃ h₃ => ?_) fun _ _ e => e.elim
    cases ok with
    | false =>
      obtain ⟨h₄, tk₄, n₄, rfl, F₄, N₄, sub, hI₄⟩ := h₃
      exact ⟨n + 1 - (i + 1), by omega, h₄, tk₄, n₄, i + 1, ys, oC₂, _, rfl, F₄, N₄, T.stab _ _ _ hS₂ fun p hp _ => sub p hp, hI₄, fun p hp => sub p (h0₂ p hp), sub _ hC₂, hoC₂, sub _ hD₂, hlt, Nat.le_succ_of_le hyl, rfl⟩
    | true =>
      refine wpAny_mono h₃ (fun y s₄ h₄ => ?_) fun _ _ e => e.elim
      obtain ⟨h₄, tk₄, n₄, rfl, F₄, N₄, sub, hI₄⟩ := h₄
      have hD₄ := sub _ hD₂
      refine append_at (hsz := by show ys.toArray.size ≤ sizeLine; rw [List.size_toArray]; omega) (N₄ _ hD₄).1 fun h₅ hs₅ hD₅ => ?_
      rw [lst_snoc] at hD₅
      obtain ⟨F₅, N₅⟩ := led_set F₄ N₄ hD₄ hs₅ hD₅
      have up₅ : ∀ p ∈ n₄, p.1 ≠ D → p ∈ (D, lst (ys ++ [y])) :: n₄.filter (fun p => p.1 != D) := fun p hp hne => .tail _ (List.mem_filter.mpr ⟨hp, by simpa using hne⟩)
      exact ⟨n + 1 - (i + 1), by omega, h₅, tk₄, _, i + 1, ys ++ [y], oC₂, _, rfl, F₅, N₅, T.stab _ _ _ (T.stab _ _ _ hS₂ fun p hp _ => sub p hp) fun p hp hs => up₅ p hp fun e => hsrc.2 (e ▸ hs),
        stable _ _ _ _ hI₄ fun p hp _ _ hd => up₅ p hp hd, fun p hp => up₅ p (sub p (h0₂ p hp)) (hold p hp).2.1, up₅ _ (sub _ hC₂) hCD, hoC₂, .head _, hlt, by simp; exact hyl, rfl⟩
  · have hin : i = n := by omega
    subst hin
    refine T.done { s with heap := h', toks := tk } _ h₀ L m ny _ hS' F' N' fun h₁ tk₁ nz F₁ N₁ hK hA => ?_
    exact done ys nz oC m₂ h₁ tk₁ (stable _ _ _ _ hI' fun p hp hk _ _ => hK p hp hk) (fun p hp => hA p (h0' p hp) (by simpa using (hold p hp).2.2)) (hA _ hCm' (by simpa using hCI)) hCo' (hA _ hDm' (by simpa using hDI)) F₁ N₁

/-- a comprehension of one clause, from its iterator on -/
theorem comp_block {x : Str} {px : Pos} {elt iter : Expr} {ifs : List Expr} {scope : Scope} {cl : List (Str × Addr)} {pos : Pos} {I : Addr} {n : Nat} {icl : List Value} {P : Nat → Value → Prop} {SI : Nat → Led → Prop} {src : List Addr} {RR : Value → Addr → Result → Shared → Prop} {nx₀ nx : Led}
    (T : IterS w A I n icl P SI src) (Inv : Addr → Addr → Nat → List Value → Led → Prop)
    (stable : ∀ C D i ys nx ny, Inv C D i ys nx → (∀ p ∈ nx, Kept icl p.2 → p.1 ≠ C → p.1 ≠ D → p ∈ ny) → Inv C D i ys ny)
    (hcell : ∀ y ∈ scope.names, y.2 ≠ .cell) (hsz : n ≤ sizeLine) (hkind : scope.kind = .function) (hx : scope.names.lookup x = some .local) (hIs : I ∈ src)
    (F : Fr h₀ L s.heap m) (N : News h₀ L s.heap nx) (hSI : SI 0 nx) (h0 : ∀ p ∈ nx₀, p ∈ nx ∧ p.1 ≠ I)
    (start : ∀ C D ny, (∀ p ∈ nx, p ∈ ny) → (∀ p ∈ nx, p.1 ≠ C ∧ p.1 ≠ D) → Inv C D 0 [] ny)
    (turn : ∀ C D i v ys nx oC m₂ h tk, (∀ p ∈ nx₀, p.1 ≠ C ∧ p.1 ≠ D) → i < n → ys.length ≤ i → P i v → Inv C D i ys nx → (∀ p ∈ nx₀, p ∈ nx) → (C, oC) ∈ nx → NsObj oC m₂ → m₂ x = some v → (D, lst ys) ∈ nx → Fr h₀ L h m → News h₀ L h nx →
      wpAny (model PG w) A (testsOf (compEnvC scope cl C env) ifs) (fun ok s₂ => if ok = true then wpAny (model PG w) A (eval elt (compEnvC scope cl C env)) (fun y s₃ => CEnd h₀ L m { s with heap := h, toks := tk } nx (Inv C D (i + 1) (ys ++ [y])) s₃) noE s₂
        else CEnd h₀ L m { s with heap := h, toks := tk } nx (Inv C D (i + 1) ys) s₂) noE { s with heap := h, toks := tk })
    (done : ∀ C D ys nx oC m₂ h tk, C ≠ D → (∀ p ∈ nx₀, p.1 ≠ C ∧ p.1 ≠ D) → Inv C D n ys nx → (∀ p ∈ nx₀, p ∈ nx) → (C, oC) ∈ nx → NsObj oC m₂ → (D, lst ys) ∈ nx → Fr h₀ L h m → News h₀ L h nx → RR (.ref D) C (.ok .next) { s with heap := h, toks := tk }) :
    wpAny (model PG w) A (newList []) (fun acc s₃ => wpAny (model PG w) A (newFunctionEnv scope env.globals cl [] env.qual none .none (some env)) (fun cenv s₄ =>
      codeAny (model PG w) A (.compStart (.ListComp elt [⟨.Name x px, iter, ifs, 0⟩] scope pos) 0 (.ref I) acc { cenv with scope := relabel scope env }) (RR acc cenv.locals) s₄) E s₃) E s := by
  refine wpAny_newObj_type (wpAny_newFunctionEnv hcell (by intro y hy; simp at hy) (fun h₁ hns₁ hsb₁ => ?_) hkind)
  dsimp only at hns₁ hsb₁ ⊢
  have FD : Fr h₀ L (s.heap.push (lst [])) m := F.push _
  have ND : News h₀ L (s.heap.push (lst [])) ((s.heap.objs.size, lst []) :: nx) := N.push F _ rfl
  have hH : s.heap.push { cls := .type "list", dict := none, data := .seq ([] : List Value).toArray } = s.heap.push (lst []) := rfl
  rw [hH] at hns₁ hsb₁ ⊢
  have hC : (s.heap.push (lst [])).objs.size = s.heap.objs.size + 1 := Heap.size_push ..
  have hCL : (s.heap.push (lst [])).objs.size ≠ L := by rw [hC]; exact Nat.ne_of_gt (Nat.lt_succ_of_lt F.ns.lt)
  have hDL : s.heap.objs.size ≠ L := Nat.ne_of_gt F.ns.lt
  have hCD : (s.heap.push (lst [])).objs.size ≠ s.heap.objs.size := by rw [hC]; exact Nat.succ_ne_self _
  have lt : ∀ p ∈ nx, p.1 < s.heap.objs.size := fun p hp => Heap.lt_size (N p hp).1
  have off : ∀ p ∈ nx, p.1 ≠ (s.heap.push (lst [])).objs.size ∧ p.1 ≠ s.heap.objs.size := fun p hp => ⟨by rw [hC]; exact Nat.ne_of_lt (Nat.lt_succ_of_lt (lt p hp)), Nat.ne_of_lt (lt p hp)⟩
  have hC₀ : h₀.get? (s.heap.push (lst [])).objs.size = none := by
    cases q : h₀.get? (s.heap.push (lst [])).objs.size with
    | none => rfl
    | some o => exact absurd (Heap.lt_size (FD.keep _ _ q)) (Nat.lt_irrefl _)
  obtain ⟨oC, heC, hoC⟩ := ns_obj hns₁
  have old : ∀ b o, (s.heap.push (lst [])).get? b = some o → h₁.get? b = some o := fun b o e => hsb₁.extBut b o (Nat.ne_of_lt (Heap.lt_size e)) (Heap.get?_push_of_some _ e)
  have F₁ : Fr h₀ L h₁ m := FD.keeps old
  have N₁ : News h₀ L h₁ (((s.heap.push (lst [])).objs.size, oC) :: (s.heap.objs.size, lst []) :: nx) := fun p hp => by
    rcases List.mem_cons.mp hp with rfl | hp
    · exact ⟨heC, hCL, hC₀⟩
    · exact ⟨old _ _ (ND p hp).1, (ND p hp).2⟩
  have hS₁ : SI 0 (((s.heap.push (lst [])).objs.size, oC) :: (s.heap.objs.size, lst []) :: nx) := T.stab _ _ _ hSI fun p hp _ => .tail _ (.tail _ hp)
  have hsrc : ∀ a ∈ src, a < s.heap.objs.size := fun a ha => by
    obtain ⟨o, ho⟩ := T.mem _ _ hSI a ha
    exact lt _ ho
  have hI := hsrc I hIs
  have loop : ∀ s₃ : Shared, s₃ = { s with heap := h₁, toks := s.toks + ([] : List (Str × Value)).length } →
      codeAny (model PG w) A (.compLoop (.ListComp elt [⟨.Name x px, iter, ifs, 0⟩] scope pos) 0 (.ref I) (.ref s.heap.objs.size) (compEnvC scope cl (s.heap.push (lst [])).objs.size env))
        (RR (.ref s.heap.objs.size) (s.heap.push (lst [])).objs.size) s₃ := by
    rintro s₃ rfl
    refine comp_loop (s := { s with heap := h₁, toks := _ }) (nx₀ := nx₀) T (Inv _ _) (stable _ _) hsz hkind hx hCL hCD hDL ⟨fun h => ?_, fun h => ?_⟩ (fun p hp => ⟨(off p (h0 p hp).1).1, (off p (h0 p hp).1).2, (h0 p hp).2⟩)
      (fun i v ys nx oC m₂ h tk a b c d e f g k l o q => turn _ _ i v ys nx oC m₂ h tk (fun p hp => off p (h0 p hp).1) a b c d e f g k l o q)
      (fun ys nx oC m₂ h tk a b c d e f g => done _ _ ys nx oC m₂ h tk hCD (fun p hp => off p (h0 p hp).1) a b c d e f g)
      F₁ N₁ hS₁ (start _ _ _ (fun p hp => .tail _ (.tail _ hp)) off) (fun p hp => .tail _ (.tail _ (h0 p hp).1)) (.head _) hoC (.tail _ (.head _)) ?_ ?_
    · have := hsrc _ h; rw [hC] at this; exact absurd this (Nat.not_lt.mpr (Nat.le_succ _))
    · exact absurd (hsrc _ h) (Nat.lt_irrefl _)
    · rw [hC]; exact Nat.ne_of_gt (Nat.lt_succ_of_lt hI)
    · exact Nat.ne_of_gt hI
  exact codeAny_compStart_list (loop _ rfl) (T.self 0 _ _ _ h₀ L _ hS₁ N₁ (loop _ rfl))
end
end Mine
end
section
open PySem PySem.W PyProof.Rows PyProof.Rows.LCg
set_option maxRecDepth 100000
namespace Mine
section
variable {w : World} {A : Around} {s : Shared} {env : Env} {h₀ : Heap} {L : Addr} {m : Str → Option Value} {E : Value → Shared → Prop}
/-- what is to be shown when a comprehension has its iterator -/
noncomputable def CompAt (w : World) (A : Around) (E : Value → Shared → Prop) (env : Env) (elt : Expr) (x : Str) (px : Pos) (iter : Expr) (ifs : List Expr) (scope : Scope) (pos : Pos) (cl : List (Str × Addr)) (RR : Value → Addr → Result → Shared → Prop) (it : Value) (s₂ : Shared) : Prop :=
  wpAny (model PG w) A (newList []) (fun acc s₃ => wpAny (model PG w) A (newFunctionEnv scope env.globals cl [] env.qual none .none (some env)) (fun cenv s₄ =>
      codeAny (model PG w) A (.compStart (.ListComp elt [⟨.Name x px, iter, ifs, 0⟩] scope pos) 0 it acc { cenv with scope := relabel scope env }) (RR acc cenv.locals) s₄) E s₃) E s₂
theorem evalComp {elt iter : Expr} {x : Str} {px : Pos} {ifs : List Expr} {scope : Scope} {cl : List (Str × Addr)} {pos : Pos} {Q : Value → Shared → Prop}
    (hclos : closureFor scope env = pure cl) (hkind : scope.kind = .function) (hnames : ∀ y ∈ scope.names, y.2 = .local → scope.names.lookup y.1 = some .local)
    (h : wpAny (model PG w) A (eval iter env) (fun xv s₁ => wpAny (model PG w) A (pyIter xv) (fun it s₂ => CompAt w A E env elt x px iter ifs scope pos cl (compPost (model PG w) A E none Q) it s₂) E s₁) E s)
    (hs : ∀ x, foldedSetIterable iter env x = pure x := by intro _; rfl) :
    wpAny (model PG w) A (eval (.ListComp elt [⟨.Name x px, iter, ifs, 0⟩] scope pos) env) Q E s := by
  rw [eval_ListComp]
  exact wpAny_comprehension_free (use := none) rfl hs hclos hkind hnames h
theorem assignComp {elt iter : Expr} {x y : Str} {px py : Pos} {ifs : List Expr} {scope : Scope} {cl : List (Str × Addr)} {pos spos : Pos} {Q : Flow → Shared → Prop}
    (hsw : swapsWith (.ListComp elt [⟨.Name x px, iter, ifs, 0⟩] scope pos) (some (.Name y py)) spos.line env = pure true)
    (hclos : closureFor scope env = pure cl) (hkind : scope.kind = .function) (hnames : ∀ y ∈ scope.names, y.2 = .local → scope.names.lookup y.1 = some .local)
    (h : wpAny (model PG w) A (eval iter env) (fun xv s₁ => wpAny (model PG w) A (pyIter xv) (fun it s₂ => CompAt w A E env elt x px iter ifs scope pos cl (compPost (model PG w) A E (some (assign (.Name y py) env)) (fun _ s' => Q .next s')) it s₂) E s₁) E s)
    (hs : ∀ x, foldedSetIterable iter env x = pure x := by intro _; rfl) :
    wpAny (model PG w) A (exec (.Assign [.Name y py] (.ListComp elt [⟨.Name x px, iter, ifs, 0⟩] scope pos) spos) env) Q E s := by
  rw [exec_Assign_Name_used _ _ _ _ hsw]
  refine wpAny_bind (wpAny_standAt (wpAny_bind ?_))
  show wpAny _ A (do let _ ← comprehension (.ListComp elt [⟨.Name x px, iter, ifs, 0⟩] scope pos) scope env _ (newList []) false (eval iter env) (some (assign (.Name y py) env))) _ _ s
  exact wpAny_bind (wpAny_mono (wpAny_comprehension_free (use := some (assign (.Name y py) env)) (Q := fun _ s' => Q .next s') rfl hs hclos hkind hnames h) (fun _ s' hq => wpAny_pure (wpAny_pure hq)) fun _ _ e => e)
theorem led_drop {h h' : Heap} {C : Addr} {oC : Obj} {nx : Led} (F : Fr h₀ L h m) (N : News h₀ L h nx) (hC : (C, oC) ∈ nx) (hs : Heap.SameBut C h h') : Fr h₀ L h' m ∧ News h₀ L h' (nx.filter (fun p => p.1 != C)) := led_ext F N hC hs.extBut
theorem mem_drop {C : Addr} {nx : Led} {p : Addr × Obj} (hp : p ∈ nx) (hne : p.1 ≠ C) : p ∈ nx.filter (fun p => p.1 != C) := List.mem_filter.mpr ⟨hp, by simpa using hne⟩
theorem post_none {Q : Value → Shared → Prop} {C D : Addr} {nx : Led} {oC : Obj} {m₂ : Str → Option Value} {h : Heap} {tk : Nat} (hC : (C, oC) ∈ nx) (hCo : NsObj oC m₂) (F : Fr h₀ L h m) (N : News h₀ L h nx)
    (fin : ∀ h' ny, Fr h₀ L h' m → News h₀ L h' ny → (∀ p ∈ nx, p.1 ≠ C → p ∈ ny) → Q (.ref D) { s with heap := h', toks := tk }) :
    compPost (model PG w) A E none Q (.ref D) C (.ok .next) { s with heap := h, toks := tk } := by
  refine ⟨m₂, hCo.ns (N _ hC).1, fun h' hs => ?_⟩
  obtain ⟨F', N'⟩ := led_drop F N hC hs
  exact fin h' _ F' N' fun p hp hne => mem_drop hp hne
theorem post_assign {y : Str} {py : Pos} {Q : Value → Shared → Prop} {C D : Addr} {nx : Led} {oC : Obj} {m₂ : Str → Option Value} {h : Heap} {tk : Nat} (hL : env.locals = L) (hy : env.kindOf y = some .local) (hp : (env.scope.kind == .class || (env.scope.kind == .module && env.locals != env.globals)) = false)
    (hC : (C, oC) ∈ nx) (hCo : NsObj oC m₂) (F : Fr h₀ L h m) (N : News h₀ L h nx)
    (fin : ∀ h' ny tk, Fr h₀ L h' (fun z => if z = y then some (.ref D) else m z) → News h₀ L h' ny → (∀ p ∈ nx, p.1 ≠ C → p ∈ ny) → Q .none { s with heap := h', toks := tk }) :
    compPost (model PG w) A E (some (assign (.Name y py) env)) Q (.ref D) C (.ok .next) { s with heap := h, toks := tk } := by
  subst hL
  show wpAny _ A (assign (.Name y py) env (.ref D)) _ _ _
  refine wpAny_assign_Name (wpAny_storeName_local hy F.ns (fun h₂ hn₂ hs₂ => ?_) hp)
  have F₂ := F.set hn₂ hs₂
  have N₂ := N.set hs₂
  refine ⟨m₂, hCo.ns (N₂ _ hC).1, fun h' hs => ?_⟩
  obtain ⟨F', N'⟩ := led_drop F₂ N₂ hC hs
  exact fin h' _ _ F' N' fun p hp hne => mem_drop hp hne
theorem comp_range_none {elt iter : Expr} {x : Str} {px : Pos} {ifs : List Expr} {scope : Scope} {cl : List (Str × Addr)} {pos : Pos} {nx : Led} {r : Addr} {a b : Int} {t₀ u₀ v₀ : Tok} {n : Nat} {Q : Value → Shared → Prop}
    (Inv : Addr → Addr → Nat → List Value → Led → Prop)
    (hcell : ∀ y ∈ scope.names, y.2 ≠ .cell) (hsz : n ≤ sizeLine) (hkind : scope.kind = .function) (hx : scope.names.lookup x = some .local) (hh : A.handled = none)
    (stable : ∀ C D i ys nx ny, Inv C D i ys nx → (∀ p ∈ nx, Kept [.type "range_iterator"] p.2 → p.1 ≠ C → p.1 ≠ D → p ∈ ny) → Inv C D i ys ny)
    (F : Fr h₀ L s.heap m) (N : News h₀ L s.heap nx) (hr : IsRange s.heap r a b 1 t₀ u₀ v₀) (hsmall : Builtin.Range.small a b 1 = true) (hn : Builtin.Range.rangeSize a b 1 = (n : Int))
    (start : ∀ C D ny, (∀ p ∈ nx, p ∈ ny) → (∀ p ∈ nx, p.1 ≠ C ∧ p.1 ≠ D) → Inv C D 0 [] ny)
    (turn : ∀ C D i t ys ny oC m₂ h tk, (∀ p ∈ nx, p.1 ≠ C ∧ p.1 ≠ D) → i < n → ys.length ≤ i → Inv C D i ys ny → (∀ p ∈ nx, p ∈ ny) → (C, oC) ∈ ny → NsObj oC m₂ → m₂ x = some (.int (a + (i : Nat)) t) → (D, lst ys) ∈ ny → Fr h₀ L h m → News h₀ L h ny →
      wpAny (model PG w) A (testsOf (compEnvC scope cl C env) ifs) (fun ok s₂ => if ok = true then wpAny (model PG w) A (eval elt (compEnvC scope cl C env)) (fun y s₃ => CEnd h₀ L m { s with heap := h, toks := tk } ny (Inv C D (i + 1) (ys ++ [y])) s₃) noE s₂
        else CEnd h₀ L m { s with heap := h, toks := tk } ny (Inv C D (i + 1) ys) s₂) noE { s with heap := h, toks := tk })
    (fin : ∀ C D ys h tk ny, C ≠ D → (∀ p ∈ nx, p.1 ≠ C ∧ p.1 ≠ D) → Inv C D n ys ny → (∀ p ∈ nx, p ∈ ny) → (D, lst ys) ∈ ny → Fr h₀ L h m → News h₀ L h ny → Q (.ref D) { s with heap := h, toks := tk }) :
    wpAny (model PG w) A (pyIter (.ref r)) (fun it s₂ => CompAt w A E env elt x px iter ifs scope pos cl (compPost (model PG w) A E none Q) it s₂) E s := by
  refine wpAny_pyIter_range hr hsmall ?_
  rw [hn]
  obtain ⟨F', N'⟩ := push_new (o := { cls := .type "range_iterator", data := .fields #[rawInt a, rawInt (n : Int), rawInt 1] }) F N rfl
  have hS : SIRange s.heap.objs.size a n 0 ((s.heap.objs.size, { cls := .type "range_iterator", data := .fields #[rawInt a, rawInt (n : Int), rawInt 1] }) :: nx) := by
    unfold SIRange
    have e1 : a + ((0 : Nat) : Int) = a := by simp
    have e2 : (n : Int) - ((0 : Nat) : Int) = n := by simp
    rw [e1, e2]
    exact .head _
  unfold CompAt
  refine comp_block (s := { s with heap := _ }) (nx₀ := nx) (iterS_range (a := a) (n := n) hh) Inv stable hcell hsz hkind hx (by simp) F' N' hS (fun p hp => ⟨.tail _ hp, Nat.ne_of_lt (Heap.lt_size (N p hp).1)⟩)
    (fun C D ny h1 h2 => start C D ny (fun p hp => h1 p (.tail _ hp)) fun p hp => h2 p (.tail _ hp))
    (fun C D i v ys ny oC m₂ h tk a b c hP d e f g hv k l o => by
      obtain ⟨t, rfl⟩ := hP
      exact turn C D i t ys ny oC m₂ h tk a b c d e f g hv k l o) ?_
  intro C D ys ny oC m₂ h tk hCD off hI sub hC hCo hD F₁ N₁
  exact post_none (s := { s with heap := _ }) hC hCo F₁ N₁ fun h' nz F₂ N₂ k => fin C D ys h' tk nz hCD off (stable _ _ _ _ _ _ hI fun p hp _ hc _ => k p hp hc) (fun p hp => k p (sub p hp) (off p hp).1) (k _ hD (Ne.symm hCD)) F₂ N₂
theorem comp_range_assign {y : Str} {py : Pos} {elt iter : Expr} {x : Str} {px : Pos} {ifs : List Expr} {scope : Scope} {cl : List (Str × Addr)} {pos : Pos} {nx : Led} {r : Addr} {a b : Int} {t₀ u₀ v₀ : Tok} {n : Nat} {Q : Value → Shared → Prop}
    (Inv : Addr → Addr → Nat → List Value → Led → Prop)
    (hcell : ∀ y ∈ scope.names, y.2 ≠ .cell) (hsz : n ≤ sizeLine) (hkind : scope.kind = .function) (hx : scope.names.lookup x = some .local) (hh : A.handled = none)
    (stable : ∀ C D i ys nx ny, Inv C D i ys nx → (∀ p ∈ nx, Kept [.type "range_iterator"] p.2 → p.1 ≠ C → p.1 ≠ D → p ∈ ny) → Inv C D i ys ny)
    (F : Fr h₀ L s.heap m) (N : News h₀ L s.heap nx) (hr : IsRange s.heap r a b 1 t₀ u₀ v₀) (hsmall : Builtin.Range.small a b 1 = true) (hn : Builtin.Range.rangeSize a b 1 = (n : Int))
    (start : ∀ C D ny, (∀ p ∈ nx, p ∈ ny) → (∀ p ∈ nx, p.1 ≠ C ∧ p.1 ≠ D) → Inv C D 0 [] ny)
    (turn : ∀ C D i t ys ny oC m₂ h tk, (∀ p ∈ nx, p.1 ≠ C ∧ p.1 ≠ D) → i < n → ys.length ≤ i → Inv C D i ys ny → (∀ p ∈ nx, p ∈ ny) → (C, oC) ∈ ny → NsObj oC m₂ → m₂ x = some (.int (a + (i : Nat)) t) → (D, lst ys) ∈ ny → Fr h₀ L h m → News h₀ L h ny →
      wpAny (model PG w) A (testsOf (compEnvC scope cl C env) ifs) (fun ok s₂ => if ok = true then wpAny (model PG w) A (eval elt (compEnvC scope cl C env)) (fun y s₃ => CEnd h₀ L m { s with heap := h, toks := tk } ny (Inv C D (i + 1) (ys ++ [y])) s₃) noE s₂
        else CEnd h₀ L m { s with heap := h, toks := tk } ny (Inv C D (i + 1) ys) s₂) noE { s with heap := h, toks := tk })
    (hL : env.locals = L) (hy : env.kindOf y = some .local) (hp : (env.scope.kind == .class || (env.scope.kind == .module && env.locals != env.globals)) = false)
    (fin : ∀ C D ys h tk ny, C ≠ D → (∀ p ∈ nx, p.1 ≠ C ∧ p.1 ≠ D) → Inv C D n ys ny → (∀ p ∈ nx, p ∈ ny) → (D, lst ys) ∈ ny → Fr h₀ L h (fun z => if z = y then some (.ref D) else m z) → News h₀ L h ny → Q .none { s with heap := h, toks := tk }) :
    wpAny (model PG w) A (pyIter (.ref r)) (fun it s₂ => CompAt w A E env elt x px iter ifs scope pos cl (compPost (model PG w) A E (some (assign (.Name y py) env)) Q) it s₂) E s := by
  refine wpAny_pyIter_range hr hsmall ?_
  rw [hn]
  obtain ⟨F', N'⟩ := push_new (o := { cls := .type "range_iterator", data := .fields #[rawInt a, rawInt (n : Int), rawInt 1] }) F N rfl
  have hS : SIRange s.heap.objs.size a n 0 ((s.heap.objs.size, { cls := .type "range_iterator", data := .fields #[rawInt a, rawInt (n : Int), rawInt 1] }) :: nx) := by
    unfold SIRange
    have e1 : a + ((0 : Nat) : Int) = a := by simp
    have e2 : (n : Int) - ((0 : Nat) : Int) = n := by simp
    rw [e1, e2]
    exact .head _
  unfold CompAt
  refine comp_block (s := { s with heap := _ }) (nx₀ := nx) (iterS_range (a := a) (n := n) hh) Inv stable hcell hsz hkind hx (by simp) F' N' hS (fun p hp => ⟨.tail _ hp, Nat.ne_of_lt (Heap.lt_size (N p hp).1)⟩)
    (fun C D ny h1 h2 => start C D ny (fun p hp => h1 p (.tail _ hp)) fun p hp => h2 p (.tail _ hp))
    (fun C D i v ys ny oC m₂ h tk a b c hP d e f g hv k l o => by
      obtain ⟨t, rfl⟩ := hP
      exact turn C D i t ys ny oC m₂ h tk a b c d e f g hv k l o) ?_
  intro C D ys ny oC m₂ h tk hCD off hI sub hC hCo hD F₁ N₁
  exact post_assign (s := { s with heap := _ }) hL hy hp hC hCo F₁ N₁ fun h' nz tk F₂ N₂ k => fin C D ys h' tk nz hCD off (stable _ _ _ _ _ _ hI fun p hp _ hc _ => k p hp hc) (fun p hp => k p (sub p hp) (off p hp).1) (k _ hD (Ne.symm hCD)) F₂ N₂
theorem comp_tup_none {elt iter : Expr} {x : Str} {px : Pos} {ifs : List Expr} {scope : Scope} {cl : List (Str × Addr)} {pos : Pos} {nx : Led} {l : Addr} {vs : List Value} {nn : Nat} {Q : Value → Shared → Prop}
    (Inv : Addr → Addr → Nat → List Value → Led → Prop)
    (hcell : ∀ y ∈ scope.names, y.2 ≠ .cell) (hsz : vs.length ≤ sizeLine) (hkind : scope.kind = .function) (hx : scope.names.lookup x = some .local) (hh : A.handled = none)
    (stable : ∀ C D i ys nx ny, Inv C D i ys nx → (∀ p ∈ nx, Kept [.type "tuple_iterator"] p.2 → p.1 ≠ C → p.1 ≠ D → p ∈ ny) → Inv C D i ys ny)
    (F : Fr h₀ L s.heap m) (N : News h₀ L s.heap nx) (hm : (l, tupO vs nn) ∈ nx)
    (start : ∀ C D ny, (∀ p ∈ nx, p ∈ ny) → (∀ p ∈ nx, p.1 ≠ C ∧ p.1 ≠ D) → Inv C D 0 [] ny)
    (turn : ∀ C D i v ys ny oC m₂ h tk, (∀ p ∈ nx, p.1 ≠ C ∧ p.1 ≠ D) → vs[i]? = some v → ys.length ≤ i → Inv C D i ys ny → (∀ p ∈ nx, p ∈ ny) → (C, oC) ∈ ny → NsObj oC m₂ → m₂ x = some v → (D, lst ys) ∈ ny → Fr h₀ L h m → News h₀ L h ny →
      wpAny (model PG w) A (testsOf (compEnvC scope cl C env) ifs) (fun ok s₂ => if ok = true then wpAny (model PG w) A (eval elt (compEnvC scope cl C env)) (fun y s₃ => CEnd h₀ L m { s with heap := h, toks := tk } ny (Inv C D (i + 1) (ys ++ [y])) s₃) noE s₂
        else CEnd h₀ L m { s with heap := h, toks := tk } ny (Inv C D (i + 1) ys) s₂) noE { s with heap := h, toks := tk })
    (fin : ∀ C D ys h tk ny, C ≠ D → (∀ p ∈ nx, p.1 ≠ C ∧ p.1 ≠ D) → Inv C D vs.length ys ny → (∀ p ∈ nx, p ∈ ny) → (D, lst ys) ∈ ny → Fr h₀ L h m → News h₀ L h ny → Q (.ref D) { s with heap := h, toks := tk }) :
    wpAny (model PG w) A (pyIter (.ref l)) (fun it s₂ => CompAt w A E env elt x px iter ifs scope pos cl (compPost (model PG w) A E none Q) it s₂) E s := by
  refine wpAny_pyIter_tuple ⟨_, (N _ hm).1, rfl, nn, rfl⟩ ?_
  obtain ⟨F', N'⟩ := push_new (o := { cls := .type "tuple_iterator", data := .fields #[.ref l, .int 0 0] }) F N rfl
  unfold CompAt
  refine comp_block (s := { s with heap := _ }) (nx₀ := nx) (iterS_tup (l := l) (vs := vs) (nn := nn) hh) Inv stable hcell hsz hkind hx (by simp) F' N' ⟨⟨_, .head _, rfl, rfl⟩, .tail _ hm⟩ (fun p hp => ⟨.tail _ hp, Nat.ne_of_lt (Heap.lt_size (N p hp).1)⟩)
    (fun C D ny h1 h2 => start C D ny (fun p hp => h1 p (.tail _ hp)) fun p hp => h2 p (.tail _ hp))
    (fun C D i v ys ny oC m₂ h tk a b c hP d e f g hv k l o => turn C D i v ys ny oC m₂ h tk a hP c d e f g hv k l o) ?_
  intro C D ys ny oC m₂ h tk hCD off hI sub hC hCo hD F₁ N₁
  exact post_none (s := { s with heap := _ }) hC hCo F₁ N₁ fun h' nz F₂ N₂ k => fin C D ys h' tk nz hCD off (stable _ _ _ _ _ _ hI fun p hp _ hc _ => k p hp hc) (fun p hp => k p (sub p hp) (off p hp).1) (k _ hD (Ne.symm hCD)) F₂ N₂
theorem comp_tup_assign {y : Str} {py : Pos} {elt iter : Expr} {x : Str} {px : Pos} {ifs : List Expr} {scope : Scope} {cl : List (Str × Addr)} {pos : Pos} {nx : Led} {l : Addr} {vs : List Value} {nn : Nat} {Q : Value → Shared → Prop}
    (Inv : Addr → Addr → Nat → List Value → Led → Prop)
    (hcell : ∀ y ∈ scope.names, y.2 ≠ .cell) (hsz : vs.length ≤ sizeLine) (hkind : scope.kind = .function) (hx : scope.names.lookup x = some .local) (hh : A.handled = none)
    (stable : ∀ C D i ys nx ny, Inv C D i ys nx → (∀ p ∈ nx, Kept [.type "tuple_iterator"] p.2 → p.1 ≠ C → p.1 ≠ D → p ∈ ny) → Inv C D i ys ny)
    (F : Fr h₀ L s.heap m) (N : News h₀ L s.heap nx) (hm : (l, tupO vs nn) ∈ nx)
    (start : ∀ C D ny, (∀ p ∈ nx, p ∈ ny) → (∀ p ∈ nx, p.1 ≠ C ∧ p.1 ≠ D) → Inv C D 0 [] ny)
    (turn : ∀ C D i v ys ny oC m₂ h tk, (∀ p ∈ nx, p.1 ≠ C ∧ p.1 ≠ D) → vs[i]? = some v → ys.length ≤ i → Inv C D i ys ny → (∀ p ∈ nx, p ∈ ny) → (C, oC) ∈ ny → NsObj oC m₂ → m₂ x = some v → (D, lst ys) ∈ ny → Fr h₀ L h m → News h₀ L h ny →
      wpAny (model PG w) A (testsOf (compEnvC scope cl C env) ifs) (fun ok s₂ => if ok = true then wpAny (model PG w) A (eval elt (compEnvC scope cl C env)) (fun y s₃ => CEnd h₀ L m { s with heap := h, toks := tk } ny (Inv C D (i + 1) (ys ++ [y])) s₃) noE s₂
        else CEnd h₀ L m { s with heap := h, toks := tk } ny (Inv C D (i + 1) ys) s₂) noE { s with heap := h, toks := tk })
    (hL : env.locals = L) (hy : env.kindOf y = some .local) (hp : (env.scope.kind == .class || (env.scope.kind == .module && env.locals != env.globals)) = false)
    (fin : ∀ C D ys h tk ny, C ≠ D → (∀ p ∈ nx, p.1 ≠ C ∧ p.1 ≠ D) → Inv C D vs.length ys ny → (∀ p ∈ nx, p ∈ ny) → (D, lst ys) ∈ ny → Fr h₀ L h (fun z => if z = y then some (.ref D) else m z) → News h₀ L h ny → Q .none { s with heap := h, toks := tk }) :
    wpAny (model PG w) A (pyIter (.ref l)) (fun it s₂ => CompAt w A E env elt x px iter ifs scope pos cl (compPost (model PG w) A E (some (assign (.Name y py) env)) Q) it s₂) E s := by
  refine wpAny_pyIter_tuple ⟨_, (N _ hm).1, rfl, nn, rfl⟩ ?_
  obtain ⟨F', N'⟩ := push_new (o := { cls := .type "tuple_iterator", data := .fields #[.ref l, .int 0 0] }) F N rfl
  unfold CompAt
  refine comp_block (s := { s with heap := _ }) (nx₀ := nx) (iterS_tup (l := l) (vs := vs) (nn := nn) hh) Inv stable hcell hsz hkind hx (by simp) F' N' ⟨⟨_, .head _, rfl, rfl⟩, .tail _ hm⟩ (fun p hp => ⟨.tail _ hp, Nat.ne_of_lt (Heap.lt_size (N p hp).1)⟩)
    (fun C D ny h1 h2 => start C D ny (fun p hp => h1 p (.tail _ hp)) fun p hp => h2 p (.tail _ hp))
    (fun C D i v ys ny oC m₂ h tk a b c hP d e f g hv k l o => turn C D i v ys ny oC m₂ h tk a hP c d e f g hv k l o) ?_
  intro C D ys ny oC m₂ h tk hCD off hI sub hC hCo hD F₁ N₁
  exact post_assign (s := { s with heap := _ }) hL hy hp hC hCo F₁ N₁ fun h' nz tk F₂ N₂ k => fin C D ys h' tk nz hCD off (stable _ _ _ _ _ _ hI fun p hp _ hc _ => k p hp hc) (fun p hp => k p (sub p hp) (off p hp).1) (k _ hD (Ne.symm hCD)) F₂ N₂
theorem comp_list_none {elt iter : Expr} {x : Str} {px : Pos} {ifs : List Expr} {scope : Scope} {cl : List (Str × Addr)} {pos : Pos} {nx : Led} {l : Addr} {vs : List Value} {nn : Nat} {Q : Value → Shared → Prop}
    (Inv : Addr → Addr → Nat → List Value → Led → Prop)
    (hcell : ∀ y ∈ scope.names, y.2 ≠ .cell) (hsz : vs.length ≤ sizeLine) (hkind : scope.kind = .function) (hx : scope.names.lookup x = some .local) (hh : A.handled = none)
    (stable : ∀ C D i ys nx ny, Inv C D i ys nx → (∀ p ∈ nx, Kept [.type "list_iterator"] p.2 → p.1 ≠ C → p.1 ≠ D → p ∈ ny) → Inv C D i ys ny)
    (F : Fr h₀ L s.heap m) (N : News h₀ L s.heap nx) (hm : (l, listOf vs.toArray nn) ∈ nx)
    (start : ∀ C D ny, (∀ p ∈ nx, p ∈ ny) → (∀ p ∈ nx, p.1 ≠ C ∧ p.1 ≠ D) → Inv C D 0 [] ny)
    (turn : ∀ C D i v ys ny oC m₂ h tk, (∀ p ∈ nx, p.1 ≠ C ∧ p.1 ≠ D) → vs[i]? = some v → ys.length ≤ i → Inv C D i ys ny → (∀ p ∈ nx, p ∈ ny) → (C, oC) ∈ ny → NsObj oC m₂ → m₂ x = some v → (D, lst ys) ∈ ny → Fr h₀ L h m → News h₀ L h ny →
      wpAny (model PG w) A (testsOf (compEnvC scope cl C env) ifs) (fun ok s₂ => if ok = true then wpAny (model PG w) A (eval elt (compEnvC scope cl C env)) (fun y s₃ => CEnd h₀ L m { s with heap := h, toks := tk } ny (Inv C D (i + 1) (ys ++ [y])) s₃) noE s₂
        else CEnd h₀ L m { s with heap := h, toks := tk } ny (Inv C D (i + 1) ys) s₂) noE { s with heap := h, toks := tk })
    (fin : ∀ C D ys h tk ny, C ≠ D → (∀ p ∈ nx, p.1 ≠ C ∧ p.1 ≠ D) → Inv C D vs.length ys ny → (∀ p ∈ nx, p ∈ ny) → (D, lst ys) ∈ ny → Fr h₀ L h m → News h₀ L h ny → Q (.ref D) { s with heap := h, toks := tk }) :
    wpAny (model PG w) A (pyIter (.ref l)) (fun it s₂ => CompAt w A E env elt x px iter ifs scope pos cl (compPost (model PG w) A E none Q) it s₂) E s := by
  refine wpAny_pyIter_list ⟨_, (N _ hm).1, rfl, nn, rfl⟩ ?_
  obtain ⟨F', N'⟩ := push_new (o := { cls := .type "list_iterator", data := .fields #[.ref l, .int 0 0] }) F N rfl
  unfold CompAt
  refine comp_block (s := { s with heap := _ }) (nx₀ := nx) (iterS_list (l := l) (vs := vs) (nn := nn) hh) Inv stable hcell hsz hkind hx (by simp) F' N' ⟨⟨_, .head _, rfl, rfl⟩, .tail _ hm⟩ (fun p hp => ⟨.tail _ hp, Nat.ne_of_lt (Heap.lt_size (N p hp).1)⟩)
    (fun C D ny h1 h2 => start C D ny (fun p hp => h1 p (.tail _ hp)) fun p hp => h2 p (.tail _ hp))
    (fun C D i v ys ny oC m₂ h tk a b c hP d e f g hv k l o => turn C D i v ys ny oC m₂ h tk a hP c d e f g hv k l o) ?_
  intro C D ys ny oC m₂ h tk hCD off hI sub hC hCo hD F₁ N₁
  exact post_none (s := { s with heap := _ }) hC hCo F₁ N₁ fun h' nz F₂ N₂ k => fin C D ys h' tk nz hCD off (stable _ _ _ _ _ _ hI fun p hp _ hc _ => k p hp hc) (fun p hp => k p (sub p hp) (off p hp).1) (k _ hD (Ne.symm hCD)) F₂ N₂
theorem comp_list_assign {y : Str} {py : Pos} {elt iter : Expr} {x : Str} {px : Pos} {ifs : List Expr} {scope : Scope} {cl : List (Str × Addr)} {pos : Pos} {nx : Led} {l : Addr} {vs : List Value} {nn : Nat} {Q : Value → Shared → Prop}
    (Inv : Addr → Addr → Nat → List Value → Led → Prop)
    (hcell : ∀ y ∈ scope.names, y.2 ≠ .cell) (hsz : vs.length ≤ sizeLine) (hkind : scope.kind = .function) (hx : scope.names.lookup x = some .local) (hh : A.handled = none)
    (stable : ∀ C D i ys nx ny, Inv C D i ys nx → (∀ p ∈ nx, Kept [.type "list_iterator"] p.2 → p.1 ≠ C → p.1 ≠ D → p ∈ ny) → Inv C D i ys ny)
    (F : Fr h₀ L s.heap m) (N : News h₀ L s.heap nx) (hm : (l, listOf vs.toArray nn) ∈ nx)
    (start : ∀ C D ny, (∀ p ∈ nx, p ∈ ny) → (∀ p ∈ nx, p.1 ≠ C ∧ p.1 ≠ D) → Inv C D 0 [] ny)
    (turn : ∀ C D i v ys ny oC m₂ h tk, (∀ p ∈ nx, p.1 ≠ C ∧ p.1 ≠ D) → vs[i]? = some v → ys.length ≤ i → Inv C D i ys ny → (∀ p ∈ nx, p ∈ ny) → (C, oC) ∈ ny → NsObj oC m₂ → m₂ x = some v → (D, lst ys) ∈ ny → Fr h₀ L h m → News h₀ L h ny →
      wpAny (model PG w) A (testsOf (compEnvC scope cl C env) ifs) (fun ok s₂ => if ok = true then wpAny (model PG w) A (eval elt (compEnvC scope cl C env)) (fun y s₃ => CEnd h₀ L m { s with heap := h, toks := tk } ny (Inv C D (i + 1) (ys ++ [y])) s₃) noE s₂
        else CEnd h₀ L m { s with heap := h, toks := tk } ny (Inv C D (i + 1) ys) s₂) noE { s with heap := h, toks := tk })
    (hL : env.locals = L) (hy : env.kindOf y = some .local) (hp : (env.scope.kind == .class || (env.scope.kind == .module && env.locals != env.globals)) = false)
    (fin : ∀ C D ys h tk ny, C ≠ D → (∀ p ∈ nx, p.1 ≠ C ∧ p.1 ≠ D) → Inv C D vs.length ys ny → (∀ p ∈ nx, p ∈ ny) → (D, lst ys) ∈ ny → Fr h₀ L h (fun z => if z = y then some (.ref D) else m z) → News h₀ L h ny → Q .none { s with heap := h, toks := tk }) :
    wpAny (model PG w) A (pyIter (.ref l)) (fun it s₂ => CompAt w A E env elt x px iter ifs scope pos cl (compPost (model PG w) A E (some (assign (.Name y py) env)) Q) it s₂) E s := by
  refine wpAny_pyIter_list ⟨_, (N _ hm).1, rfl, nn, rfl⟩ ?_
  obtain ⟨F', N'⟩ := push_new (o := { cls := .type "list_iterator", data := .fields #[.ref l, .int 0 0] }) F N rfl
  unfold CompAt
  refine comp_block (s := { s with heap := _ }) (nx₀ := nx) (iterS_list (l := l) (vs := vs) (nn := nn) hh) Inv stable hcell hsz hkind hx (by simp) F' N' ⟨⟨_, .head _, rfl, rfl⟩, .tail _ hm⟩ (fun p hp => ⟨.tail _ hp, Nat.ne_of_lt (Heap.lt_size (N p hp).1)⟩)
    (fun C D ny h1 h2 => start C D ny (fun p hp => h1 p (.tail _ hp)) fun p hp => h2 p (.tail _ hp))
    (fun C D i v ys ny oC m₂ h tk a b c hP d e f g hv k l o => turn C D i v ys ny oC m₂ h tk a hP c d e f g hv k l o) ?_
  intro C D ys ny oC m₂ h tk hCD off hI sub hC hCo hD F₁ N₁
  exact post_assign (s := { s with heap := _ }) hL hy hp hC hCo F₁ N₁ fun h' nz tk F₂ N₂ k => fin C D ys h' tk nz hCD off (stable _ _ _ _ _ _ hI fun p hp _ hc _ => k p hp hc) (fun p hp => k p (sub p hp) (off p hp).1) (k _ hD (Ne.symm hCD)) F₂ N₂
end
/-- an element of a comprehension that makes nothing that stays -/
noncomputable def ElV (h₀ : Heap) (L : Addr) (m : Str → Option Value) (s : Shared) (ny : Led) (Y : Value → Prop) (y : Value) (s₃ : Shared) : Prop :=
  ∃ h' tk' nz, s₃ = { s with heap := h', toks := tk' } ∧ Fr h₀ L h' m ∧ News h₀ L h' nz ∧ (∀ p ∈ ny, p ∈ nz) ∧ Y y
noncomputable def Pure (Y : Nat → Value → Prop) (_C _D : Addr) (i : Nat) (ys : List Value) (_nx : Led) : Prop := ys.length = i ∧ ∀ (j : Nat) (y : Value), ys[j]? = some y → Y j y
theorem Pure.next {Y : Nat → Value → Prop} {C D : Addr} {i : Nat} {ys : List Value} {nx ny : Led} {y : Value} (h : Pure Y C D i ys nx) (hy : Y i y) : Pure Y C D (i + 1) (ys ++ [y]) ny := by
  refine ⟨by simp [h.1], fun j z hz => ?_⟩
  rcases Nat.lt_trichotomy j ys.length with hj | hj | hj
  · rw [List.getElem?_append_left hj] at hz; exact h.2 j z hz
  · subst hj; simp at hz; subst hz; rw [h.1]; exact hy
  · rw [List.getElem?_eq_none (by simp; omega)] at hz; cases hz
section
variable {w : World} {A : Around} {s : Shared} {env : Env} {h₀ : Heap} {L : Addr} {m : Str → Option Value} {E : Value → Shared → Prop}
theorem comp_range_none_pure {elt iter : Expr} {x : Str} {px : Pos} {scope : Scope} {cl : List (Str × Addr)} {pos : Pos} {nx : Led} {r : Addr} {a b : Int} {t₀ u₀ v₀ : Tok} {n : Nat} {Q : Value → Shared → Prop} (Y : Nat → Value → Prop)
    (hcell : ∀ y ∈ scope.names, y.2 ≠ .cell) (hsz : n ≤ sizeLine) (hkind : scope.kind = .function) (hx : scope.names.lookup x = some .local) (hh : A.handled = none)
    (F : Fr h₀ L s.heap m) (N : News h₀ L s.heap nx) (hr : IsRange s.heap r a b 1 t₀ u₀ v₀) (hsmall : Builtin.Range.small a b 1 = true) (hn : Builtin.Range.rangeSize a b 1 = (n : Int))
    (turn : ∀ C i t ny oC m₂ h tk, i < n → (C, oC) ∈ ny → NsObj oC m₂ → m₂ x = some (.int (a + (i : Nat)) t) → Fr h₀ L h m → News h₀ L h ny → (∀ p ∈ nx, p ∈ ny) →
      wpAny (model PG w) A (eval elt (compEnvC scope cl C env)) (fun y s₃ => ElV h₀ L m { s with heap := h, toks := tk } ny (Y i) y s₃) noE { s with heap := h, toks := tk })
    (fin : ∀ D ys h tk ny, ys.length = n → (∀ (j : Nat) (y : Value), ys[j]? = some y → Y j y) → (D, lst ys) ∈ ny → (∀ p ∈ nx, p ∈ ny ∧ p.1 ≠ D) → Fr h₀ L h m → News h₀ L h ny → Q (.ref D) { s with heap := h, toks := tk }) :
    wpAny (model PG w) A (pyIter (.ref r)) (fun it s₂ => CompAt w A E env elt x px iter [] scope pos cl (compPost (model PG w) A E none Q) it s₂) E s := by
  refine comp_range_none (Pure Y) hcell hsz hkind hx hh (fun _ _ _ _ _ _ h _ => h) F N hr hsmall hn (fun _ _ _ _ _ => ⟨rfl, fun _ _ h => nomatch h⟩) ?_ ?_
  · intro C D i v ys ny oC m₂ h tk off hi hyl hJ sub hC hNs hx hD F1 N1
    refine wpAny_tests_nil ?_
    rw [if_pos rfl]
    refine wpAny_mono (turn C i v ny oC m₂ h tk hi hC hNs hx F1 N1 sub) (fun y s₃ hq => ?_) fun _ _ e => e
    obtain ⟨h', tk', nz, rfl, F2, N2, hz, hY⟩ := hq
    exact ⟨h', tk', nz, rfl, F2, N2, hz, hJ.next hY⟩
  · intro C D ys h2 tk2 ny hCD off hJ sub hD F2 N2
    exact fin D ys h2 tk2 ny hJ.1 hJ.2 hD (fun p hp => ⟨sub p hp, (off p hp).2⟩) F2 N2
theorem comp_range_assign_pure {y : Str} {py : Pos} {elt iter : Expr} {x : Str} {px : Pos} {scope : Scope} {cl : List (Str × Addr)} {pos : Pos} {nx : Led} {r : Addr} {a b : Int} {t₀ u₀ v₀ : Tok} {n : Nat} {Q : Value → Shared → Prop} (Y : Nat → Value → Prop)
    (hcell : ∀ y ∈ scope.names, y.2 ≠ .cell) (hsz : n ≤ sizeLine) (hkind : scope.kind = .function) (hx : scope.names.lookup x = some .local) (hh : A.handled = none)
    (F : Fr h₀ L s.heap m) (N : News h₀ L s.heap nx) (hr : IsRange s.heap r a b 1 t₀ u₀ v₀) (hsmall : Builtin.Range.small a b 1 = true) (hn : Builtin.Range.rangeSize a b 1 = (n : Int))
    (turn : ∀ C i t ny oC m₂ h tk, i < n → (C, oC) ∈ ny → NsObj oC m₂ → m₂ x = some (.int (a + (i : Nat)) t) → Fr h₀ L h m → News h₀ L h ny → (∀ p ∈ nx, p ∈ ny) →
      wpAny (model PG w) A (eval elt (compEnvC scope cl C env)) (fun y s₃ => ElV h₀ L m { s with heap := h, toks := tk } ny (Y i) y s₃) noE { s with heap := h, toks := tk })
    (hL : env.locals = L) (hy : env.kindOf y = some .local) (hp : (env.scope.kind == .class || (env.scope.kind == .module && env.locals != env.globals)) = false)
    (fin : ∀ D ys h tk ny, ys.length = n → (∀ (j : Nat) (y : Value), ys[j]? = some y → Y j y) → (D, lst ys) ∈ ny → (∀ p ∈ nx, p ∈ ny ∧ p.1 ≠ D) → Fr h₀ L h (fun z => if z = y then some (.ref D) else m z) → News h₀ L h ny → Q (.none) { s with heap := h, toks := tk }) :
    wpAny (model PG w) A (pyIter (.ref r)) (fun it s₂ => CompAt w A E env elt x px iter [] scope pos cl (compPost (model PG w) A E (some (assign (.Name y py) env)) Q) it s₂) E s := by
  refine comp_range_assign (Pure Y) hcell hsz hkind hx hh (fun _ _ _ _ _ _ h _ => h) F N hr hsmall hn (fun _ _ _ _ _ => ⟨rfl, fun _ _ h => nomatch h⟩) ?_ hL hy hp ?_
  · intro C D i v ys ny oC m₂ h tk off hi hyl hJ sub hC hNs hx hD F1 N1
    refine wpAny_tests_nil ?_
    rw [if_pos rfl]
    refine wpAny_mono (turn C i v ny oC m₂ h tk hi hC hNs hx F1 N1 sub) (fun y s₃ hq => ?_) fun _ _ e => e
    obtain ⟨h', tk', nz, rfl, F2, N2, hz, hY⟩ := hq
    exact ⟨h', tk', nz, rfl, F2, N2, hz, hJ.next hY⟩
  · intro C D ys h2 tk2 ny hCD off hJ sub hD F2 N2
    exact fin D ys h2 tk2 ny hJ.1 hJ.2 hD (fun p hp => ⟨sub p hp, (off p hp).2⟩) F2 N2
theorem comp_tup_none_pure {elt iter : Expr} {x : Str} {px : Pos} {scope : Scope} {cl : List (Str × Addr)} {pos : Pos} {nx : Led} {l : Addr} {vs : List Value} {nn : Nat} {Q : Value → Shared → Prop} (Y : Nat → Value → Prop)
    (hcell : ∀ y ∈ scope.names, y.2 ≠ .cell) (hsz : vs.length ≤ sizeLine) (hkind : scope.kind = .function) (hx : scope.names.lookup x = some .local) (hh : A.handled = none)
    (F : Fr h₀ L s.heap m) (N : News h₀ L s.heap nx) (hm : (l, tupO vs nn) ∈ nx)
    (turn : ∀ C i v ny oC m₂ h tk, vs[i]? = some v → (C, oC) ∈ ny → NsObj oC m₂ → m₂ x = some v → Fr h₀ L h m → News h₀ L h ny → (∀ p ∈ nx, p ∈ ny) →
      wpAny (model PG w) A (eval elt (compEnvC scope cl C env)) (fun y s₃ => ElV h₀ L m { s with heap := h, toks := tk } ny (Y i) y s₃) noE { s with heap := h, toks := tk })
    (fin : ∀ D ys h tk ny, ys.length = vs.length → (∀ (j : Nat) (y : Value), ys[j]? = some y → Y j y) → (D, lst ys) ∈ ny → (∀ p ∈ nx, p ∈ ny ∧ p.1 ≠ D) → Fr h₀ L h m → News h₀ L h ny → Q (.ref D) { s with heap := h, toks := tk }) :
    wpAny (model PG w) A (pyIter (.ref l)) (fun it s₂ => CompAt w A E env elt x px iter [] scope pos cl (compPost (model PG w) A E none Q) it s₂) E s := by
  refine comp_tup_none (Pure Y) hcell hsz hkind hx hh (fun _ _ _ _ _ _ h _ => h) F N hm (fun _ _ _ _ _ => ⟨rfl, fun _ _ h => nomatch h⟩) ?_ ?_
  · intro C D i v ys ny oC m₂ h tk off hi hyl hJ sub hC hNs hx hD F1 N1
    refine wpAny_tests_nil ?_
    rw [if_pos rfl]
    refine wpAny_mono (turn C i v ny oC m₂ h tk hi hC hNs hx F1 N1 sub) (fun y s₃ hq => ?_) fun _ _ e => e
    obtain ⟨h', tk', nz, rfl, F2, N2, hz, hY⟩ := hq
    exact ⟨h', tk', nz, rfl, F2, N2, hz, hJ.next hY⟩
  · intro C D ys h2 tk2 ny hCD off hJ sub hD F2 N2
    exact fin D ys h2 tk2 ny hJ.1 hJ.2 hD (fun p hp => ⟨sub p hp, (off p hp).2⟩) F2 N2
theorem comp_tup_assign_pure {y : Str} {py : Pos} {elt iter : Expr} {x : Str} {px : Pos} {scope : Scope} {cl : List (Str × Addr)} {pos : Pos} {nx : Led} {l : Addr} {vs : List Value} {nn : Nat} {Q : Value → Shared → Prop} (Y : Nat → Value → Prop)
    (hcell : ∀ y ∈ scope.names, y.2 ≠ .cell) (hsz : vs.length ≤ sizeLine) (hkind : scope.kind = .function) (hx : scope.names.lookup x = some .local) (hh : A.handled = none)
    (F : Fr h₀ L s.heap m) (N : News h₀ L s.heap nx) (hm : (l, tupO vs nn) ∈ nx)
    (turn : ∀ C i v ny oC m₂ h tk, vs[i]? = some v → (C, oC) ∈ ny → NsObj oC m₂ → m₂ x = some v → Fr h₀ L h m → News h₀ L h ny → (∀ p ∈ nx, p ∈ ny) →
      wpAny (model PG w) A (eval elt (compEnvC scope cl C env)) (fun y s₃ => ElV h₀ L m { s with heap := h, toks := tk } ny (Y i) y s₃) noE { s with heap := h, toks := tk })
    (hL : env.locals = L) (hy : env.kindOf y = some .local) (hp : (env.scope.kind == .class || (env.scope.kind == .module && env.locals != env.globals)) = false)
    (fin : ∀ D ys h tk ny, ys.length = vs.length → (∀ (j : Nat) (y : Value), ys[j]? = some y → Y j y) → (D, lst ys) ∈ ny → (∀ p ∈ nx, p ∈ ny ∧ p.1 ≠ D) → Fr h₀ L h (fun z => if z = y then some (.ref D) else m z) → News h₀ L h ny → Q (.none) { s with heap := h, toks := tk }) :
    wpAny (model PG w) A (pyIter (.ref l)) (fun it s₂ => CompAt w A E env elt x px iter [] scope pos cl (compPost (model PG w) A E (some (assign (.Name y py) env)) Q) it s₂) E s := by
  refine comp_tup_assign (Pure Y) hcell hsz hkind hx hh (fun _ _ _ _ _ _ h _ => h) F N hm (fun _ _ _ _ _ => ⟨rfl, fun _ _ h => nomatch h⟩) ?_ hL hy hp ?_
  · intro C D i v ys ny oC m₂ h tk off hi hyl hJ sub hC hNs hx hD F1 N1
    refine wpAny_tests_nil ?_
    rw [if_pos rfl]
    refine wpAny_mono (turn C i v ny oC m₂ h tk hi hC hNs hx F1 N1 sub) (fun y s₃ hq => ?_) fun _ _ e => e
    obtain ⟨h', tk', nz, rfl, F2, N2, hz, hY⟩ := hq
    exact ⟨h', tk', nz, rfl, F2, N2, hz, hJ.next hY⟩
  · intro C D ys h2 tk2 ny hCD off hJ sub hD F2 N2
    exact fin D ys h2 tk2 ny hJ.1 hJ.2 hD (fun p hp => ⟨sub p hp, (off p hp).2⟩) F2 N2
theorem comp_list_none_pure {elt iter : Expr} {x : Str} {px : Pos} {scope : Scope} {cl : List (Str × Addr)} {pos : Pos} {nx : Led} {l : Addr} {vs : List Value} {nn : Nat} {Q : Value → Shared → Prop} (Y : Nat → Value → Prop)
    (hcell : ∀ y ∈ scope.names, y.2 ≠ .cell) (hsz : vs.length ≤ sizeLine) (hkind : scope.kind = .function) (hx : scope.names.lookup x = some .local) (hh : A.handled = none)
    (F : Fr h₀ L s.heap m) (N : News h₀ L s.heap nx) (hm : (l, listOf vs.toArray nn) ∈ nx)
    (turn : ∀ C i v ny oC m₂ h tk, vs[i]? = some v → (C, oC) ∈ ny → NsObj oC m₂ → m₂ x = some v → Fr h₀ L h m → News h₀ L h ny → (∀ p ∈ nx, p ∈ ny) →
      wpAny (model PG w) A (eval elt (compEnvC scope cl C env)) (fun y s₃ => ElV h₀ L m { s with heap := h, toks := tk } ny (Y i) y s₃) noE { s with heap := h, toks := tk })
    (fin : ∀ D ys h tk ny, ys.length = vs.length → (∀ (j : Nat) (y : Value), ys[j]? = some y → Y j y) → (D, lst ys) ∈ ny → (∀ p ∈ nx, p ∈ ny ∧ p.1 ≠ D) → Fr h₀ L h m → News h₀ L h ny → Q (.ref D) { s with heap := h, toks := tk }) :
    wpAny (model PG w) A (pyIter (.ref l)) (fun it s₂ => CompAt w A E env elt x px iter [] scope pos cl (compPost (model PG w) A E none Q) it s₂) E s := by
  refine comp_list_none (Pure Y) hcell hsz hkind hx hh (fun _ _ _ _ _ _ h _ => h) F N hm (fun _ _ _ _ _ => ⟨rfl, fun _ _ h => nomatch h⟩) ?_ ?_
  · intro C D i v ys ny oC m₂ h tk off hi hyl hJ sub hC hNs hx hD F1 N1
    refine wpAny_tests_nil ?_
    rw [if_pos rfl]
    refine wpAny_mono (turn C i v ny oC m₂ h tk hi hC hNs hx F1 N1 sub) (fun y s₃ hq => ?_) fun _ _ e => e
    obtain ⟨h', tk', nz, rfl, F2, N2, hz, hY⟩ := hq
    exact ⟨h', tk', nz, rfl, F2, N2, hz, hJ.next hY⟩
  · intro C D ys h2 tk2 ny hCD off hJ sub hD F2 N2
    exact fin D ys h2 tk2 ny hJ.1 hJ.2 hD (fun p hp => ⟨sub p hp, (off p hp).2⟩) F2 N2
theorem comp_list_assign_pure {y : Str} {py : Pos} {elt iter : Expr} {x : Str} {px : Pos} {scope : Scope} {cl : List (Str × Addr)} {pos : Pos} {nx : Led} {l : Addr} {vs : List Value} {nn : Nat} {Q : Value → Shared → Prop} (Y : Nat → Value → Prop)
    (hcell : ∀ y ∈ scope.names, y.2 ≠ .cell) (hsz : vs.length ≤ sizeLine) (hkind : scope.kind = .function) (hx : scope.names.lookup x = some .local) (hh : A.handled = none)
    (F : Fr h₀ L s.heap m) (N : News h₀ L s.heap nx) (hm : (l, listOf vs.toArray nn) ∈ nx)
    (turn : ∀ C i v ny oC m₂ h tk, vs[i]? = some v → (C, oC) ∈ ny → NsObj oC m₂ → m₂ x = some v → Fr h₀ L h m → News h₀ L h ny → (∀ p ∈ nx, p ∈ ny) →
      wpAny (model PG w) A (eval elt (compEnvC scope cl C env)) (fun y s₃ => ElV h₀ L m { s with heap := h, toks := tk } ny (Y i) y s₃) noE { s with heap := h, toks := tk })
    (hL : env.locals = L) (hy : env.kindOf y = some .local) (hp : (env.scope.kind == .class || (env.scope.kind == .module && env.locals != env.globals)) = false)
    (fin : ∀ D ys h tk ny, ys.length = vs.length → (∀ (j : Nat) (y : Value), ys[j]? = some y → Y j y) → (D, lst ys) ∈ ny → (∀ p ∈ nx, p ∈ ny ∧ p.1 ≠ D) → Fr h₀ L h (fun z => if z = y then some (.ref D) else m z) → News h₀ L h ny → Q (.none) { s with heap := h, toks := tk }) :
    wpAny (model PG w) A (pyIter (.ref l)) (fun it s₂ => CompAt w A E env elt x px iter [] scope pos cl (compPost (model PG w) A E (some (assign (.Name y py) env)) Q) it s₂) E s := by
  refine comp_list_assign (Pure Y) hcell hsz hkind hx hh (fun _ _ _ _ _ _ h _ => h) F N hm (fun _ _ _ _ _ => ⟨rfl, fun _ _ h => nomatch h⟩) ?_ hL hy hp ?_
  · intro C D i v ys ny oC m₂ h tk off hi hyl hJ sub hC hNs hx hD F1 N1
    refine wpAny_tests_nil ?_
    rw [if_pos rfl]
    refine wpAny_mono (turn C i v ny oC m₂ h tk hi hC hNs hx F1 N1 sub) (fun y s₃ hq => ?_) fun _ _ e => e
    obtain ⟨h', tk', nz, rfl, F2, N2, hz, hY⟩ := hq
    exact ⟨h', tk', nz, rfl, F2, N2, hz, hJ.next hY⟩
  · intro C D ys h2 tk2 ny hCD off hJ sub hD F2 N2
    exact fin D ys h2 tk2 ny hJ.1 hJ.2 hD (fun p hp => ⟨sub p hp, (off p hp).2⟩) F2 N2
end
end Mine
end
section
open PySem PySem.W PyProof.Rows PyProof.Rows.LCg
set_option maxRecDepth 100000
namespace Mine
theorem compTurn_two (elt t0 i0 t1 i1 : Expr) (ifs1 : List Expr) (scope : Scope) (pos : Pos) (it acc : Value) (env : Env) :
    compTurn (.ListComp elt [⟨t0, i0, [], 0⟩, ⟨t1, i1, ifs1, 0⟩] scope pos) 0 it acc env = (standAt i0.pos >>= fun _ => pyNext it >>= fun r => match r with
      | none => pure (.done .next)
      | some v => letOwnedTupleGo t0 it v >>= fun _ => assign t0 env v >>= fun _ =>
        eval i1 env >>= fun x => standAt i1.pos >>= fun _ => foldedSetIterable i1 env x >>= fun x => holding [x] (pyIter x) >>= fun it1 => runOwn (.compStart (.ListComp elt [⟨t0, i0, [], 0⟩, ⟨t1, i1, ifs1, 0⟩] scope pos) 1 it1 acc env) env >>= fun _ =>
          again (.compLoop (.ListComp elt [⟨t0, i0, [], 0⟩, ⟨t1, i1, ifs1, 0⟩] scope pos) 0 it acc env)) := by rfl
theorem compTurn_inner (elt t0 i0 target iter : Expr) (ifs : List Expr) (scope : Scope) (pos : Pos) (it acc : Value) (env : Env) :
    compTurn (.ListComp elt [⟨t0, i0, [], 0⟩, ⟨target, iter, ifs, 0⟩] scope pos) 1 it acc env = (do
      standAt iter.pos
      match ← pyNext it with
      | none => pure (.done .next)
      | some v =>
        letOwnedTupleGo target it v
        assign target env v
        let mut ok := true
        for c in ifs do
          if ok then ok ← isTrue c env (eval c env)
        if ok then
          (do let _ ← call (.builtin "list.append") [acc, ← eval elt env])
        again (.compLoop (.ListComp elt [⟨t0, i0, [], 0⟩, ⟨target, iter, ifs, 0⟩] scope pos) 1 it acc env)) := by rfl
section
variable {prog : Program} {w : World} {A : Around} {E : Value → Shared → Prop} {R : Result → Shared → Prop} {s : Shared}
theorem compInner_tests {elt t0 i0 target iter : Expr} {ifs : List Expr} {scope : Scope} {pos : Pos} {it acc : Value} {env : Env} (I : Nat → Shared → Prop)
    (turn : ∀ n s, I n s → wpAny (model prog w) A (pyNext it) (fun r s₁ => match r with
      | none => R (.ok .next) s₁
      | some v => wpAny (model prog w) A (assign target env v) (fun _ s₂ =>
          wpAny (model prog w) A (forIn ifs true fun c r => if r = true then do let ok ← isTrue c env (eval c env); pure (ForInStep.yield ok) else pure (ForInStep.yield r)) (fun ok s₃ =>
            if ok = true then wpAny (model prog w) A (eval elt env) (fun x s₄ =>
              wpAny (model prog w) A (call (.builtin "list.append") [acc, x]) (fun _ s₅ => ∃ m, m < n ∧ I m s₅) (notedBy (model prog w) A env fun e s' => R (.error e) s') s₄) (notedBy (model prog w) A env fun e s' => R (.error e) s') s₃
            else ∃ m, m < n ∧ I m s₃) (notedBy (model prog w) A env fun e s' => R (.error e) s') s₂) (notedBy (model prog w) A env fun e s' => R (.error e) s') s₁) (notedBy (model prog w) A env fun e s' => R (.error e) s') s)
    (n : Nat) (h : I n s) (ht : ∀ v, letOwnedTupleGo target it v = pure () := by intro _; rfl) :
    codeAny (model prog w) A (.compLoop (.ListComp elt [⟨t0, i0, [], 0⟩, ⟨target, iter, ifs, 0⟩] scope pos) 1 it acc env) R s := by
  refine codeAny_loop rfl I (fun n s hI => ?_) n h
  show wpAny _ A ((compTurn (.ListComp elt [⟨t0, i0, [], 0⟩, ⟨target, iter, ifs, 0⟩] scope pos) 1 it acc env).onRaise (fun x => do noteFrame x env; theTreesLotGoes x)) _ _ s
  refine wpAny_noted ?_
  rw [compTurn_inner]
  refine wpAny_bind (wpAny_standAt (wpAny_bind (wpAny_mono (turn n s hI) (fun r s₁ h₁ => ?_) fun _ _ h' => h')))
  cases r with
  | none => exact wpAny_pure h₁
  | some v =>
    refine wpAny_bind (wpAny_of_eq (ht v) ?_)
    refine wpAny_bind (wpAny_mono h₁ (fun _ s₂ h₂ => wpAny_bind (wpAny_mono h₂ (fun ok s₃ h₃ => ?_) fun _ _ h' => h')) fun _ _ h' => h')
    cases ok with
    | false => exact wpAny_pure ⟨rfl, h₃⟩
    | true =>
      exact wpAny_bind (wpAny_bind (wpAny_mono h₃ (fun x s₄ h₄ => wpAny_bind (wpAny_mono h₄ (fun _ s₅ h₅ => wpAny_pure (wpAny_pure ⟨rfl, h₅⟩)) fun _ _ h' => h')) fun _ _ h' => h'))
theorem compOuter_tests {elt t0 i0 t1 i1 : Expr} {ifs1 : List Expr} {scope : Scope} {pos : Pos} {it acc : Value} {env : Env} (I : Nat → Shared → Prop)
    (turn : ∀ n s, I n s → wpAny (model prog w) A (pyNext it) (fun r s₁ => match r with
      | none => R (.ok .next) s₁
      | some v => wpAny (model prog w) A (letOwnedTupleGo t0 it v) (fun _ s₀ => wpAny (model prog w) A (assign t0 env v) (fun _ s₂ =>
          wpAny (model prog w) A (eval i1 env) (fun x s₃ => wpAny (model prog w) A (pyIter x) (fun it1 s₄ =>
            codeAny (model prog w) A (.compStart (.ListComp elt [⟨t0, i0, [], 0⟩, ⟨t1, i1, ifs1, 0⟩] scope pos) 1 it1 acc env) (fun r s₅ => match r with
              | .ok _ => ∃ m, m < n ∧ I m s₅
              | .error e => cameBackBy (model prog w) A env (notedBy (model prog w) A env fun e s' => R (.error e) s') e s₅) s₄) (notedBy (model prog w) A env fun e s' => R (.error e) s') s₃) (notedBy (model prog w) A env fun e s' => R (.error e) s') s₂) (notedBy (model prog w) A env fun e s' => R (.error e) s') s₀) (notedBy (model prog w) A env fun e s' => R (.error e) s') s₁) (notedBy (model prog w) A env fun e s' => R (.error e) s') s)
    (n : Nat) (h : I n s) (hs : ∀ x, foldedSetIterable i1 env x = pure x := by intro _; rfl) :
    codeAny (model prog w) A (.compLoop (.ListComp elt [⟨t0, i0, [], 0⟩, ⟨t1, i1, ifs1, 0⟩] scope pos) 0 it acc env) R s := by
  refine codeAny_loop rfl I (fun n s hI => ?_) n h
  show wpAny _ A ((compTurn (.ListComp elt [⟨t0, i0, [], 0⟩, ⟨t1, i1, ifs1, 0⟩] scope pos) 0 it acc env).onRaise (fun x => do noteFrame x env; theTreesLotGoes x)) _ _ s
  refine wpAny_noted ?_
  rw [compTurn_two]
  refine wpAny_bind (wpAny_standAt (wpAny_bind (wpAny_mono (turn n s hI) (fun r s₁ h₁ => ?_) fun _ _ h' => h')))
  cases r with
  | none => exact wpAny_pure h₁
  | some v =>
    refine wpAny_bind (wpAny_mono h₁ (fun _ s₀ h₀ => wpAny_bind (wpAny_mono h₀ (fun _ s₂ h₂ => wpAny_bind (wpAny_mono h₂ (fun x s₃ h₃ => ?_) fun _ _ h' => h')) fun _ _ h' => h')) fun _ _ h' => h')
    refine wpAny_bind (wpAny_standAt (wpAny_bind (wpAny_of_eq (hs x) (wpAny_bind (wpAny_holding (wpAny_mono h₃ (fun it1 s₄ h₄ => ?_) fun _ _ h' => h'))))))
    refine wpAny_bind (wpAny_mono (wpAny_runOwn (Q := fun _ s₅ => ∃ m, m < n ∧ I m s₅) ?_) (fun _ s₅ h₅ => wpAny_pure ⟨rfl, h₅⟩) fun _ _ h' => h')
    exact h₄
theorem compStart_inner {elt t0 i0 target iter ifs rest scope pos it acc env}
    (h0 : codeAny (model prog w) A (.compLoop (.ListComp elt (⟨t0, i0, [], 0⟩ :: ⟨target, iter, ifs, 0⟩ :: rest) scope pos) 1 it acc env) R s)
    (h : wpAny (model prog w) A (pyIter it) (fun it' s' => codeAny (model prog w) A (.compLoop (.ListComp elt (⟨t0, i0, [], 0⟩ :: ⟨target, iter, ifs, 0⟩ :: rest) scope pos) 1 it' acc env) R s')
      (notedBy (model prog w) A env fun x s' => R (.error x) s') s) :
    codeAny (model prog w) A (.compStart (.ListComp elt (⟨t0, i0, [], 0⟩ :: ⟨target, iter, ifs, 0⟩ :: rest) scope pos) 1 it acc env) R s := by
  refine codeAny_of_tree ?_
  show wpAny _ _ ((compStart (.ListComp elt (⟨t0, i0, [], 0⟩ :: ⟨target, iter, ifs, 0⟩ :: rest) scope pos) 1 it acc env).onRaise (fun x => do noteFrame x env; standAt theWindowsPlace)) _ _ s
  refine wpAny_notedAt ?_
  unfold compStart
  show wpAny _ _ (ask >>= _) _ _ s
  refine wpAny_bind (wpAny_askSetting (wpAny_ite ?_))
  split
  · first
      | exact wpAny_bind (wpAny_pure (wpAny_pure (And.intro rfl h0)))
      | exact wpAny_pure (And.intro rfl h0)
  · first
      | exact wpAny_bind (wpAny_rule (wpAny_bind (wpAny_standAt (wpAny_bind (wpAny_mono h (fun it' s' h' => wpAny_pure (And.intro rfl h')) fun _ _ x => x)))))
      | (refine wpAny_bind (wpAny_rule ?_); show wpAny _ _ (standAt iter.pos >>= _) _ _ s; exact wpAny_bind (wpAny_standAt (wpAny_bind (wpAny_mono h (fun it' s' h' => wpAny_pure (And.intro rfl h')) fun _ _ x => x))))
end
section
variable {w : World} {A : Around} {s : Shared} {env : Env} {h₀ : Heap} {L : Addr} {m : Str → Option Value} {E : Value → Shared → Prop}
noncomputable def CHead1 (h₀ : Heap) (L : Addr) (m : Str → Option Value) (s : Shared) (SI : Nat → Led → Prop) (Inv : Nat → List Value → Led → Prop) (nx₀ : Led) (C D : Addr) (n : Nat) (b : Nat) (M : (Str → Option Value) → Prop) (k : Nat) (s' : Shared) : Prop :=
  ∃ h' tk ny i ys oC m₂, s' = { s with heap := h', toks := tk } ∧ Fr h₀ L h' m ∧ News h₀ L h' ny ∧ SI i ny ∧ Inv i ys ny ∧ (∀ p ∈ nx₀, p ∈ ny) ∧ (C, oC) ∈ ny ∧ NsObj oC m₂ ∧ M m₂ ∧ (D, lst ys) ∈ ny ∧ i ≤ n ∧ ys.length ≤ b + i ∧ k = n + 1 - i

theorem comp_inner {t0 i0 : Expr} {x : Str} {px : Pos} {elt iter : Expr} {ifs : List Expr} {scope : Scope} {cl : List (Str × Addr)} {pos : Pos} {I C D : Addr} {n : Nat} {icl : List Value} {P : Nat → Value → Prop} {SI : Nat → Led → Prop} {src : List Addr} {R : Result → Shared → Prop} {nx₀ nx : Led}
    (T : IterS w A I n icl P SI src) (M : (Str → Option Value) → Prop) (hM : ∀ m₂ v, M m₂ → M (fun z => if z = x then some v else m₂ z)) {b : Nat} {ys₀ : List Value} (hb : ys₀.length ≤ b) (Inv : Nat → List Value → Led → Prop)
    (stable : ∀ i ys nx ny, Inv i ys nx → (∀ p ∈ nx, Kept icl p.2 → p.1 ≠ C → p.1 ≠ D → p ∈ ny) → Inv i ys ny)
    (hsz : b + n ≤ sizeLine) (hkind : scope.kind = .function) (hx : scope.names.lookup x = some .local)
    (hCL : C ≠ L) (hCD : C ≠ D) (hDL : D ≠ L) (hsrc : C ∉ src ∧ D ∉ src) (hold : ∀ p ∈ nx₀, p.1 ≠ C ∧ p.1 ≠ D ∧ p.1 ≠ I)
    (turn : ∀ i v ys nx oC m₂ h tk, i < n → ys.length ≤ b + i → P i v → Inv i ys nx → (∀ p ∈ nx₀, p ∈ nx) → (C, oC) ∈ nx → NsObj oC m₂ → m₂ x = some v → M m₂ → (D, lst ys) ∈ nx → Fr h₀ L h m → News h₀ L h nx →
      wpAny (model PG w) A (testsOf (compEnvC scope cl C env) ifs) (fun ok s₂ => if ok = true then wpAny (model PG w) A (eval elt (compEnvC scope cl C env)) (fun y s₃ => CEnd h₀ L m { s with heap := h, toks := tk } nx (Inv (i + 1) (ys ++ [y])) s₃) noE s₂
        else CEnd h₀ L m { s with heap := h, toks := tk } nx (Inv (i + 1) ys) s₂) noE { s with heap := h, toks := tk })
    (done : ∀ ys nx oC m₂ h tk, ys.length ≤ b + n → Inv n ys nx → (∀ p ∈ nx₀, p ∈ nx) → (C, oC) ∈ nx → NsObj oC m₂ → (D, lst ys) ∈ nx → Fr h₀ L h m → News h₀ L h nx → R (.ok .next) { s with heap := h, toks := tk })
    (F : Fr h₀ L s.heap m) (N : News h₀ L s.heap nx) (hSI : SI 0 nx) (hInv : Inv 0 ys₀ nx) (h0 : ∀ p ∈ nx₀, p ∈ nx) {oC : Obj} {m₂ : Str → Option Value} (hCm : (C, oC) ∈ nx) (hCo : NsObj oC m₂) (hMm : M m₂) (hDm : (D, lst ys₀) ∈ nx)
    (hCI : C ≠ I) (hDI : D ≠ I) :
    codeAny (model PG w) A (.compLoop (.ListComp elt [⟨t0, i0, [], 0⟩, ⟨.Name x px, iter, ifs, 0⟩] scope pos) 1 (.ref I) (.ref D) (compEnvC scope cl C env)) R s := by
  refine compInner_tests (CHead1 h₀ L m s SI Inv nx₀ C D n b M) ?_ (n + 1)
    ⟨s.heap, s.toks, nx, 0, ys₀, oC, m₂, rfl, F, N, hSI, hInv, h0, hCm, hCo, hMm, hDm, Nat.zero_le _, hb, rfl⟩
  rintro k s' ⟨h', tk, ny, i, ys, oC, m₂, rfl, F', N', hS', hI', h0', hCm', hCo', hMm', hDm', hi, hyl, rfl⟩
  obtain ⟨_, _, hCd, _, _⟩ := id hCo'
  have kC : Kept icl oC := .inr fun vs e => by rw [hCd] at e; cases e
  by_cases hlt : i < n
  · refine T.next i { s with heap := h', toks := tk } _ h₀ L m ny _ hlt hS' F' N' fun v h₁ tk₁ nz hP hS₁ F₁ N₁ hK hA => ?_
    have hC₁ := hA _ hCm' (by simpa using hCI)
    have hD₁ := hA _ hDm' (by simpa using hDI)
    have zC := N₁ _ hC₁
    refine wpAny_assign_Name (wpAny_storeName_local (lookup_relabel_local hx) (hCo'.ns zC.1) (fun h₂ hn₂ hs₂ => ?_) (by simp [compEnvC, relabel, hkind]))
    obtain ⟨oC₂, heC₂, hoC₂⟩ := ns_obj hn₂
    have hs₂' : Heap.SameBut C h₁ h₂ := hs₂
    obtain ⟨F₂, N₂⟩ := led_set F₁ N₁ hC₁ hs₂' heC₂
    have up : ∀ p ∈ nz, p.1 ≠ C → p ∈ (C, oC₂) :: nz.filter (fun p => p.1 != C) := fun p hp hne => .tail _ (List.mem_filter.mpr ⟨hp, by simpa using hne⟩)
    have hS₂ : SI (i + 1) ((C, oC₂) :: nz.filter (fun p => p.1 != C)) := T.stab _ _ _ hS₁ fun p hp hs => up p hp fun e => hsrc.1 (e ▸ hs)
    have hI₁ : Inv i ys nz := stable _ _ _ _ hI' fun p hp hk _ _ => hK p hp hk
    have hI₂ : Inv i ys ((C, oC₂) :: nz.filter (fun p => p.1 != C)) := stable _ _ _ _ hI₁ fun p hp _ hc _ => up p hp hc
    have h0₂ : ∀ p ∈ nx₀, p ∈ (C, oC₂) :: nz.filter (fun p => p.1 != C) := fun p hp => up p (hA p (h0' p hp) (by simpa using (hold p hp).2.2)) (hold p hp).1
    have hD₂ := up _ hD₁ (Ne.symm hCD)
    have hC₂ : (C, oC₂) ∈ (C, oC₂) :: nz.filter (fun p => p.1 != C) := .head _
    generalize (C, oC₂) :: nz.filter (fun p => p.1 != C) = nw at N₂ hS₂ hI₂ h0₂ hD₂ hC₂
    refine wpAny_mono (turn i v ys nw oC₂ _ h₂ _ hlt hyl hP hI₂ h0₂ hC₂ hoC₂ (by simp) (hM _ _ hMm') hD₂ F₂ N₂) (fun ok s₃ h₃ => ?_) fun _ _ e => e.elim
    cases ok with
    | false =>
      obtain ⟨h₄, tk₄, n₄, rfl, F₄, N₄, sub, hI₄⟩ := h₃
      exact ⟨n + 1 - (i + 1), by omega, h₄, tk₄, n₄, i + 1, ys, oC₂, _, rfl, F₄, N₄, T.stab _ _ _ hS₂ fun p hp _ => sub p hp, hI₄, fun p hp => sub p (h0₂ p hp), sub _ hC₂, hoC₂, hM _ _ hMm', sub _ hD₂, hlt, Nat.le_succ_of_le hyl, rfl⟩
    | true =>
      refine wpAny_mono h₃ (fun y s₄ h₄ => ?_) fun _ _ e => e.elim
      obtain ⟨h₄, tk₄, n₄, rfl, F₄, N₄, sub, hI₄⟩ := h₄
      have hD₄ := sub _ hD₂
      refine append_at (hsz := by show ys.toArray.size ≤ sizeLine; rw [List.size_toArray]; omega) (N₄ _ hD₄).1 fun h₅ hs₅ hD₅ => ?_
      rw [lst_snoc] at hD₅
      obtain ⟨F₅, N₅⟩ := led_set F₄ N₄ hD₄ hs₅ hD₅
      have up₅ : ∀ p ∈ n₄, p.1 ≠ D → p ∈ (D, lst (ys ++ [y])) :: n₄.filter (fun p => p.1 != D) := fun p hp hne => .tail _ (List.mem_filter.mpr ⟨hp, by simpa using hne⟩)
      exact ⟨n + 1 - (i + 1), by omega, h₅, tk₄, _, i + 1, ys ++ [y], oC₂, _, rfl, F₅, N₅, T.stab _ _ _ (T.stab _ _ _ hS₂ fun p hp _ => sub p hp) fun p hp hs => up₅ p hp fun e => hsrc.2 (e ▸ hs),
        stable _ _ _ _ hI₄ fun p hp _ _ hd => up₅ p hp hd, fun p hp => up₅ p (sub p (h0₂ p hp)) (hold p hp).2.1, up₅ _ (sub _ hC₂) hCD, hoC₂, hM _ _ hMm', .head _, hlt, by simp; omega, rfl⟩
  · have hin : i = n := by omega
    subst hin
    refine T.done { s with heap := h', toks := tk } _ h₀ L m ny _ hS' F' N' fun h₁ tk₁ nz F₁ N₁ hK hA => ?_
    exact done ys nz oC m₂ h₁ tk₁ hyl (stable _ _ _ _ hI' fun p hp hk _ _ => hK p hp hk) (fun p hp => hA p (h0' p hp) (by simpa using (hold p hp).2.2)) (hA _ hCm' (by simpa using hCI)) hCo' (hA _ hDm' (by simpa using hDI)) F₁ N₁

end
end Mine
end
section
open PySem PySem.W PyProof.Rows PyProof.Rows.LCg
set_option maxRecDepth 100000
namespace Mine
section
variable {w : World} {A : Around} {s : Shared} {env : Env} {h₀ : Heap} {L : Addr} {m : Str → Option Value} {E : Value → Shared → Prop}
theorem comp_blockG {target elt iter : Expr} {ifs : List Expr} {rest : List Comprehension} {scope : Scope} {cl : List (Str × Addr)} {pos : Pos} {I : Addr} {n : Nat} {icl : List Value} {P : Nat → Value → Prop} {SI : Nat → Led → Prop} {src : List Addr} {RR : Value → Addr → Result → Shared → Prop} {nx : Led}
    (T : IterS w A I n icl P SI src)
    (hcell : ∀ y ∈ scope.names, y.2 ≠ .cell) (hkind : scope.kind = .function)
    (F : Fr h₀ L s.heap m) (N : News h₀ L s.heap nx) (hSI : SI 0 nx)
    (loop : ∀ C D h₁ tk₁ oC m₂, C ≠ L → C ≠ D → D ≠ L → (∀ p ∈ nx, p.1 ≠ C ∧ p.1 ≠ D) → Fr h₀ L h₁ m → News h₀ L h₁ ((C, oC) :: (D, lst []) :: nx) → NsObj oC m₂ →
      codeAny (model PG w) A (.compLoop (.ListComp elt (⟨target, iter, ifs, 0⟩ :: rest) scope pos) 0 (.ref I) (.ref D) (compEnvC scope cl C env)) (RR (.ref D) C) { s with heap := h₁, toks := tk₁ }) :
    wpAny (model PG w) A (newList []) (fun acc s₃ => wpAny (model PG w) A (newFunctionEnv scope env.globals cl [] env.qual none .none (some env)) (fun cenv s₄ =>
      codeAny (model PG w) A (.compStart (.ListComp elt (⟨target, iter, ifs, 0⟩ :: rest) scope pos) 0 (.ref I) acc { cenv with scope := relabel scope env }) (RR acc cenv.locals) s₄) E s₃) E s := by
  refine wpAny_newObj_type (wpAny_newFunctionEnv hcell (by intro y hy; simp at hy) (fun h₁ hns₁ hsb₁ => ?_) hkind)
  dsimp only at hns₁ hsb₁ ⊢
  have FD : Fr h₀ L (s.heap.push (lst [])) m := F.push _
  have ND : News h₀ L (s.heap.push (lst [])) ((s.heap.objs.size, lst []) :: nx) := N.push F _ rfl
  have hH : s.heap.push { cls := .type "list", dict := none, data := .seq ([] : List Value).toArray } = s.heap.push (lst []) := rfl
  rw [hH] at hns₁ hsb₁ ⊢
  have hC : (s.heap.push (lst [])).objs.size = s.heap.objs.size + 1 := Heap.size_push ..
  have hCL : (s.heap.push (lst [])).objs.size ≠ L := by rw [hC]; exact Nat.ne_of_gt (Nat.lt_succ_of_lt F.ns.lt)
  have hDL : s.heap.objs.size ≠ L := Nat.ne_of_gt F.ns.lt
  have hCD : (s.heap.push (lst [])).objs.size ≠ s.heap.objs.size := by rw [hC]; exact Nat.succ_ne_self _
  have lt : ∀ p ∈ nx, p.1 < s.heap.objs.size := fun p hp => Heap.lt_size (N p hp).1
  have off : ∀ p ∈ nx, p.1 ≠ (s.heap.push (lst [])).objs.size ∧ p.1 ≠ s.heap.objs.size := fun p hp => ⟨by rw [hC]; exact Nat.ne_of_lt (Nat.lt_succ_of_lt (lt p hp)), Nat.ne_of_lt (lt p hp)⟩
  have hC₀ : h₀.get? (s.heap.push (lst [])).objs.size = none := by
    cases q : h₀.get? (s.heap.push (lst [])).objs.size with
    | none => rfl
    | some o => exact absurd (Heap.lt_size (FD.keep _ _ q)) (Nat.lt_irrefl _)
  obtain ⟨oC, heC, hoC⟩ := ns_obj hns₁
  have old : ∀ b o, (s.heap.push (lst [])).get? b = some o → h₁.get? b = some o := fun b o e => hsb₁.extBut b o (Nat.ne_of_lt (Heap.lt_size e)) (Heap.get?_push_of_some _ e)
  have F₁ : Fr h₀ L h₁ m := FD.keeps old
  have N₁ : News h₀ L h₁ (((s.heap.push (lst [])).objs.size, oC) :: (s.heap.objs.size, lst []) :: nx) := fun p hp => by
    rcases List.mem_cons.mp hp with rfl | hp
    · exact ⟨heC, hCL, hC₀⟩
    · exact ⟨old _ _ (ND p hp).1, (ND p hp).2⟩
  have hS₁ : SI 0 (((s.heap.push (lst [])).objs.size, oC) :: (s.heap.objs.size, lst []) :: nx) := T.stab _ _ _ hSI fun p hp _ => .tail _ (.tail _ hp)
  have loop2 := loop _ _ h₁ (s.toks + ([] : List (Str × Value)).length) oC _ hCL hCD hDL off F₁ N₁ hoC
  exact codeAny_compStart_list loop2 (T.self 0 _ _ _ h₀ L _ hS₁ N₁ loop2)

/-- the state at the head of a turn of the outer clause -/
noncomputable def OHead (h₀ : Heap) (L : Addr) (m : Str → Option Value) (s : Shared) (SI : Nat → Led → Prop) (Inv : Nat → List Value → Led → Prop) (nx₀ : Led) (C D : Addr) (i : Nat) (s' : Shared) : Prop :=
  ∃ h' tk ny ys oC m₂, s' = { s with heap := h', toks := tk } ∧ Fr h₀ L h' m ∧ News h₀ L h' ny ∧ SI i ny ∧ Inv i ys ny ∧ (∀ p ∈ nx₀, p ∈ ny) ∧ (C, oC) ∈ ny ∧ NsObj oC m₂ ∧ (D, lst ys) ∈ ny
theorem comp_outer {elt t0 i0 t1 i1 : Expr} {ifs1 : List Expr} {scope : Scope} {cl : List (Str × Addr)} {pos : Pos} {I C D : Addr} {n : Nat} {icl : List Value} {P : Nat → Value → Prop} {SI : Nat → Led → Prop} {src : List Addr} {R : Result → Shared → Prop} {nx₀ nx : Led}
    (T : IterS w A I n icl P SI src) (Inv : Nat → List Value → Led → Prop)
    (stable : ∀ i ys nx ny, Inv i ys nx → (∀ p ∈ nx, Kept icl p.2 → p ∈ ny) → Inv i ys ny)
    (hold : ∀ p ∈ nx₀, p.1 ≠ I)
    (turn : ∀ i v ys nx oC m₂ h tk, i < n → P i v → SI (i + 1) nx → Inv i ys nx → (∀ p ∈ nx₀, p ∈ nx) → (C, oC) ∈ nx → NsObj oC m₂ → (D, lst ys) ∈ nx → Fr h₀ L h m → News h₀ L h nx →
      wpAny (model PG w) A (assign t0 (compEnvC scope cl C env) v) (fun _ s₂ => wpAny (model PG w) A (eval i1 (compEnvC scope cl C env)) (fun x s₃ => wpAny (model PG w) A (pyIter x) (fun it1 s₄ =>
        codeAny (model PG w) A (.compStart (.ListComp elt [⟨t0, i0, [], 0⟩, ⟨t1, i1, ifs1, 0⟩] scope pos) 1 it1 (.ref D) (compEnvC scope cl C env)) (fun r s₅ => r = .ok .next ∧ OHead h₀ L m s SI Inv nx₀ C D (i + 1) s₅) s₄) noE s₃) noE s₂) noE { s with heap := h, toks := tk })
    (done : ∀ ys nx oC m₂ h tk, Inv n ys nx → (∀ p ∈ nx₀, p ∈ nx) → (C, oC) ∈ nx → NsObj oC m₂ → (D, lst ys) ∈ nx → Fr h₀ L h m → News h₀ L h nx → R (.ok .next) { s with heap := h, toks := tk })
    (F : Fr h₀ L s.heap m) (N : News h₀ L s.heap nx) (hSI : SI 0 nx) (hInv : Inv 0 [] nx) (h0 : ∀ p ∈ nx₀, p ∈ nx) {oC : Obj} {m₂ : Str → Option Value} (hCm : (C, oC) ∈ nx) (hCo : NsObj oC m₂) (hDm : (D, lst []) ∈ nx)
    (hCI : C ≠ I) (hDI : D ≠ I) (hs : ∀ x, foldedSetIterable i1 (compEnvC scope cl C env) x = pure x) :
    codeAny (model PG w) A (.compLoop (.ListComp elt [⟨t0, i0, [], 0⟩, ⟨t1, i1, ifs1, 0⟩] scope pos) 0 (.ref I) (.ref D) (compEnvC scope cl C env)) R s := by
  refine compOuter_tests (fun k s' => ∃ i, i ≤ n ∧ k = n + 1 - i ∧ OHead h₀ L m s SI Inv nx₀ C D i s') ?_ (n + 1)
    ⟨0, Nat.zero_le _, rfl, s.heap, s.toks, nx, [], oC, m₂, rfl, F, N, hSI, hInv, h0, hCm, hCo, hDm⟩ hs
  rintro k s' ⟨i, hi, rfl, h', tk, ny, ys, oC, m₂, rfl, F', N', hS', hI', h0', hCm', hCo', hDm'⟩
  by_cases hlt : i < n
  · refine T.next i { s with heap := h', toks := tk } _ h₀ L m ny _ hlt hS' F' N' fun v h₁ tk₁ nz hP hS₁ F₁ N₁ hK hA => ?_
    have hC₁ := hA _ hCm' (by simpa using hCI)
    have hD₁ := hA _ hDm' (by simpa using hDI)
    have hI₁ : Inv i ys nz := stable _ _ _ _ hI' hK
    have h0₁ : ∀ p ∈ nx₀, p ∈ nz := fun p hp => hA p (h0' p hp) (by simpa using hold p hp)
    refine T.go (i + 1) t0 v _ _ _ h₀ L nz hS₁ N₁ ?_
    refine wpAny_mono (turn i v ys nz oC m₂ h₁ tk₁ hlt hP hS₁ hI₁ h0₁ hC₁ hCo' hD₁ F₁ N₁) (fun _ s₂ h₂ => wpAny_mono h₂ (fun x s₃ h₃ => wpAny_mono h₃ (fun it1 s₄ h₄ => codeAny_mono h₄ fun r s₅ h₅ => ?_) fun _ _ e => e.elim) fun _ _ e => e.elim) fun _ _ e => e.elim
    obtain ⟨rfl, hO⟩ := h₅
    exact ⟨n + 1 - (i + 1), by omega, i + 1, hlt, rfl, hO⟩
  · have hin : i = n := by omega
    subst hin
    refine T.done { s with heap := h', toks := tk } _ h₀ L m ny _ hS' F' N' fun h₁ tk₁ nz F₁ N₁ hK hA => ?_
    exact done ys nz oC m₂ h₁ tk₁ (stable _ _ _ _ hI' hK) (fun p hp => hA p (h0' p hp) (by simpa using hold p hp)) (hA _ hCm' (by simpa using hCI)) hCo' (hA _ hDm' (by simpa using hDI)) F₁ N₁
/-- the inner clause over a range -/
theorem comp_inner_range {elt t0 i0 iter : Expr} {x : Str} {px : Pos} {ifs : List Expr} {scope : Scope} {cl : List (Str × Addr)} {pos : Pos} {C D r : Addr} {a c : Int} {t u v : Tok} {n : Nat} {RR : Result → Shared → Prop} {nx : Led}
    (M : (Str → Option Value) → Prop) (hM : ∀ m₂ v, M m₂ → M (fun z => if z = x then some v else m₂ z)) {b : Nat} {ys₀ : List Value} (hb : ys₀.length ≤ b) (Inv : Nat → List Value → Led → Prop)
    (stable : ∀ i ys nx ny, Inv i ys nx → (∀ p ∈ nx, Kept [.type "range_iterator"] p.2 → p.1 ≠ C → p.1 ≠ D → p ∈ ny) → Inv i ys ny)
    (nx₀ : Led) (hold : ∀ p ∈ nx₀, p ∈ nx ∧ p.1 ≠ C ∧ p.1 ≠ D) (hh : A.handled = none)
    (hsz : b + n ≤ sizeLine) (hkind : scope.kind = .function) (hx : scope.names.lookup x = some .local) (hCL : C ≠ L) (hCD : C ≠ D) (hDL : D ≠ L)
    (hr : IsRange s.heap r a c 1 t u v) (hsmall : Builtin.Range.small a c 1 = true) (hn : Builtin.Range.rangeSize a c 1 = (n : Int))
    (turn : ∀ i t ys nx oC m₂ h tk, i < n → ys.length ≤ b + i → Inv i ys nx → (∀ p ∈ nx₀, p ∈ nx) → (C, oC) ∈ nx → NsObj oC m₂ → m₂ x = some (.int (a + (i : Nat)) t) → M m₂ → (D, lst ys) ∈ nx → Fr h₀ L h m → News h₀ L h nx →
      wpAny (model PG w) A (testsOf (compEnvC scope cl C env) ifs) (fun ok s₂ => if ok = true then wpAny (model PG w) A (eval elt (compEnvC scope cl C env)) (fun y s₃ => CEnd h₀ L m { s with heap := h, toks := tk } nx (Inv (i + 1) (ys ++ [y])) s₃) noE s₂
        else CEnd h₀ L m { s with heap := h, toks := tk } nx (Inv (i + 1) ys) s₂) noE { s with heap := h, toks := tk })
    (done : ∀ ys nx oC m₂ h tk, ys.length ≤ b + n → Inv n ys nx → (∀ p ∈ nx₀, p ∈ nx) → (C, oC) ∈ nx → NsObj oC m₂ → (D, lst ys) ∈ nx → Fr h₀ L h m → News h₀ L h nx → RR (.ok .next) { s with heap := h, toks := tk })
    (F : Fr h₀ L s.heap m) (N : News h₀ L s.heap nx) (hInv : Inv 0 ys₀ nx) {oC : Obj} {m₂ : Str → Option Value} (hCm : (C, oC) ∈ nx) (hCo : NsObj oC m₂) (hMm : M m₂) (hDm : (D, lst ys₀) ∈ nx) :
    wpAny (model PG w) A (pyIter (.ref r)) (fun it1 s₄ => codeAny (model PG w) A (.compStart (.ListComp elt [⟨t0, i0, [], 0⟩, ⟨.Name x px, iter, ifs, 0⟩] scope pos) 1 it1 (.ref D) (compEnvC scope cl C env)) RR s₄) E s := by
  refine wpAny_pyIter_range hr hsmall ?_
  rw [hn]
  obtain ⟨F', N'⟩ := push_new (o := { cls := .type "range_iterator", data := .fields #[rawInt a, rawInt (n : Int), rawInt 1] }) F N rfl
  have hS : SIRange s.heap.objs.size a n 0 ((s.heap.objs.size, { cls := .type "range_iterator", data := .fields #[rawInt a, rawInt (n : Int), rawInt 1] }) :: nx) := by
    unfold SIRange
    have e1 : a + ((0 : Nat) : Int) = a := by simp
    have e2 : (n : Int) - ((0 : Nat) : Int) = n := by simp
    rw [e1, e2]
    exact .head _
  have ne : ∀ p ∈ nx, p.1 ≠ s.heap.objs.size := fun p hp => Nat.ne_of_lt (Heap.lt_size (N p hp).1)
  have T := iterS_range (w := w) (A := A) (I := s.heap.objs.size) (a := a) (n := n) hh
  have loop : codeAny (model PG w) A (.compLoop (.ListComp elt [⟨t0, i0, [], 0⟩, ⟨.Name x px, iter, ifs, 0⟩] scope pos) 1 (.ref s.heap.objs.size) (.ref D) (compEnvC scope cl C env)) RR { s with heap := s.heap.push { cls := .type "range_iterator", data := .fields #[rawInt a, rawInt (n : Int), rawInt 1] } } :=
    comp_inner (s := { s with heap := _ }) (nx₀ := nx₀) T M hM hb Inv stable hsz hkind hx hCL hCD hDL ⟨by simpa using ne _ hCm, by simpa using ne _ hDm⟩ (fun p hp => ⟨(hold p hp).2.1, (hold p hp).2.2, ne p (hold p hp).1⟩) (fun i v ys nx oC m₂ h tk a1 a2 a3 a4 a5 a6 a7 a8 a9 a10 a11 a12 => by
        obtain ⟨t, rfl⟩ := a3
        exact turn i t ys nx oC m₂ h tk a1 a2 a4 a5 a6 a7 a8 a9 a10 a11 a12) done F' N' hS
      (stable _ _ _ _ hInv fun p hp _ _ _ => .tail _ hp) (fun p hp => .tail _ (hold p hp).1) (.tail _ hCm) hCo hMm (.tail _ hDm) (ne _ hCm) (ne _ hDm)
  exact compStart_inner loop (T.self 0 _ _ _ h₀ L _ hS N' loop)
/-- what is to be shown when a comprehension of two clauses has its iterator -/
noncomputable def CompAt2 (w : World) (A : Around) (E : Value → Shared → Prop) (env : Env) (e : Expr) (scope : Scope) (cl : List (Str × Addr)) (RR : Value → Addr → Result → Shared → Prop) (it : Value) (s₂ : Shared) : Prop :=
  wpAny (model PG w) A (newList []) (fun acc s₃ => wpAny (model PG w) A (newFunctionEnv scope env.globals cl [] env.qual none .none (some env)) (fun cenv s₄ =>
      codeAny (model PG w) A (.compStart e 0 it acc { cenv with scope := relabel scope env }) (RR acc cenv.locals) s₄) E s₃) E s₂
theorem assignComp2 {elt t0 i0 t1 i1 : Expr} {y : Str} {py : Pos} {ifs1 : List Expr} {scope : Scope} {cl : List (Str × Addr)} {pos spos : Pos} {Q : Flow → Shared → Prop}
    (hsw : swapsWith (.ListComp elt [⟨t0, i0, [], 0⟩, ⟨t1, i1, ifs1, 0⟩] scope pos) (some (.Name y py)) spos.line env = pure true)
    (hclos : closureFor scope env = pure cl) (hkind : scope.kind = .function) (hnames : ∀ y ∈ scope.names, y.2 = .local → scope.names.lookup y.1 = some .local)
    (h : wpAny (model PG w) A (eval i0 env) (fun xv s₁ => wpAny (model PG w) A (pyIter xv) (fun it s₂ => CompAt2 w A E env (.ListComp elt [⟨t0, i0, [], 0⟩, ⟨t1, i1, ifs1, 0⟩] scope pos) scope cl (compPost (model PG w) A E (some (assign (.Name y py) env)) (fun _ s' => Q .next s')) it s₂) E s₁) E s)
    (hs : ∀ x, foldedSetIterable i0 env x = pure x := by intro _; rfl) :
    wpAny (model PG w) A (exec (.Assign [.Name y py] (.ListComp elt [⟨t0, i0, [], 0⟩, ⟨t1, i1, ifs1, 0⟩] scope pos) spos) env) Q E s := by
  rw [exec_Assign_Name_used _ _ _ _ hsw]
  refine wpAny_bind (wpAny_standAt (wpAny_bind ?_))
  show wpAny _ A (do let _ ← comprehension (.ListComp elt [⟨t0, i0, [], 0⟩, ⟨t1, i1, ifs1, 0⟩] scope pos) scope env _ (newList []) false (eval i0 env) (some (assign (.Name y py) env))) _ _ s
  exact wpAny_bind (wpAny_mono (wpAny_comprehension_free (use := some (assign (.Name y py) env)) (Q := fun _ s' => Q .next s') rfl hs hclos hkind hnames h) (fun _ s' hq => wpAny_pure (wpAny_pure hq)) fun _ _ e => e)
end
end Mine
end
section
open PySem PySem.W PyProof.Rows PyProof.Rows.LCg
set_option maxRecDepth 100000
namespace Mine
section
variable {w : World} {A : Around} {s : Shared} {h₀ : Heap} {L : Addr} {m : Str → Option Value} {nx : Led} {E : Value → Shared → Prop}
theorem ints_rep {t : Tok} : ∀ n : Nat, IntsAre (List.replicate n (Value.int 0 t)) (List.replicate n 0)
  | 0 => .nil
  | n + 1 => by rw [List.replicate_succ, List.replicate_succ]; exact .cons _ _ (ints_rep n)
theorem mul16 {l : Addr} {t u : Tok} {k : Nat} {Q : Value → Shared → Prop} (F : Fr h₀ L s.heap m) (N : News h₀ L s.heap nx) (hm : (l, listOf [Value.int 0 t].toArray k) ∈ nx)
    (h : ∀ h' D o, Fr h₀ L h' m → News h₀ L h' ((D, o) :: nx) → (∀ p ∈ nx, p.1 < D) → IntsL ((D, o) :: nx) D (List.replicate 16 0) → Q (.ref D) { s with heap := h' }) :
    wpAny (model PG w) A (binaryOp .Mult (.ref l) (.int 16 u)) Q E s := by
  refine mul_list (x := 16) F N (N _ hm).1 (by omega) (by omega) (by simp) fun h' F' N' => ?_
  have e0 : (if ([Value.int 0 t].toArray).isEmpty = true then 0 else (16 : Int).toNat) = 16 := rfl
  rw [e0, listMul_foldl] at N'
  have e1 : (List.replicate 16 ([Value.int 0 t].toArray).toList).flatten = List.replicate 16 (Value.int 0 t) := rfl
  rw [e1] at N'
  exact h h' _ _ F' N' (fun p hp => Heap.lt_size (N p hp).1) ⟨List.replicate 16 (.int 0 t), 0, .head _, ints_rep 16⟩
end
/-- the lists of the table while the comprehension makes them -/
noncomputable def KLists (nx₀ : Led) (C D : Addr) (i : Nat) (ys : List Value) (nx : Led) : Prop :=
  ∃ as : List Addr, ys = as.map Value.ref ∧ as.length = i ∧ as.Nodup ∧ ∀ a ∈ as, IntsL nx a (List.replicate 16 0) ∧ a ≠ C ∧ a ≠ D ∧ ∀ p ∈ nx₀, p.1 ≠ a
theorem KLists.stable {nx₀ : Led} {icl : List Value} (C D : Addr) (i : Nat) (ys : List Value) (nx ny : Led) (H : KLists nx₀ C D i ys nx) (h : ∀ p ∈ nx, Kept icl p.2 → p.1 ≠ C → p.1 ≠ D → p ∈ ny) : KLists nx₀ C D i ys ny := by
  obtain ⟨as, e, hl, hn, ha⟩ := H
  refine ⟨as, e, hl, hn, fun a h1 => ?_⟩
  obtain ⟨⟨vs, n, hm, hi⟩, hC, hD, h0⟩ := ha a h1
  exact ⟨⟨vs, n, h _ hm kept_seq hC hD, hi⟩, hC, hD, h0⟩
theorem KLists.start {nx₀ : Led} (C D : Addr) (ny : Led) : KLists nx₀ C D 0 [] ny := ⟨[], rfl, rfl, .nil, fun _ h => nomatch h⟩
theorem KLists.next {nx₀ nx ny : Led} {C D d : Addr} {i : Nat} {ys : List Value} (H : KLists nx₀ C D i ys nx) (sub : ∀ p ∈ nx, p ∈ ny) (hI : IntsL ny d (List.replicate 16 0)) (lt : ∀ p ∈ nx, p.1 < d) {oC oD : Obj} (hC : (C, oC) ∈ nx) (hD : (D, oD) ∈ nx) (h0 : ∀ p ∈ nx₀, p ∈ nx) :
    KLists nx₀ C D (i + 1) (ys ++ [.ref d]) ny := by
  obtain ⟨as, e, hl, hn, ha⟩ := H
  refine ⟨as ++ [d], by rw [e]; simp, by simp [hl], ?_, fun a h1 => ?_⟩
  · rw [List.nodup_append]
    refine ⟨hn, by simp, fun a h1 b h2 => ?_⟩
    rw [List.mem_singleton.mp h2]
    obtain ⟨o, ho⟩ := (ha a h1).1.fst
    exact Nat.ne_of_lt (lt _ ho)
  · rcases List.mem_append.mp h1 with h1 | h1
    · obtain ⟨h2, h3⟩ := ha a h1
      exact ⟨h2.mono sub, h3⟩
    · rw [List.mem_singleton.mp h1]
      exact ⟨hI, Nat.ne_of_gt (lt _ hC), Nat.ne_of_gt (lt _ hD), fun p hp => Nat.ne_of_lt (lt _ (h0 p hp))⟩
theorem KLists.kinds {nx₀ nx : Led} {C D : Addr} {ys : List Value} (H : KLists nx₀ C D 4 ys nx) (hD : (D, lst ys) ∈ nx) : ∃ kk : Fin 4 → Addr, Kinds nx D kk (fun _ => List.replicate 16 0) ∧ ∀ i, ∀ p ∈ nx₀, p.1 ≠ kk i := by
  obtain ⟨as, e, hl, hn, ha⟩ := H
  match as, hl with
  | [a0, a1, a2, a3], _ =>
    refine ⟨fun i => [a0, a1, a2, a3][i.val]'(by simp), ⟨⟨4, ?_⟩, fun i => ⟨(ha _ (List.getElem_mem _)).1, by simp⟩, fun i j h => ?_, fun i => Ne.symm (ha _ (List.getElem_mem _)).2.2.1⟩, fun i => (ha _ (List.getElem_mem _)).2.2.2⟩
    · rw [e] at hD
      exact hD
    · exact Fin.ext ((List.getElem_inj hn).mp h)
noncomputable def MkList (h₀ : Heap) (L : Addr) (m : Str → Option Value) (s : Shared) (ny : Led) (ns : List Int) (y : Value) (s₃ : Shared) : Prop :=
  ∃ h' tk' D nz, y = .ref D ∧ s₃ = { s with heap := h', toks := tk' } ∧ Fr h₀ L h' m ∧ News h₀ L h' nz ∧ (∀ p ∈ ny, p ∈ nz ∧ p.1 < D) ∧ IntsL nz D ns
theorem kinds_comp {w : World} {A : Around} {s : Shared} {env : Env} {h₀ : Heap} {L : Addr} {m : Str → Option Value} {E : Value → Shared → Prop} {y : Str} {py : Pos} {elt iter : Expr} {x : Str} {px : Pos} {scope : Scope} {cl : List (Str × Addr)} {pos : Pos} {nx : Led} {r : Addr} {t₀ u₀ v₀ : Tok} {Q : Value → Shared → Prop}
    (hcell : ∀ y ∈ scope.names, y.2 ≠ .cell) (hkind : scope.kind = .function) (hx : scope.names.lookup x = some .local) (hh : A.handled = none)
    (F : Fr h₀ L s.heap m) (N : News h₀ L s.heap nx) (hr : IsRange s.heap r 0 4 1 t₀ u₀ v₀)
    (hL : env.locals = L) (hy : env.kindOf y = some .local) (hp : (env.scope.kind == .class || (env.scope.kind == .module && env.locals != env.globals)) = false)
    (elt_ok : ∀ C ny h tk, Fr h₀ L h m → News h₀ L h ny → wpAny (model PG w) A (eval elt (compEnvC scope cl C env)) (fun y s₃ => MkList h₀ L m s ny (List.replicate 16 0) y s₃) noE { s with heap := h, toks := tk })
    (fin : ∀ D kk h tk ny, Kinds ny D kk (fun _ => List.replicate 16 0) → (∀ i, ∀ p ∈ nx, p.1 ≠ kk i) → (∀ p ∈ nx, p.1 ≠ D) → (∀ p ∈ nx, p ∈ ny) → Fr h₀ L h (fun z => if z = y then some (.ref D) else m z) → News h₀ L h ny → Q .none { s with heap := h, toks := tk }) :
    wpAny (model PG w) A (pyIter (.ref r)) (fun it s₂ => CompAt w A E env elt x px iter [] scope pos cl (compPost (model PG w) A E (some (assign (.Name y py) env)) Q) it s₂) E s := by
  refine comp_range_assign (n := 4) (KLists nx) hcell (by rw [sizeLine_eq]; omega) hkind hx hh KLists.stable F N hr rfl rfl (fun C D ny _ _ => KLists.start C D ny) ?_ hL hy hp ?_
  · intro C D i t ys ny oC m₂ h tk off hi hyl hJ sub hC hNs hx hD F1 N1
    refine wpAny_tests_nil ?_
    rw [if_pos rfl]
    refine wpAny_mono (elt_ok C ny h tk F1 N1) (fun y s₃ hq => ?_) fun _ _ e => e
    obtain ⟨h', tk', d, nz, rfl, rfl, F2, N2, hz, I2⟩ := hq
    exact ⟨h', tk', nz, rfl, F2, N2, fun p hp => (hz p hp).1, KLists.next hJ (fun p hp => (hz p hp).1) I2 (fun p hp => (hz p hp).2) hC hD sub⟩
  · intro C D ys h2 tk2 ny hCD off hJ sub hD F2 N2
    obtain ⟨kk, hK, hkk⟩ := KLists.kinds hJ hD
    exact fin D kk h2 tk2 ny hK hkk (fun p hp => (off p hp).2) sub F2 N2
/-- four ints in a tuple: an order, a row -/
noncomputable def TupAt (news : Led) (a : Addr) (o : Fin 4 → Fin 4) : Prop :=
  ∃ (t0 t1 t2 t3 : Tok) (n : Nat), (a, tupO [.int ((o 0).val : Int) t0, .int ((o 1).val : Int) t1, .int ((o 2).val : Int) t2, .int ((o 3).val : Int) t3] n) ∈ news
noncomputable def OrdersAt (news : Led) (a : Addr) (os : List (Fin 4 → Fin 4)) : Prop :=
  ∃ (vs : List Value) (n : Nat), (a, listOf vs.toArray n) ∈ news ∧ vs.length = os.length ∧ ∀ (i : Nat) (v : Value), vs[i]? = some v → ∃ (b : Addr) (o : Fin 4 → Fin 4), v = Value.ref b ∧ os[i]? = some o ∧ TupAt news b o
theorem TupAt.mono {news nx : Led} {a : Addr} {o : Fin 4 → Fin 4} (h : TupAt news a o) (hs : ∀ p ∈ news, p ∈ nx) : TupAt nx a o :=
  let ⟨t0, t1, t2, t3, n, hm⟩ := h
  ⟨t0, t1, t2, t3, n, hs _ hm⟩
theorem TupAt.keep {news nx : Led} {a : Addr} {o : Fin 4 → Fin 4} {cl : List Value} (h : TupAt news a o) (hs : KeepL cl news nx) : TupAt nx a o :=
  let ⟨t0, t1, t2, t3, n, hm⟩ := h
  ⟨t0, t1, t2, t3, n, hs _ hm kept_seq⟩
/-- one hour: a word comes into the tree -/
noncomputable def stepH (gt lt : Fin 4 → Fin 4 → Bool) (row : Fin 4 → Fin 4) (h : Fin 4) (st : Tr × List Int) : Tr × List Int :=
  let x := putF gt lt (row h) st.1
  (.node x.1.1 x.1.2.1 x.1.2.2, st.2.set h.val (st.2.getD h.val 0 + (x.2 : Int)))
noncomputable def runH (gt lt : Fin 4 → Fin 4 → Bool) (row : Fin 4 → Fin 4) (T : List Int) : Nat → Tr × List Int
  | 0 => (.leaf, T)
  | i + 1 => if h : i < 4 then stepH gt lt row ⟨i, h⟩ (runH gt lt row T i) else runH gt lt row T i
theorem putF_size (gt lt : Fin 4 → Fin 4 → Bool) (key : Fin 4) : ∀ t : Tr, (putF gt lt key t).1.1.size + (putF gt lt key t).1.2.2.size = t.size
  | .leaf => by simp [putF, Tr.size]
  | .node l k r => by
    have h1 := putF_size gt lt key l
    have h2 := putF_size gt lt key r
    simp only [putF, Tr.size]
    (repeat' split) <;> simp only [Tr.size] <;> omega
theorem runH_size (gt lt : Fin 4 → Fin 4 → Bool) (row : Fin 4 → Fin 4) (T : List Int) : ∀ i, (runH gt lt row T i).1.size ≤ i
  | 0 => by simp [runH, Tr.size]
  | i + 1 => by
    have h := runH_size gt lt row T i
    unfold runH
    split
    · unfold stepH
      have h2 := putF_size gt lt (row ⟨i, by assumption⟩) (runH gt lt row T i).1
      simp only [Tr.size]
      omega
    · omega
theorem runH_len (gt lt : Fin 4 → Fin 4 → Bool) (row : Fin 4 → Fin 4) (T : List Int) : ∀ i, (runH gt lt row T i).2.length = T.length
  | 0 => rfl
  | i + 1 => by
    have h := runH_len gt lt row T i
    unfold runH
    split
    · unfold stepH; simp [h]
    · exact h
end Mine
end
section
open PySem PySem.W PyProof.Rows PyProof.Rows.LCg
set_option maxRecDepth 100000
namespace Mine
/-- the frame but for its temporary names -/
noncomputable def Tmp (temps : List Str) (m₀ m : Str → Option Value) : Prop := ∀ z, temps.contains z = false → m z = m₀ z
theorem Tmp.fr {temps : List Str} {m₀ m : Str → Option Value} (h : Tmp temps m₀ m) {h₀ g : Heap} {L : Addr} (F : Fr h₀ L g m) : Fr h₀ L g (fun z => if temps.contains z then m z else m₀ z) := by
  have e : (fun z => if temps.contains z then m z else m₀ z) = m := by
    funext z
    cases hc : temps.contains z with
    | true => rfl
    | false => simp only [Bool.false_eq_true, if_false]; exact (h z hc).symm
  rw [e]; exact F
theorem Tmp.frV {temps : List Str} {m₀ m : Str → Option Value} (h : Tmp temps m₀ m) {y : Str} {v : Value} (hv : m y = some v) {h₀ g : Heap} {L : Addr} (F : Fr h₀ L g m) : Fr h₀ L g (fun z => if z = y then some v else if temps.contains z then m z else m₀ z) := by
  have e : (fun z => if z = y then some v else if temps.contains z then m z else m₀ z) = m := by
    funext z
    by_cases hy : z = y
    · rw [if_pos hy, hy, hv]
    · rw [if_neg hy]
      cases hc : temps.contains z with
      | true => rfl
      | false => simp only [Bool.false_eq_true, if_false]; exact (h z hc).symm
  rw [e]; exact F
theorem Tmp.refl (temps : List Str) (m : Str → Option Value) : Tmp temps m m := fun _ _ => rfl
section
variable {w : World} {A : Around} {s : Shared} {env : Env} {h₀ : Heap} {L : Addr} {body orelse : List Stmt} {R : Result → Shared → Prop} {E : Value → Shared → Prop} {m : Str → Option Value} {nx : Led} {l : Addr} {vs : List Value} {nn : Nat}
noncomputable def InvT (temps : List Str) (m₀ : Str → Option Value) (J : Nat → Led → Prop) (i : Nat) (m : Str → Option Value) (nx : Led) : Prop := Tmp temps m₀ m ∧ J i nx
noncomputable def InvV (temps : List Str) (y : Str) (m₀ : Str → Option Value) (J : Nat → Value → Led → Prop) (i : Nat) (m : Str → Option Value) (nx : Led) : Prop := Tmp temps m₀ m ∧ ∃ v, m y = some v ∧ J i v nx
theorem for_listT {target : Expr} (temps : List Str) (J : Nat → Led → Prop) (hh : A.handled = none)
    (F : Fr h₀ L s.heap m) (N : News h₀ L s.heap nx) (hm : (l, listOf vs.toArray nn) ∈ nx) (hI : J 0 nx)
    (stable : ∀ i nx ny, J i nx → KeepL [.type "list_iterator"] nx ny → J i ny)
    (turn : ∀ I i v (u : Str → Option Value) ny h tk, vs[i]? = some v → SIList I l vs nn (i + 1) ny → J i ny → Fr h₀ L h (fun z => if temps.contains z then u z else m z) → News h₀ L h ny →
      wpAny (model PG w) A (assign target env v) (fun _ s₂ => wpAny (model PG w) A (execs body env) (ForPost h₀ L (SIList I l vs nn) (InvT temps m J) (i + 1) s R) noE s₂) noE { s with heap := h, toks := tk })
    (done : ∀ (u : Str → Option Value) ny h tk, J vs.length ny → Fr h₀ L h (fun z => if temps.contains z then u z else m z) → News h₀ L h ny → wpAny (model PG w) A (execs orelse env) (fun f s₃ => R (.ok f) s₃) noE { s with heap := h, toks := tk }) :
    wpAny (model PG w) A (pyIter (.ref l)) (fun it s₂ => codeAny (model PG w) A (.forLoop target it body orelse env) R s₂) E s :=
  for_list (InvT temps m J) hh (fun i m' nx ny h k => ⟨h.1, stable _ _ _ h.2 k⟩) F N hm ⟨Tmp.refl _ _, hI⟩
    (fun I i v m₁ ny h tk hv hS hI' F₁ N₁ => turn I i v m₁ ny h tk hv hS hI'.2 (hI'.1.fr F₁) N₁)
    fun m₁ ny h tk hI' F₁ N₁ => done m₁ ny h tk hI'.2 (hI'.1.fr F₁) N₁
theorem for_enumTV {elts : List Expr} {kk : Nat} {tp : Pos} (temps : List Str) (y : Str) (J : Nat → Value → Led → Prop) (hh : A.handled = none)
    (F : Fr h₀ L s.heap m) (N : News h₀ L s.heap nx) (hm : (l, tupO vs nn) ∈ nx) {v₀ : Value} (hy : m y = some v₀) (hI : J 0 v₀ nx)
    (turn : ∀ e it i T x t n v (u : Str → Option Value) ny h tk, vs[i]? = some x → (T, tupO [.int (i : Nat) t, x] n) ∈ ny → SIEnumT e it l vs nn (i + 1) ny → J i v ny → Fr h₀ L h (fun z => if z = y then some v else if temps.contains z then u z else m z) → News h₀ L h ny →
      wpAny (model PG w) A (assign (.Tuple elts kk tp) env (.ref T)) (fun _ s₂ => wpAny (model PG w) A (execs body env) (ForPost h₀ L (SIEnumT e it l vs nn) (InvV temps y m J) (i + 1) s R) noE s₂) noE { s with heap := h, toks := tk })
    (done : ∀ v (u : Str → Option Value) ny h tk, J vs.length v ny → Fr h₀ L h (fun z => if z = y then some v else if temps.contains z then u z else m z) → News h₀ L h ny → wpAny (model PG w) A (execs orelse env) (fun f s₃ => R (.ok f) s₃) noE { s with heap := h, toks := tk })
    (stab2 : ∀ i v nx ny, J i v nx → KeepL [.type "enumerate", .type "tuple_iterator"] nx ny → J i v ny) :
    wpAny (model PG w) A (PySem.call (.type "enumerate") [.ref l]) (fun xv s₁ => wpAny (model PG w) A (pyIter xv) (fun it s₂ => codeAny (model PG w) A (.forLoop (.Tuple elts kk tp) it body orelse env) R s₂) E s₁) E s :=
  for_enumT (InvV temps y m J) hh (fun i m' nx ny ⟨h1, v, h2, h3⟩ k => ⟨h1, v, h2, stab2 _ _ _ _ h3 k⟩) F N hm ⟨Tmp.refl _ _, v₀, hy, hI⟩
    (fun e it i T x t n m₁ ny h tk hx hT hS ⟨h1, v, h2, h3⟩ F₁ N₁ => turn e it i T x t n v m₁ ny h tk hx hT hS h3 (h1.frV h2 F₁) N₁)
    fun m₁ ny h tk ⟨h1, v, h2, h3⟩ F₁ N₁ => done v m₁ ny h tk h3 (h1.frV h2 F₁) N₁
end
/-- a ledger without records -/
noncomputable def NoFields (news : Led) : Prop := ∀ p ∈ news, ∀ vs, p.2.data ≠ .fields vs
theorem NoFields.keep {news nx ny : Led} {cl : List Value} (h : NoFields news) (hs : ∀ p ∈ news, p ∈ nx) (k : KeepL cl nx ny) : ∀ p ∈ news, p ∈ ny := fun p hp => k p (hs p hp) (.inr (h p hp))
theorem TrIn.keep {news nx : Led} {v : Value} {t : Tr} {cl : List Value} (h : TrIn news v t) (k : KeepL cl news nx) : TrIn nx v t := by
  induction h with
  | leaf hm => exact .leaf (k _ hm kept_seq)
  | node hm _ _ ih1 ih2 => exact .node (k _ hm kept_seq) ih1 ih2
theorem IntsL.keep {news nx : Led} {a : Addr} {ns : List Int} {cl : List Value} (h : IntsL news a ns) (k : KeepL cl news nx) : IntsL nx a ns :=
  let ⟨vs, n, hm, hi⟩ := h
  ⟨vs, n, k _ hm kept_seq, hi⟩
theorem NumsAt.keep {news nx : Led} {a : Addr} {G : Fin 4 → Int} {cl : List Value} (h : NumsAt news a G) (k : KeepL cl news nx) : NumsAt nx a G :=
  let ⟨l, n, hm, hv⟩ := h
  ⟨l, n, k _ hm kept_seq, hv⟩
theorem Kinds.keep {news nx : Led} {ka : Addr} {kk : Fin 4 → Addr} {K : Fin 4 → List Int} {cl : List Value} (h : Kinds news ka kk K) (k : KeepL cl news nx) : Kinds nx ka kk K :=
  ⟨let ⟨n, hm⟩ := h.outer; ⟨n, k _ hm kept_seq⟩, fun i => ⟨(h.inner i).1.keep k, (h.inner i).2⟩, h.inj, h.off⟩
theorem Kinds.setO {news nx : Led} {ka d : Addr} {kk : Fin 4 → Addr} {K : Fin 4 → List Int} (h : Kinds news ka kk K) (hd : ∀ i, kk i ≠ d) (hk : ka ≠ d) (S : SetAt d news nx) : Kinds nx ka kk K :=
  ⟨let ⟨n, hm⟩ := h.outer; ⟨n, S _ hm hk⟩, fun i => ⟨(h.inner i).1.set (hd i) S, (h.inner i).2⟩, h.inj, h.off⟩
theorem SIList.keep {I l : Addr} {vs : List Value} {nn i : Nat} {nx ny : Led} {cl : List Value} (h : SIList I l vs nn i nx) (hc : Value.type "list_iterator" ∉ cl) (k : KeepL cl nx ny) : SIList I l vs nn i ny :=
  let ⟨⟨o, hm, h1, h2⟩, hl⟩ := h
  ⟨⟨o, k _ hm (.inl (by show o.cls ∉ cl; rw [h1]; exact hc)), h1, h2⟩, k _ hl kept_seq⟩
theorem SIList.mono {I l : Addr} {vs : List Value} {nn i : Nat} {nx ny : Led} (h : SIList I l vs nn i nx) (hs : ∀ p ∈ nx, p ∈ ny) : SIList I l vs nn i ny :=
  let ⟨⟨o, hm, h1, h2⟩, hl⟩ := h
  ⟨⟨o, hs _ hm, h1, h2⟩, hs _ hl⟩
theorem SIEnum.mono {c : String} {src : List Value → Nat → Obj} {e it l : Addr} {vs : List Value} {nn i : Nat} {nx ny : Led} (h : SIEnum c src e it l vs nn i nx) (hs : ∀ p ∈ nx, p ∈ ny) : SIEnum c src e it l vs nn i ny :=
  let ⟨⟨old, h1⟩, ⟨o, h2, h3⟩, h4⟩ := h
  ⟨⟨old, hs _ h1⟩, ⟨o, hs _ h2, h3⟩, hs _ h4⟩
/-- an object of another class than list stands when a list is set -/
theorem set_other {h₀ h : Heap} {L : Addr} {nx ny : Led} {a d : Addr} {o : Obj} {its : Array Value} {n : Nat} (N : News h₀ L h nx) (hm : (a, o) ∈ nx) (hd : (d, listOf its n) ∈ nx) (hc : o.cls ≠ .type "list") (S : SetAt d nx ny) : (a, o) ∈ ny :=
  S _ hm (cls_ne N hm hd hc)
theorem SIEnumT.set {h₀ h : Heap} {L : Addr} {nx ny : Led} {e it l d : Addr} {vs : List Value} {nn i : Nat} {its : Array Value} {n : Nat} (H : SIEnumT e it l vs nn i nx) (N : News h₀ L h nx) (hd : (d, listOf its n) ∈ nx) (S : SetAt d nx ny) : SIEnumT e it l vs nn i ny :=
  let ⟨⟨old, h1⟩, ⟨o, h2, h3, h5⟩, h4⟩ := H
  ⟨⟨old, set_other N h1 hd (by simp) S⟩, ⟨o, set_other N h2 hd (by rw [h3]; simp) S, h3, h5⟩, set_other N h4 hd (by simp) S⟩
theorem SIList.set {h₀ h : Heap} {L : Addr} {nx ny : Led} {I l d : Addr} {vs : List Value} {nn i : Nat} {its : Array Value} {n : Nat} (H : SIList I l vs nn i nx) (N : News h₀ L h nx) (hd : (d, listOf its n) ∈ nx) (hne : l ≠ d) (S : SetAt d nx ny) : SIList I l vs nn i ny :=
  let ⟨⟨o, h2, h3, h5⟩, h4⟩ := H
  ⟨⟨o, set_other N h2 hd (by rw [h3]; simp) S, h3, h5⟩, S _ h4 hne⟩
theorem SIList.frame {h₀ h : Heap} {L : Addr} {nx ny : Led} {I l ka : Addr} {kk : Fin 4 → Addr} {K : Fin 4 → List Int} {vs : List Value} {nn i : Nat} (H : SIList I l vs nn i nx) (N : News h₀ L h nx) (Kd : Kinds nx ka kk K) (hne : ∀ i, l ≠ kk i) (fr : ∀ p ∈ nx, (∀ i, p.1 ≠ kk i) → p ∈ ny) : SIList I l vs nn i ny := by
  obtain ⟨⟨o, h2, h3, h5⟩, h4⟩ := H
  refine ⟨⟨o, fr _ h2 fun j => ?_, h3, h5⟩, fr _ h4 hne⟩
  obtain ⟨us, n2, hm2, _⟩ := (Kd.inner j).1
  exact cls_ne N h2 hm2 (by rw [h3]; simp)
theorem tup4_get {o : Fin 4 → Fin 4} {t0 t1 t2 t3 : Tok} {i : Nat} {v : Value} (h : ([.int ((o 0).val : Int) t0, .int ((o 1).val : Int) t1, .int ((o 2).val : Int) t2, .int ((o 3).val : Int) t3] : List Value)[i]? = some v) : ∃ (hi : i < 4) (t : Tok), v = .int ((o ⟨i, hi⟩).val : Int) t := by
  match i with
  | 0 => cases h; exact ⟨by omega, _, rfl⟩
  | 1 => cases h; exact ⟨by omega, _, rfl⟩
  | 2 => cases h; exact ⟨by omega, _, rfl⟩
  | 3 => cases h; exact ⟨by omega, _, rfl⟩
  | n + 4 => cases h
theorem nums_of {ys : List Value} {D : Addr} {ny : Led} {G : Fin 4 → Int} (hl : ys.length = 4) (h : ∀ (j : Nat) (y : Value), ys[j]? = some y → ∃ (hj : j < 4) (t : Tok), y = .int (G ⟨j, hj⟩) t) (hD : (D, lst ys) ∈ ny) : NumsAt ny D G :=
  ⟨ys, ys.length, hD, fun i => by
    obtain ⟨hj, t, e⟩ := h i.val (ys[i.val]'(by omega)) (by simp)
    exact ⟨t, by rw [List.getElem?_eq_getElem (by omega), e]⟩⟩
theorem strs_of {ys : List Value} {D : Addr} {ny : Led} {G : Fin 4 → Str} (hl : ys.length = 4) (h : ∀ (j : Nat) (y : Value), ys[j]? = some y → ∃ (hj : j < 4) (t : Tok), y = .str (G ⟨j, hj⟩) t) (hD : (D, lst ys) ∈ ny) : StrsAt ny D G :=
  ⟨ys, ys.length, hD, fun i => by
    obtain ⟨hj, t, e⟩ := h i.val (ys[i.val]'(by omega)) (by simp)
    exact ⟨t, by rw [List.getElem?_eq_getElem (by omega), e]⟩⟩
theorem News.nm {h₀ h : Heap} {L a : Addr} {o : Obj} {ny : Led} (_N : News h₀ L h ((a, o) :: ny)) : ∃ b, b = a := ⟨a, rfl⟩
theorem runH_succ {gt lt : Fin 4 → Fin 4 → Bool} {row : Fin 4 → Fin 4} {T : List Int} {i : Nat} (h : i < 4) : runH gt lt row T (i + 1) = stepH gt lt row ⟨i, h⟩ (runH gt lt row T i) := by
  show (if h : i < 4 then stepH gt lt row ⟨i, h⟩ (runH gt lt row T i) else runH gt lt row T i) = _
  rw [dif_pos h]
noncomputable def gtF (G : Fin 4 → Int) (a b : Fin 4) : Bool := decide (G a > G b)
noncomputable def ltF (W : Fin 4 → Str) (a b : Fin 4) : Bool := decide (sc (W a) (W b) < 0)
/-- one order of the lamps -/
noncomputable def stO (Lt : Fin 4 → Int) (W : Fin 4 → Str) (row : Fin 4 → Fin 4) (st : (Fin 4 → List Int) × List Int) (o : Fin 4 → Fin 4) : (Fin 4 → List Int) × List Int :=
  let r := runH (gtF fun i => Lt (o i)) (ltF W) row st.2 4
  ((seenF (fun i => Lt (o i)) r.1 99999 0 st.1).2, r.2)
noncomputable def allF (Lt : Fin 4 → Int) (W : Fin 4 → Str) (row : Fin 4 → Fin 4) (os : List (Fin 4 → Fin 4)) : (Fin 4 → List Int) × List Int :=
  os.foldl (stO Lt W row) (fun _ => List.replicate 16 0, [0, 0, 0, 0])
theorem allF_len (Lt : Fin 4 → Int) (W : Fin 4 → Str) (row : Fin 4 → Fin 4) : ∀ os : List (Fin 4 → Fin 4), ∀ st : (Fin 4 → List Int) × List Int, (os.foldl (stO Lt W row) st).2.length = st.2.length
  | [], _ => rfl
  | o :: r, st => by
    rw [List.foldl_cons, allF_len Lt W row r]
    exact runH_len _ _ _ _ _
structure AllPost (news : Led) (x : (Fin 4 → List Int) × List Int) (r : Value) (nx : Led) : Prop where
  out : ∃ (r0 ka ta : Addr) (n : Nat) (kk : Fin 4 → Addr), r = .ref r0 ∧ (r0, tupO [.ref ka, .ref ta] n) ∈ nx ∧ Kinds nx ka kk x.1 ∧ IntsL nx ta x.2 ∧ ∀ p ∈ news, p ∈ nx
theorem Tmp.step {temps : List Str} {m₀ m : Str → Option Value} {y : Str} {v : Option Value} (h : Tmp temps m₀ m) (hy : temps.contains y = true) : Tmp temps m₀ (fun z => if z = y then v else m z) := fun z hz => by
  have : z ≠ y := fun e => by rw [e, hy] at hz; cases hz
  simp only [if_neg this]; exact h z hz
theorem Tmp.mid {temps : List Str} {m₀ u : Str → Option Value} : Tmp temps m₀ (fun z => if temps.contains z then u z else m₀ z) := fun z hz => by
  show (if temps.contains z = true then u z else m₀ z) = m₀ z
  rw [hz]; rfl
theorem Tmp.inn {temps inner : List Str} {m₀ u m : Str → Option Value} (h : Tmp temps m₀ m) (hs : inner.all temps.contains = true) : Tmp temps m₀ (fun z => if inner.contains z then u z else m z) := fun z hz => by
  have : inner.contains z = false := by
    cases hc : inner.contains z with
    | false => rfl
    | true =>
      have h1 := List.all_eq_true.mp hs z (List.contains_iff_mem.mp hc)
      rw [h1] at hz; cases hz
  show (if inner.contains z = true then u z else m z) = m₀ z
  rw [this]; exact h z hz
theorem ne_same {w : World} {A : Around} {E : Value → Shared → Prop} {s : Shared} {h₀ : Heap} {L : Addr} {nx n1 n2 : Led} {Q : Value → Shared → Prop} {a b : Addr} {ns : List Int} (N : News h₀ L s.heap nx) (H1 : IntsL n1 a ns) (s1 : ∀ p ∈ n1, p ∈ nx) (H2 : IntsL n2 b ns) (s2 : ∀ p ∈ n2, p ∈ nx) (hu : A.units + 64 < cLine)
    (h : Q (.bool false) s) : wpAny (model PG w) A (compareOp .NotEq (.ref a) (.ref b)) Q E s := by
  obtain ⟨v1, k1, m1, i1⟩ := H1
  obtain ⟨v2, k2, m2, i2⟩ := H2
  refine ne_intsK (PySem.IsL.isList (n := k1) (N _ (s1 _ m1)).1) i1 (PySem.IsL.isList (n := k2) (N _ (s2 _ m2)).1) i2 hu ?_
  rw [decide_eq_true rfl]; exact h
theorem ints4 {h₀ h : Heap} {L l : Addr} {nx : Led} {a b c d : Int} {t1 t2 t3 t4 : Tok} {n : Nat} (_N : News h₀ L h ((l, listOf [Value.int a t1, .int b t2, .int c t3, .int d t4].toArray n) :: nx)) : IntsL ((l, listOf [Value.int a t1, .int b t2, .int c t3, .int d t4].toArray n) :: nx) l [a, b, c, d] :=
  ⟨_, _, .head _, .cons _ _ (.cons _ _ (.cons _ _ (.cons _ _ .nil)))⟩
section
variable {w : World} {A : Around} {s : Shared} {env : Env} {h₀ : Heap} {L : Addr} {body orelse : List Stmt} {R : Result → Shared → Prop} {E : Value → Shared → Prop} {m : Str → Option Value} {nx : Led} {l : Addr} {vs : List Value} {nn : Nat}
theorem for_enumLT {elts : List Expr} {kk : Nat} {tp : Pos} (temps : List Str) (J : Nat → Led → Prop) (hh : A.handled = none)
    (F : Fr h₀ L s.heap m) (N : News h₀ L s.heap nx) (hm : (l, listOf vs.toArray nn) ∈ nx) (hI : J 0 nx)
    (turn : ∀ e it i T x t n (u : Str → Option Value) ny h tk, vs[i]? = some x → (T, tupO [.int (i : Nat) t, x] n) ∈ ny → SIEnumL e it l vs nn (i + 1) ny → J i ny → Fr h₀ L h (fun z => if temps.contains z then u z else m z) → News h₀ L h ny →
      wpAny (model PG w) A (assign (.Tuple elts kk tp) env (.ref T)) (fun _ s₂ => wpAny (model PG w) A (execs body env) (ForPost h₀ L (SIEnumL e it l vs nn) (InvT temps m J) (i + 1) s R) noE s₂) noE { s with heap := h, toks := tk })
    (done : ∀ (u : Str → Option Value) ny h tk, J vs.length ny → Fr h₀ L h (fun z => if temps.contains z then u z else m z) → News h₀ L h ny → wpAny (model PG w) A (execs orelse env) (fun f s₃ => R (.ok f) s₃) noE { s with heap := h, toks := tk })
    (stab2 : ∀ i nx ny, J i nx → KeepL [.type "enumerate", .type "list_iterator"] nx ny → J i ny) :
    wpAny (model PG w) A (PySem.call (.type "enumerate") [.ref l]) (fun xv s₁ => wpAny (model PG w) A (pyIter xv) (fun it s₂ => codeAny (model PG w) A (.forLoop (.Tuple elts kk tp) it body orelse env) R s₂) E s₁) E s :=
  for_enumL (InvT temps m J) hh (fun i m' nx ny ⟨h1, h3⟩ k => ⟨h1, stab2 _ _ _ h3 k⟩) F N hm ⟨Tmp.refl _ _, hI⟩
    (fun e it i T x t n m₁ ny h tk hx hT hS ⟨h1, h3⟩ F₁ N₁ => turn e it i T x t n m₁ ny h tk hx hT hS h3 (h1.fr F₁) N₁)
    fun m₁ ny h tk ⟨h1, h3⟩ F₁ N₁ => done m₁ ny h tk h3 (h1.fr F₁) N₁
theorem for_rangeT {target : Expr} {r : Addr} {a b : Int} {t u v : Tok} {n : Nat} (temps : List Str) (J : Nat → Led → Prop) (hh : A.handled = none)
    (F : Fr h₀ L s.heap m) (N : News h₀ L s.heap nx) (hr : IsRange s.heap r a b 1 t u v) (hsmall : Builtin.Range.small a b 1 = true) (hn : Builtin.Range.rangeSize a b 1 = (n : Int)) (hI : J 0 nx)
    (stable : ∀ i nx ny, J i nx → KeepL [.type "range_iterator"] nx ny → J i ny)
    (turn : ∀ I i t (u : Str → Option Value) ny h tk, i < n → SIRange I a n (i + 1) ny → J i ny → Fr h₀ L h (fun z => if temps.contains z then u z else m z) → News h₀ L h ny →
      wpAny (model PG w) A (assign target env (.int (a + (i : Nat)) t)) (fun _ s₂ => wpAny (model PG w) A (execs body env) (ForPost h₀ L (SIRange I a n) (InvT temps m J) (i + 1) s R) noE s₂) noE { s with heap := h, toks := tk })
    (done : ∀ (u : Str → Option Value) ny h tk, J n ny → Fr h₀ L h (fun z => if temps.contains z then u z else m z) → News h₀ L h ny → wpAny (model PG w) A (execs orelse env) (fun f s₃ => R (.ok f) s₃) noE { s with heap := h, toks := tk }) :
    wpAny (model PG w) A (pyIter (.ref r)) (fun it s₂ => codeAny (model PG w) A (.forLoop target it body orelse env) R s₂) E s :=
  for_range (InvT temps m J) hh (fun i m' nx ny h k => ⟨h.1, stable _ _ _ h.2 k⟩) F N hr hsmall hn ⟨Tmp.refl _ _, hI⟩
    (fun I i t m₁ ny h tk hi hS hI' F₁ N₁ => turn I i t m₁ ny h tk hi hS hI'.2 (hI'.1.fr F₁) N₁)
    fun m₁ ny h tk hI' F₁ N₁ => done m₁ ny h tk hI'.2 (hI'.1.fr F₁) N₁
end
theorem News.nm2 {h₀ h : Heap} {L a : Addr} {o : Obj} {x : Addr × Obj} {ny : Led} (_N : News h₀ L h (x :: (a, o) :: ny)) : ∃ b, b = a := ⟨a, rfl⟩
theorem SIEnumL.set {h₀ h : Heap} {L : Addr} {nx ny : Led} {e it l d : Addr} {vs : List Value} {nn i : Nat} {its : Array Value} {n : Nat} (H : SIEnumL e it l vs nn i nx) (N : News h₀ L h nx) (hd : (d, listOf its n) ∈ nx) (hne : l ≠ d) (S : SetAt d nx ny) : SIEnumL e it l vs nn i ny :=
  let ⟨⟨old, h1⟩, ⟨o, h2, h3, h5⟩, h4⟩ := H
  ⟨⟨old, set_other N h1 hd (by simp) S⟩, ⟨o, set_other N h2 hd (by rw [h3]; simp) S, h3, h5⟩, S _ h4 hne⟩
section
variable {w : World} {A : Around} {s : Shared} {env : Env} {h₀ : Heap} {L : Addr} {body orelse : List Stmt} {R : Result → Shared → Prop} {E : Value → Shared → Prop} {m : Str → Option Value} {nx : Led} {l : Addr} {vs : List Value} {nn : Nat}
theorem for_rangeV {target : Expr} {r : Addr} {a b : Int} {t u v : Tok} {n : Nat} (temps : List Str) (y : Str) (J : Nat → Value → Led → Prop) (hh : A.handled = none)
    (F : Fr h₀ L s.heap m) (N : News h₀ L s.heap nx) (hr : IsRange s.heap r a b 1 t u v) (hsmall : Builtin.Range.small a b 1 = true) (hn : Builtin.Range.rangeSize a b 1 = (n : Int)) {v₀ : Value} (hy : m y = some v₀) (hI : J 0 v₀ nx)
    (stable : ∀ i v nx ny, J i v nx → KeepL [.type "range_iterator"] nx ny → J i v ny)
    (turn : ∀ I i t v (u : Str → Option Value) ny h tk, i < n → SIRange I a n (i + 1) ny → J i v ny → Fr h₀ L h (fun z => if z = y then some v else if temps.contains z then u z else m z) → News h₀ L h ny →
      wpAny (model PG w) A (assign target env (.int (a + (i : Nat)) t)) (fun _ s₂ => wpAny (model PG w) A (execs body env) (ForPost h₀ L (SIRange I a n) (InvV temps y m J) (i + 1) s R) noE s₂) noE { s with heap := h, toks := tk })
    (done : ∀ v (u : Str → Option Value) ny h tk, J n v ny → Fr h₀ L h (fun z => if z = y then some v else if temps.contains z then u z else m z) → News h₀ L h ny → wpAny (model PG w) A (execs orelse env) (fun f s₃ => R (.ok f) s₃) noE { s with heap := h, toks := tk }) :
    wpAny (model PG w) A (pyIter (.ref r)) (fun it s₂ => codeAny (model PG w) A (.forLoop target it body orelse env) R s₂) E s :=
  for_range (InvV temps y m J) hh (fun i m' nx ny ⟨h1, v, h2, h3⟩ k => ⟨h1, v, h2, stable _ _ _ _ h3 k⟩) F N hr hsmall hn ⟨Tmp.refl _ _, v₀, hy, hI⟩
    (fun I i t m₁ ny h tk hi hS ⟨h1, v, h2, h3⟩ F₁ N₁ => turn I i t v m₁ ny h tk hi hS h3 (h1.frV h2 F₁) N₁)
    fun m₁ ny h tk ⟨h1, v, h2, h3⟩ F₁ N₁ => done v m₁ ny h tk h3 (h1.frV h2 F₁) N₁
end
theorem strs_snoc {vs : List Value} {ns : List Str} (h : StrsAre vs ns) (x : Str) (t : Tok) : StrsAre (vs ++ [.str x t]) (ns ++ [x]) := by
  induction h with
  | nil => exact .cons _ _ .nil
  | cons _ _ _ ih => exact .cons _ _ ih
theorem append_led {w : World} {A : Around} {E : Value → Shared → Prop} {s : Shared} {h₀ : Heap} {L D : Addr} {m : Str → Option Value} {nx : Led} {vs : List Value} {n : Nat} {x : Value} {Q : Value → Shared → Prop} (F : Fr h₀ L s.heap m) (N : News h₀ L s.heap nx) (hm : (D, listOf vs.toArray n) ∈ nx)
    (hsz : vs.length ≤ sizeLine) (h : ∀ h' ny, Fr h₀ L h' m → News h₀ L h' ny → SetAt D nx ny → (D, listOf (vs ++ [x]).toArray (n + 1)) ∈ ny → Q .none { s with heap := h' }) : wpAny (model PG w) A (PySem.call (.builtin "list.append") [.ref D, x]) Q E s := by
  refine append_at (hsz := by simpa using hsz) (N _ hm).1 fun h' hs ho' => ?_
  obtain ⟨F', N'⟩ := led_set F N hm hs ho'
  refine h _ _ F' N' (fun p hp hne => .tail _ (List.mem_filter.mpr ⟨hp, by simpa using hne⟩)) ?_
  have e : (vs ++ [x]).toArray = vs.toArray.push x := by simp
  rw [e]
  exact .head _
structure StrPost (news : Led) (x : Str) (r : Value) (nx : Led) : Prop where
  out : ∃ t, r = .str x t
  sub : ∀ p ∈ news, p ∈ nx
noncomputable def NoFields.of {news : Led} (h : ∀ p ∈ news, ∀ vs, p.2.data ≠ .fields vs) : NoFields news := h
end Mine
end
section
open PySem PySem.W PyProof.Rows PyProof.Rows.LCg
set_option maxRecDepth 100000
namespace Mine
/-- a dict of the ledger: texts to ints -/
noncomputable def DictL (w : World) (nx : Led) (d : Addr) (c : List (Str × Int)) : Prop := (d == sysModules) = false ∧ ∃ o kvs, (d, o) ∈ nx ∧ o.IsDictOf (PySem.strKind PG w) kvs ∧ PyProof.V.FlatPairs PyData.str kvs (kdpD c)
theorem DictL.tab {w : World} {news nx : Led} {d : Addr} {c : List (Str × Int)} {h₀ h : Heap} {L : Addr} (H : DictL w news d c) (hs : ∀ p ∈ news, p ∈ nx) (N : News h₀ L h nx) : StrTab PG w h d (kdpD c) := by
  obtain ⟨h1, o, kvs, hm, h2, h3⟩ := H
  exact ⟨h1, kvs, Heap.dictOf_iff.mpr ⟨o, (N _ (hs _ hm)).1, h2⟩, h3⟩
theorem DictL.mono {w : World} {news nx : Led} {d : Addr} {c : List (Str × Int)} (H : DictL w news d c) (hs : ∀ p ∈ news, p ∈ nx) : DictL w nx d c :=
  let ⟨h1, o, kvs, hm, h2, h3⟩ := H
  ⟨h1, o, kvs, hs _ hm, h2, h3⟩
theorem DictL.set {w : World} {news nx : Led} {d a : Addr} {c : List (Str × Int)} (H : DictL w news d c) (hne : d ≠ a) (S : SetAt a news nx) : DictL w nx d c :=
  let ⟨h1, o, kvs, hm, h2, h3⟩ := H
  ⟨h1, o, kvs, S _ hm hne, h2, h3⟩
theorem kept_dictOf {w : World} {o : Obj} {kvs : List (Str × Value)} {cl : List Value} (h : o.IsDictOf (PySem.strKind PG w) kvs) : Kept cl o := by
  obtain ⟨es, ep, _, hd, _⟩ := h
  exact .inr fun vs e => by rw [hd] at e; cases e
theorem DictL.keep {w : World} {news nx : Led} {d : Addr} {c : List (Str × Int)} {cl : List Value} (H : DictL w news d c) (k : KeepL cl news nx) : DictL w nx d c :=
  let ⟨h1, o, kvs, hm, h2, h3⟩ := H
  ⟨h1, o, kvs, k _ hm (kept_dictOf h2), h2, h3⟩
theorem DictL.data {w : World} {nx : Led} {d : Addr} {c : List (Str × Int)} (H : DictL w nx d c) : ∃ o es ep, (d, o) ∈ nx ∧ o.data = .dict es ep :=
  let ⟨_, o, _, hm, ⟨es, ep, _, hd, _⟩, _⟩ := H
  ⟨o, es, ep, hm, hd⟩
section
variable {w : World} {A : Around} {E : Value → Shared → Prop} {s : Shared} {h₀ : Heap} {L d : Addr} {m : Str → Option Value} {news nx : Led} {c : List (Str × Int)} {k : Str} {e : Int} {tk te : Tok}
theorem dict_get2 {Q : Value → Shared → Prop} (N : News h₀ L s.heap nx) (H : DictL w news d c) (hs : ∀ p ∈ news, p ∈ nx) (h : ∀ t, Q (.int (kdpLook c k e) t) { s with toks := s.toks + 1 }) : wpAny (model PG w) A (PySem.call (.builtin "dict.get") [.ref d, .str k tk, .int e te]) Q E s :=
  kdp_get2 (H.tab hs N) h
theorem dict_set {Q : Unit → Shared → Prop} (F : Fr h₀ L s.heap m) (N : News h₀ L s.heap nx) (H : DictL w news d c) (hs : ∀ p ∈ news, p ∈ nx) (hc : c.length ≤ 16777216)
    (h : ∀ h' ny, Fr h₀ L h' m → News h₀ L h' ny → SetAt d nx ny → (∃ o es ep, (d, o) ∈ nx ∧ o.data = .dict es ep) → DictL w ny d (kdpPut c k e) → Q () { s with heap := h', toks := s.toks + 1 }) :
    wpAny (model PG w) A (setItem (.ref d) (.str k tk) (.int e te)) Q E s := by
  have hdat := (H.mono hs).data
  obtain ⟨h1, o, kvs, hm, h2, h3⟩ := H
  have N2 : News h₀ L s.heap ([] ++ (d, o) :: nx.filter (fun p => p.1 != d)) := fun p hp => by
    rcases List.mem_cons.mp hp with rfl | hp
    · exact N _ (hs _ hm)
    · exact N _ (List.mem_filter.mp hp).1
  refine setItem_madeIn PyProof.V.same_str (PySem.strKind_is _ _ _ _) (PyProof.V.Flat.int e te) F N2 (fun _ q => nomatch q) (fun p hp => by simpa using (List.mem_filter.mp hp).2) h2 h3 (fun h' o' F' N' a b => ?_) (by rw [kdpD_length, sizeLine_eq]; exact hc)
  refine h h' ((d, o') :: nx.filter (fun p => p.1 != d)) F' N' (fun p hp hne => .tail _ (List.mem_filter.mpr ⟨hp, by simpa using hne⟩)) hdat ⟨h1, o', _, .head _, a, by rw [← kdpD_put]; exact b⟩
end
/-- the table of counts -/
structure Cnts (w : World) (news : Led) (ka : Addr) (kk : Fin 4 → Addr) (K : Fin 4 → List (Str × Int)) : Prop where
  outer : ∃ n, (ka, listOf [.ref (kk 0), .ref (kk 1), .ref (kk 2), .ref (kk 3)].toArray n) ∈ news
  inner : ∀ i, DictL w news (kk i) (K i)
  inj : ∀ i j, kk i = kk j → i = j
  off : ∀ i, ka ≠ kk i
theorem Cnts.mono {w : World} {news nx : Led} {ka : Addr} {kk : Fin 4 → Addr} {K : Fin 4 → List (Str × Int)} (h : Cnts w news ka kk K) (hs : ∀ p ∈ news, p ∈ nx) : Cnts w nx ka kk K :=
  ⟨let ⟨n, hm⟩ := h.outer; ⟨n, hs _ hm⟩, fun i => (h.inner i).mono hs, h.inj, h.off⟩
theorem Cnts.keep {w : World} {news nx : Led} {ka : Addr} {kk : Fin 4 → Addr} {K : Fin 4 → List (Str × Int)} {cl : List Value} (h : Cnts w news ka kk K) (k : KeepL cl news nx) : Cnts w nx ka kk K :=
  ⟨let ⟨n, hm⟩ := h.outer; ⟨n, k _ hm kept_seq⟩, fun i => (h.inner i).keep k, h.inj, h.off⟩
theorem Cnts.set {w : World} {news nx : Led} {ka : Addr} {kk : Fin 4 → Addr} {K : Fin 4 → List (Str × Int)} {i : Fin 4} {c : List (Str × Int)} (h : Cnts w news ka kk K) (S : SetAt (kk i) news nx) (H : DictL w nx (kk i) c) : Cnts w nx ka kk (fun j => if j = i then c else K j) := by
  refine ⟨let ⟨n, hm⟩ := h.outer; ⟨n, S _ hm (h.off i)⟩, fun j => ?_, h.inj, h.off⟩
  by_cases e : j = i
  · subst e; simp only [if_true]; exact H
  · simp only [if_neg e]
    exact (h.inner j).set (fun q => e (h.inj _ _ q)) S
section
variable {prog : Program} {w : World} {A : Around} {E : Value → Shared → Prop} {s : Shared} {h₀ : Heap} {L : Addr} {m : Str → Option Value} {news nx : Led}
theorem cnts_sub {value slice : Expr} {a : Addr} {kk : Fin 4 → Addr} {K : Fin 4 → List (Str × Int)} {k : Fin 4} {u : Tok} {Q : Value → Shared → Prop} (N : News h₀ L s.heap nx) (H : Cnts w news a kk K) (hs : ∀ p ∈ news, p ∈ nx)
    (h : Q (.ref (kk k)) s)
    (hsub : subscripted slice false (.ref a) (.int (k.val : Int) u) = operate [.ref a, .int (k.val : Int) u] (getItem (.ref a) (.int (k.val : Int) u)) := by with_unfolding_all rfl)
    (hg : ∀ r, letTemporaryGo value (.ref a) r = pure () := by intro _; with_unfolding_all rfl) :
    wpAny (model prog w) A (subscriptTail value slice (.ref a) (.int (k.val : Int) u)) Q E s := by
  obtain ⟨n, hm⟩ := H.outer
  refine item_listL (x := .ref (kk k)) ⟨_, (N _ (hs _ hm)).1, rfl, n, rfl⟩ (Int.natCast_nonneg _) (fin4_fit k) ?_ h hsub hg
  match k with
  | 0 => rfl
  | 1 => rfl
  | 2 => rfl
  | 3 => rfl
theorem strsL_sub {value slice : Expr} {a : Addr} {vs : List Value} {ns : List Str} {n : Nat} {k : Int} {u : Tok} {Q : Value → Shared → Prop} (N : News h₀ L s.heap nx) (hm : (a, listOf vs.toArray n) ∈ nx) (hi : StrsAre vs ns) (h0 : 0 ≤ k) (hfit : k < 2 ^ 63) {x : Str} (hx : ns[k.toNat]? = some x)
    (h : ∀ t, Q (.str x t) s)
    (hsub : subscripted slice false (.ref a) (.int k u) = operate [.ref a, .int k u] (getItem (.ref a) (.int k u)) := by with_unfolding_all rfl)
    (hg : ∀ r, letTemporaryGo value (.ref a) r = pure () := by intro _; with_unfolding_all rfl) :
    wpAny (model prog w) A (subscriptTail value slice (.ref a) (.int k u)) Q E s := by
  obtain ⟨t, ht⟩ := hi.get _ _ hx
  exact item_listL ⟨_, (N _ hm).1, rfl, n, rfl⟩ h0 hfit (by simpa using ht) (h t) hsub hg
end
/-- the dicts while the comprehension makes them -/
noncomputable def DLists (w : World) (nx₀ : Led) (C D : Addr) (i : Nat) (ys : List Value) (nx : Led) : Prop :=
  ∃ as : List Addr, ys = as.map Value.ref ∧ as.length = i ∧ as.Nodup ∧ ∀ a ∈ as, DictL w nx a [] ∧ a ≠ C ∧ a ≠ D ∧ ∀ p ∈ nx₀, p.1 ≠ a
theorem DLists.stable {w : World} {nx₀ : Led} {icl : List Value} (C D : Addr) (i : Nat) (ys : List Value) (nx ny : Led) (H : DLists w nx₀ C D i ys nx) (h : ∀ p ∈ nx, Kept icl p.2 → p.1 ≠ C → p.1 ≠ D → p ∈ ny) : DLists w nx₀ C D i ys ny := by
  obtain ⟨as, e, hl, hn, ha⟩ := H
  refine ⟨as, e, hl, hn, fun a h1 => ?_⟩
  obtain ⟨⟨h1, o, kvs, hm, h2, h3⟩, hC, hD, h0⟩ := ha a h1
  exact ⟨⟨h1, o, kvs, h _ hm (kept_dictOf h2) hC hD, h2, h3⟩, hC, hD, h0⟩
theorem DLists.start {w : World} {nx₀ : Led} (C D : Addr) (ny : Led) : DLists w nx₀ C D 0 [] ny := ⟨[], rfl, rfl, .nil, fun _ h => nomatch h⟩
theorem DLists.next {w : World} {nx₀ nx ny : Led} {C D d : Addr} {i : Nat} {ys : List Value} (H : DLists w nx₀ C D i ys nx) (sub : ∀ p ∈ nx, p ∈ ny) (hI : DictL w ny d []) (ne : ∀ p ∈ nx, p.1 ≠ d) {oC oD : Obj} (hC : (C, oC) ∈ nx) (hD : (D, oD) ∈ nx) (h0 : ∀ p ∈ nx₀, p ∈ nx) :
    DLists w nx₀ C D (i + 1) (ys ++ [.ref d]) ny := by
  obtain ⟨as, e, hl, hn, ha⟩ := H
  refine ⟨as ++ [d], by rw [e]; simp, by simp [hl], ?_, fun a h1 => ?_⟩
  · rw [List.nodup_append]
    refine ⟨hn, by simp, fun a h1 b h2 => ?_⟩
    rw [List.mem_singleton.mp h2]
    obtain ⟨o, _, _, ho, _⟩ := (ha a h1).1.data
    exact ne _ ho
  · rcases List.mem_append.mp h1 with h1 | h1
    · obtain ⟨h2, h3⟩ := ha a h1
      exact ⟨h2.mono sub, h3⟩
    · rw [List.mem_singleton.mp h1]
      exact ⟨hI, (ne _ hC).symm, (ne _ hD).symm, fun p hp => ne _ (h0 p hp)⟩
theorem DLists.cnts {w : World} {nx₀ nx : Led} {C D : Addr} {ys : List Value} (H : DLists w nx₀ C D 4 ys nx) (hD : (D, lst ys) ∈ nx) : ∃ kk : Fin 4 → Addr, Cnts w nx D kk (fun _ => []) ∧ ∀ i, ∀ p ∈ nx₀, p.1 ≠ kk i := by
  obtain ⟨as, e, hl, hn, ha⟩ := H
  match as, hl with
  | [a0, a1, a2, a3], _ =>
    refine ⟨fun i => [a0, a1, a2, a3][i.val]'(by simp), ⟨⟨4, ?_⟩, fun i => (ha _ (List.getElem_mem _)).1, fun i j h => ?_, fun i => Ne.symm (ha _ (List.getElem_mem _)).2.2.1⟩, fun i => (ha _ (List.getElem_mem _)).2.2.2⟩
    · rw [e] at hD
      exact hD
    · exact Fin.ext ((List.getElem_inj hn).mp h)
noncomputable def updC (K : Fin 4 → List Int) (mask : Nat) (flag : Str) (C : Fin 4 → List (Str × Int)) : Fin 4 → List (Str × Int) := fun j => kdpPut (C j) flag (kdpLook (C j) flag 0 + (K j).getD mask 0)
noncomputable def partC (K : Fin 4 → List Int) (mask : Nat) (flag : Str) (C : Fin 4 → List (Str × Int)) (i : Nat) : Fin 4 → List (Str × Int) := fun j => if j.val < i then updC K mask flag C j else C j
noncomputable def maskC (K : Fin 4 → List Int) (FL : Nat → List Str) (C : Fin 4 → List (Str × Int)) (i : Nat) : Fin 4 → List (Str × Int) := (FL i).foldl (fun C flag => updC K (i + 1) flag C) C
noncomputable def cntC (K : Fin 4 → List Int) (FL : Nat → List Str) : Nat → Fin 4 → List (Str × Int)
  | 0 => fun _ => []
  | i + 1 => maskC K FL (cntC K FL i) i
theorem partC_zero {K : Fin 4 → List Int} {mask : Nat} {flag : Str} {C : Fin 4 → List (Str × Int)} : partC K mask flag C 0 = C := rfl
theorem partC_four {K : Fin 4 → List Int} {mask : Nat} {flag : Str} {C : Fin 4 → List (Str × Int)} : partC K mask flag C 4 = updC K mask flag C := by
  funext j; unfold partC; rw [if_pos j.isLt]
theorem partC_at {K : Fin 4 → List Int} {mask : Nat} {flag : Str} {C : Fin 4 → List (Str × Int)} {i : Fin 4} : partC K mask flag C i.val i = C i := by
  unfold partC; rw [if_neg (Nat.lt_irrefl _)]
theorem partC_succ {K : Fin 4 → List Int} {mask : Nat} {flag : Str} {C : Fin 4 → List (Str × Int)} {i : Fin 4} : (fun j => if j = i then updC K mask flag C i else partC K mask flag C i.val j) = partC K mask flag C (i.val + 1) := by
  funext j
  unfold partC
  by_cases e : j = i
  · subst e; rw [if_pos rfl, if_pos (Nat.lt_succ_self _)]
  · rw [if_neg e]
    have : j.val ≠ i.val := fun q => e (Fin.ext q)
    by_cases h : j.val < i.val
    · rw [if_pos h, if_pos (Nat.lt_succ_of_lt h)]
    · rw [if_neg h, if_neg (by omega)]
end Mine
end
section
open PySem PySem.W PyProof.Rows PyProof.Rows.LCg
set_option maxRecDepth 100000
namespace Mine
section
variable {w : World} {A : Around} {s : Shared} {env : Env} {h₀ : Heap} {L : Addr} {target : Expr} {body orelse : List Stmt} {R : Result → Shared → Prop} {n : Nat} {cl : List Value} {mt : List Addr} {P : Nat → Value → Led → Prop} {SI : Nat → Led → Prop} {I : Addr} {m : Str → Option Value} {nx : Led}
theorem for_iterA (T : Iter w A target I n cl mt P SI) (Inv : Nat → (Str → Option Value) → Led → Prop)
    (stable : ∀ i m nx ny, Inv i m nx → KeepL cl nx ny → KeepA mt nx ny → Inv i m ny)
    (turn : ∀ i v m₁ ny h tk, i < n → P i v ny → SI (i + 1) ny → Inv i m₁ ny → Fr h₀ L h m₁ → News h₀ L h ny →
      wpAny (model PG w) A (assign target env v) (fun _ s₂ => wpAny (model PG w) A (execs body env) (ForPost h₀ L SI Inv (i + 1) s R) noE s₂) noE { s with heap := h, toks := tk })
    (done : ∀ m₁ ny h tk, Inv n m₁ ny → Fr h₀ L h m₁ → News h₀ L h ny → wpAny (model PG w) A (execs orelse env) (fun f s₃ => R (.ok f) s₃) noE { s with heap := h, toks := tk })
    (F : Fr h₀ L s.heap m) (N : News h₀ L s.heap nx) (hSI : SI 0 nx) (hI : Inv 0 m nx) : codeAny (model PG w) A (.forLoop target (.ref I) body orelse env) R s := by
  refine codeAny_forLoop_any
    (fun k s' => ∃ h' tk m' ny i, s' = { s with heap := h', toks := tk } ∧ Fr h₀ L h' m' ∧ News h₀ L h' ny ∧ SI i ny ∧ Inv i m' ny ∧ i ≤ n ∧ k = n + 1 - i) ?_ (n + 1)
    ⟨s.heap, s.toks, m, nx, 0, rfl, F, N, hSI, hI, Nat.zero_le _, rfl⟩
  rintro k s' ⟨h', tk, m', ny, i, rfl, F', N', hS', hI', hi, rfl⟩
  by_cases hlt : i < n
  · refine wpAny_mono (T.next i { s with heap := h', toks := tk } _ h₀ L m' ny (fun v s₁ => wpAny (model PG w) A (assign target env v) (fun _ s₂ => wpAny (model PG w) A (execs body env) (ForPost h₀ L SI Inv (i + 1) s R) noE s₂) noE s₁) hlt hS' F' N' fun v h₁ tk₁ nz hP hS₁ F₁ N₁ hK hKA => ?_) (fun r s₁ hr => ?_) fun _ _ e => e
    · exact turn i v m' nz h₁ tk₁ hlt hP hS₁ (stable _ _ _ _ hI' hK hKA) F₁ N₁
    · obtain ⟨v, rfl, hr⟩ := hr
      refine wpAny_mono hr (fun _ s₂ h₂ => wpAny_mono h₂ (fun _ s₃ h₃ => wpAny_mono h₃ (fun f s₄ h₄ => ?_) fun _ _ e => e.elim) fun _ _ e => e.elim) fun _ _ e => e
      cases f with
      | ret v => exact h₄
      | brk => exact h₄
      | next =>
        obtain ⟨h₅, tk₅, m₅, n₅, rfl, F₅, N₅, S₅, I₅⟩ := h₄
        exact ⟨n + 1 - (i + 1), by omega, h₅, tk₅, m₅, n₅, i + 1, rfl, F₅, N₅, S₅, I₅, hlt, rfl⟩
      | cont =>
        obtain ⟨h₅, tk₅, m₅, n₅, rfl, F₅, N₅, S₅, I₅⟩ := h₄
        exact ⟨n + 1 - (i + 1), by omega, h₅, tk₅, m₅, n₅, i + 1, rfl, F₅, N₅, S₅, I₅, hlt, rfl⟩
  · have hin : i = n := by omega
    subst hin
    refine wpAny_mono (T.done { s with heap := h', toks := tk } _ h₀ L m' ny (fun s₁ => wpAny (model PG w) A (execs orelse env) (fun f s₃ => R (.ok f) s₃) noE s₁) hS' F' N' fun h₁ tk₁ nz F₁ N₁ hK hKA => ?_) (fun r s₁ hr => ?_) fun _ _ e => e
    · exact done m' nz h₁ tk₁ (stable _ _ _ _ hI' hK hKA) F₁ N₁
    · obtain ⟨rfl, hr⟩ := hr
      exact wpAny_mono hr (fun _ _ x => x) fun _ _ e => e.elim
end
section
variable {w : World} {A : Around} {s : Shared} {env : Env} {h₀ : Heap} {L : Addr} {body orelse : List Stmt} {R : Result → Shared → Prop} {E : Value → Shared → Prop} {m : Str → Option Value} {nx : Led} {l : Addr} {vs : List Value} {nn : Nat}
noncomputable def InvO (temps : List Str) (m₀ : Str → Option Value) (fx : Led) (J : Nat → Led → Prop) (i : Nat) (m : Str → Option Value) (nx : Led) : Prop := Tmp temps m₀ m ∧ (∀ p ∈ fx, p ∈ nx) ∧ J i nx
theorem for_rangeO {target : Expr} {r : Addr} {a b : Int} {t u v : Tok} {n : Nat} (temps : List Str) (fx : Led) (J : Nat → Led → Prop) (hh : A.handled = none)
    (F : Fr h₀ L s.heap m) (N : News h₀ L s.heap nx) (hr : IsRange s.heap r a b 1 t u v) (hsmall : Builtin.Range.small a b 1 = true) (hn : Builtin.Range.rangeSize a b 1 = (n : Int)) (hfx : ∀ p ∈ fx, p ∈ nx) (hI : J 0 nx)
    (stable : ∀ i nx ny, J i nx → KeepL [.type "range_iterator"] nx ny → J i ny)
    (turn : ∀ I i t (u : Str → Option Value) ny h tk, i < n → SIRange I a n (i + 1) ny → (∀ p ∈ fx, p ∈ ny) → J i ny → Fr h₀ L h (fun z => if temps.contains z then u z else m z) → News h₀ L h ny →
      wpAny (model PG w) A (assign target env (.int (a + (i : Nat)) t)) (fun _ s₂ => wpAny (model PG w) A (execs body env) (ForPost h₀ L (SIRange I a n) (InvO temps m fx J) (i + 1) s R) noE s₂) noE { s with heap := h, toks := tk })
    (done : ∀ (u : Str → Option Value) ny h tk, (∀ p ∈ fx, p ∈ ny) → J n ny → Fr h₀ L h (fun z => if temps.contains z then u z else m z) → News h₀ L h ny → wpAny (model PG w) A (execs orelse env) (fun f s₃ => R (.ok f) s₃) noE { s with heap := h, toks := tk }) :
    wpAny (model PG w) A (pyIter (.ref r)) (fun it s₂ => codeAny (model PG w) A (.forLoop target it body orelse env) R s₂) E s := by
  refine wpAny_pyIter_range hr hsmall ?_
  rw [hn]
  obtain ⟨F', N'⟩ := push_new (o := { cls := .type "range_iterator", data := .fields #[rawInt a, rawInt (n : Int), rawInt 1] }) F N rfl
  have hne : ∀ p ∈ fx, p.1 ∉ [s.heap.objs.size] := fun p hp h => by
    have h1 := Heap.lt_size (N _ (hfx p hp)).1
    rw [List.mem_singleton.mp h] at h1
    exact absurd h1 (Nat.lt_irrefl _)
  refine for_iterA (iter_range (a := a) (n := n) hh) (InvO temps m fx J) (fun i m' nx ny h k ka => ⟨h.1, fun p hp => ka p (h.2.1 p hp) (hne p hp), stable _ _ _ h.2.2 k⟩) (fun i v m₁ ny h tk hi hP hS hI' F₁ N₁ => ?_)
    (fun m₁ ny h tk hI' F₁ N₁ => done m₁ ny h tk hI'.2.1 hI'.2.2 (hI'.1.fr F₁) N₁) F' N' ?_ ⟨Tmp.refl _ _, fun p hp => .tail _ (hfx p hp), stable _ _ _ hI fun p hp _ => .tail _ hp⟩
  · obtain ⟨t, rfl⟩ := hP
    exact turn _ i t m₁ ny h tk hi hS hI'.2.1 hI'.2.2 (hI'.1.fr F₁) N₁
  · unfold SIRange
    have e1 : a + ((0 : Nat) : Int) = a := by simp
    have e2 : (n : Int) - ((0 : Nat) : Int) = n := by simp
    rw [e1, e2]
    exact .head _
end
theorem SIRange.keep {I : Addr} {a : Int} {n i : Nat} {nx ny : Led} {cl : List Value} (h : SIRange I a n i nx) (hc : Value.type "range_iterator" ∉ cl) (k : KeepL cl nx ny) : SIRange I a n i ny := k _ h (.inl hc)
theorem data_ne {h₀ h : Heap} {L a d : Addr} {nx : Led} {o : Obj} (N : News h₀ L h nx) (hm : (a, o) ∈ nx) (hd : ∃ o es ep, (d, o) ∈ nx ∧ o.data = .dict es ep) (ho : ∀ es ep, o.data ≠ .dict es ep) : a ≠ d := by
  rintro rfl
  obtain ⟨o', es, ep, h1, h2⟩ := hd
  have e := News.agree N hm h1
  rw [← e] at h2
  exact ho _ _ h2
theorem SIRange.dset {h₀ h : Heap} {L I d : Addr} {a : Int} {n i : Nat} {nx ny : Led} (H : SIRange I a n i nx) (N : News h₀ L h nx) (hd : ∃ o es ep, (d, o) ∈ nx ∧ o.data = .dict es ep) (S : SetAt d nx ny) : SIRange I a n i ny :=
  S _ H (data_ne N H hd fun _ _ e => nomatch e)
theorem SIList.dset {h₀ h : Heap} {L I l d : Addr} {vs : List Value} {nn i : Nat} {nx ny : Led} (H : SIList I l vs nn i nx) (N : News h₀ L h nx) (hd : ∃ o es ep, (d, o) ∈ nx ∧ o.data = .dict es ep) (S : SetAt d nx ny) : SIList I l vs nn i ny :=
  let ⟨⟨o, h2, h3, h5⟩, h4⟩ := H
  ⟨⟨o, S _ h2 (data_ne N h2 hd fun _ _ e => by rw [h5] at e; cases e), h3, h5⟩, S _ h4 (data_ne N h4 hd fun _ _ e => nomatch e)⟩
noncomputable def rngE (I : Addr) (a : Int) (n i : Nat) : Addr × Obj := (I, { cls := .type "range_iterator", dict := none, data := .fields #[rawInt (a + (i : Nat)), rawInt ((n : Int) - (i : Nat)), rawInt 1], slots := #[] })
theorem SIRange.ent {I : Addr} {a : Int} {n i : Nat} {nx : Led} (h : SIRange I a n i nx) : ∀ p ∈ [rngE I a n i], p ∈ nx := fun p hp => by
  rw [List.mem_singleton.mp hp]; exact h
theorem SIRange.of {I : Addr} {a : Int} {n i : Nat} {nx : Led} (h : ∀ p ∈ [rngE I a n i], p ∈ nx) : SIRange I a n i nx := h _ (.head _)
theorem SIList.nm {I l : Addr} {vs : List Value} {nn i : Nat} {nx : Led} (_h : SIList I l vs nn i nx) : ∃ x y z, x = l ∧ y = vs ∧ z = nn := ⟨_, _, _, rfl, rfl, rfl⟩
theorem dict_method {w : World} {A : Around} {E : Value → Shared → Prop} {s : Shared} {h₀ : Heap} {L d : Addr} {news nx : Led} {c : List (Str × Int)} {pl : Sem Bool} {Q : Value × List Value → Shared → Prop} (N : News h₀ L s.heap nx) (H : DictL w news d c) (hs : ∀ p ∈ news, p ∈ nx) (h : Q (.builtin "dict.get", [.ref d]) s) : wpAny (model PG w) A (getMethod (.ref d) "get" pl) Q E s :=
  let ⟨_, _, _, hm, h2, _⟩ := H
  kdg_method N (hs _ hm) h2 h
/-- a contract with a premise on the caller's base -/
noncomputable def FunP (P : Heap → Prop) (w : World) (p : Program) (loose : List Str) (mean : ExcName → Option Value) (mg mb : Str → Option Value) (f : Addr) (vs : List Value) (news : Led) (D U : Nat) (Post : Value → Led → Prop) : Prop :=
  ∀ (dp un : Nat) (gd : Option (List Code)) (cn : Str) (cs : Scope) (a : Addr) (ccd : Value) (cl : List (Str × Addr)) (outer : List Env) (A₀ : Around) (base h₀ : Heap) (L : Addr) (m : Str → Option Value) (s : Shared) (Q E : Value → Shared → Prop),
    P h₀ → Below A₀ base outer h₀ → Fr h₀ L s.heap m → (KG w.params).In h₀ → News h₀ L s.heap news → Top p loose mean mg mb h₀ → cs.kind = .function →
    dp + D < recursionLimit → un + U < cLine →
    (∀ r nx h' tk', Fr h₀ L h' m → News h₀ L h' nx → Post r nx → Q r { s with heap := h', toks := tk' }) →
    wpAny (model PG w) (ktrTop dp un gd cn cs L a ccd cl outer) (PySem.call (.ref f) vs) Q E s
theorem FunP.use {P : Heap → Prop} {w : World} {p : Program} {loose : List Str} {mean : ExcName → Option Value} {mg mb : Str → Option Value} {f : Addr} {vs : List Value} {news : Led} {D U : Nat} {Post : Value → Led → Prop}
    {dp un : Nat} {gd : Option (List Code)} {cn : Str} {cs : Scope} {a : Addr} {ccd : Value} {cl : List (Str × Addr)} {outer : List Env} {A₀ : Around} {base h₀ : Heap} {L : Addr} {m : Str → Option Value} {s : Shared} {Q E : Value → Shared → Prop}
    (C : FunP P w p loose mean mg mb f vs news D U Post) (hP : P h₀)
    (B : Below A₀ base outer h₀) (F : Fr h₀ L s.heap m) (X : (KG w.params).In h₀) (N : News h₀ L s.heap news) (T : Top p loose mean mg mb h₀) (hk : cs.kind = .function)
    (hd : dp + D < recursionLimit) (hu : un + U < cLine)
    (ret : ∀ r nx h' tk', Fr h₀ L h' m → News h₀ L h' nx → Post r nx → Q r { s with heap := h', toks := tk' }) :
    wpAny (model PG w) (ktrTop dp un gd cn cs L a ccd cl outer) (PySem.call (.ref f) vs) Q E s :=
  C _ _ _ _ _ _ _ _ _ _ _ _ _ _ _ _ _ hP B F X N T hk hd hu ret
end Mine
end
section
open PySem PySem.W PyProof.Rows PyProof.Rows.LCg
set_option maxRecDepth 100000
namespace Mine
theorem strsAre_of : ∀ {ys : List Value} {f : Nat → Str}, (∀ (j : Nat) (y : Value), ys[j]? = some y → ∃ t, y = .str (f j) t) → StrsAre ys ((List.range ys.length).map f)
  | [], _, _ => .nil
  | y :: r, f, h => by
    obtain ⟨t, rfl⟩ := h 0 y rfl
    rw [List.length_cons, List.range_succ_eq_map, List.map_cons, List.map_map]
    exact .cons _ _ (strsAre_of (f := fun j => f (j + 1)) fun j y hy => h (j + 1) y (by simpa using hy))
theorem intsAre_of : ∀ {ys : List Value} {f : Nat → Int}, (∀ (j : Nat) (y : Value), ys[j]? = some y → ∃ t, y = .int (f j) t) → IntsAre ys ((List.range ys.length).map f)
  | [], _, _ => .nil
  | y :: r, f, h => by
    obtain ⟨t, rfl⟩ := h 0 y rfl
    rw [List.length_cons, List.range_succ_eq_map, List.map_cons, List.map_map]
    exact .cons _ _ (intsAre_of (f := fun j => f (j + 1)) fun j y hy => h (j + 1) y (by simpa using hy))
theorem readsAll_of_strs {h : Heap} : ∀ {vs : List Value} {ns : List Str}, StrsAre vs ns → ReadsAll h vs (ns.map PyData.str) []
  | _, _, .nil => .nil
  | _, _, .cons x t r => by
    have := ReadsAll.cons (Reads.str (h := h) x t) (readsAll_of_strs (h := h) r)
    simpa using this
theorem reads_of_strs {h : Heap} {a : Addr} {vs : List Value} {ns : List Str} (hl : h.IsList a vs.toArray) (hi : StrsAre vs ns) : Reads h (.ref a) (.list (ns.map PyData.str)) [a] := by
  obtain ⟨o, ho, hc, n, hd⟩ := hl
  exact Reads.list ho hc hd (by simpa using readsAll_of_strs hi)
theorem canLayAll0_strs : ∀ ns : List Str, ns.all PyData.strOk = true → PyData.canLayAll0 (ns.map PyData.str) = true
  | [], _ => by simp [PyData.canLayAll0]
  | n :: r, h => by
    rw [List.all_cons, Bool.and_eq_true] at h
    simp [PyData.canLayAll0, PyData.canLay0, canLayAll0_strs r h.2, h.1]
theorem depthAll_strs : ∀ ns : List Str, PyData.depthAll (ns.map PyData.str) ≤ 1
  | [] => by simp [PyData.depthAll]
  | n :: r => by
    have := depthAll_strs r
    simp only [List.map_cons, PyData.depthAll, PyData.depth]
    omega
theorem shaped_strs (ns : List Str) (hok : ns.all PyData.strOk = true) : SeqAt.shaped (.list (ns.map PyData.str)) = true := by
  have h1 := depthAll_strs ns
  have h2 : PyData.depth (.list (ns.map PyData.str)) ≤ 64 := by simp only [PyData.depth]; omega
  show (PyData.canLay0 (.list (ns.map PyData.str)) && decide (PyData.depth (.list (ns.map PyData.str)) ≤ 64)) = true
  rw [Bool.and_eq_true]
  exact ⟨by simp only [PyData.canLay0]; exact canLayAll0_strs ns hok, decide_eq_true h2⟩
theorem eqvAll_strs : ∀ ns : List Str, PyData.eqvAll (ns.map PyData.str) (ns.map PyData.str) = true
  | [] => by simp [PyData.eqvAll]
  | n :: r => by simp [PyData.eqvAll, PyData.eqv, eqvAll_strs r]
theorem ne_strs_same {w : World} {A : Around} {E : Value → Shared → Prop} {s : Shared} {h₀ : Heap} {L : Addr} {nx : Led} {Q : Value → Shared → Prop} {a b : Addr} {vs us : List Value} {k1 k2 : Nat} {ns : List Str} (N : News h₀ L s.heap nx)
    (m1 : (a, listOf vs.toArray k1) ∈ nx) (i1 : StrsAre vs ns) (m2 : (b, listOf us.toArray k2) ∈ nx) (i2 : StrsAre us ns) (hok : ns.all PyData.strOk = true) (hu : A.units + 64 < cLine)
    (h : Q (.bool false) s) : wpAny (model PG w) A (compareOp .NotEq (.ref a) (.ref b)) Q E s := by
  refine ne_dataH (reads_of_strs (PySem.IsL.isList (n := k1) (N _ m1).1) i1) (reads_of_strs (PySem.IsL.isList (n := k2) (N _ m2).1) i2) (shaped_strs ns hok) (shaped_strs ns hok) hu ?_
  have e : PyData.eqv (.list (ns.map PyData.str)) (.list (ns.map PyData.str)) = true := by
    simp only [PyData.eqv]; exact eqvAll_strs ns
  rw [e]; exact h
theorem ne_ints_same {w : World} {A : Around} {E : Value → Shared → Prop} {s : Shared} {h₀ : Heap} {L : Addr} {nx : Led} {Q : Value → Shared → Prop} {a b : Addr} {vs us : List Value} {k1 k2 : Nat} {ns : List Int} (N : News h₀ L s.heap nx)
    (m1 : (a, listOf vs.toArray k1) ∈ nx) (i1 : IntsAre vs ns) (m2 : (b, listOf us.toArray k2) ∈ nx) (i2 : IntsAre us ns) (hu : A.units + 64 < cLine)
    (h : Q (.bool false) s) : wpAny (model PG w) A (compareOp .NotEq (.ref a) (.ref b)) Q E s :=
  ne_same N ⟨_, _, m1, i1⟩ (fun _ h => h) ⟨_, _, m2, i2⟩ (fun _ h => h) hu h
end Mine
end
section
open PySem PySem.W PyProof.Rows PyProof.Rows.LCg
set_option maxRecDepth 100000
namespace Mine
section
variable {w : World} {A : Around} {s : Shared} {env : Env} {h₀ : Heap} {L : Addr} {body orelse : List Stmt} {R : Result → Shared → Prop} {E : Value → Shared → Prop} {m : Str → Option Value} {nx : Led}
/-- a loop over a range with one name followed; what is named in fx stays -/
theorem for_rangeVA {target : Expr} {r : Addr} {a b : Int} {t u v : Tok} {n : Nat} (temps : List Str) (y : Str) (fx : Led) (J : Nat → Value → Led → Prop) (hh : A.handled = none)
    (F : Fr h₀ L s.heap m) (N : News h₀ L s.heap nx) (hr : IsRange s.heap r a b 1 t u v) (hsmall : Builtin.Range.small a b 1 = true) (hn : Builtin.Range.rangeSize a b 1 = (n : Int)) (hfx : ∀ p ∈ fx, p ∈ nx) {v₀ : Value} (hy : m y = some v₀) (hI : J 0 v₀ nx)
    (stable : ∀ i v nx ny, J i v nx → KeepL [.type "range_iterator"] nx ny → (∀ p ∈ fx, p ∈ nx → p ∈ ny) → J i v ny)
    (turn : ∀ I i t v (u : Str → Option Value) ny h tk, i < n → SIRange I a n (i + 1) ny → J i v ny → Fr h₀ L h (fun z => if z = y then some v else if temps.contains z then u z else m z) → News h₀ L h ny →
      wpAny (model PG w) A (assign target env (.int (a + (i : Nat)) t)) (fun _ s₂ => wpAny (model PG w) A (execs body env) (ForPost h₀ L (SIRange I a n) (InvV temps y m J) (i + 1) s R) noE s₂) noE { s with heap := h, toks := tk })
    (done : ∀ v (u : Str → Option Value) ny h tk, J n v ny → Fr h₀ L h (fun z => if z = y then some v else if temps.contains z then u z else m z) → News h₀ L h ny → wpAny (model PG w) A (execs orelse env) (fun f s₃ => R (.ok f) s₃) noE { s with heap := h, toks := tk }) :
    wpAny (model PG w) A (pyIter (.ref r)) (fun it s₂ => codeAny (model PG w) A (.forLoop target it body orelse env) R s₂) E s := by
  refine wpAny_pyIter_range hr hsmall ?_
  rw [hn]
  obtain ⟨F', N'⟩ := push_new (o := { cls := .type "range_iterator", data := .fields #[rawInt a, rawInt (n : Int), rawInt 1] }) F N rfl
  have hne : ∀ p ∈ fx, p.1 ∉ [s.heap.objs.size] := fun p hp h => by
    have h1 := Heap.lt_size (N _ (hfx p hp)).1
    rw [List.mem_singleton.mp h] at h1
    exact absurd h1 (Nat.lt_irrefl _)
  refine for_iterA (iter_range (a := a) (n := n) hh) (InvV temps y m J) (fun i m' nx ny ⟨h1, v, h2, h3⟩ k ka => ⟨h1, v, h2, stable _ _ _ _ h3 k fun p hp hm => ka p hm (hne p hp)⟩) (fun i v m₁ ny h tk hi hP hS hI' F₁ N₁ => ?_)
    (fun m₁ ny h tk ⟨h1, v, h2, h3⟩ F₁ N₁ => done v m₁ ny h tk h3 (h1.frV h2 F₁) N₁) F' N' ?_ ⟨Tmp.refl _ _, v₀, hy, stable _ _ _ _ hI (fun p hp _ => .tail _ hp) fun p hp _ => .tail _ (hfx p hp)⟩
  · obtain ⟨t, rfl⟩ := hP
    obtain ⟨h1, v, h2, h3⟩ := hI'
    exact turn _ i t v m₁ ny h tk hi hS h3 (h1.frV h2 F₁) N₁
  · unfold SIRange
    have e1 : a + ((0 : Nat) : Int) = a := by simp
    have e2 : (n : Int) - ((0 : Nat) : Int) = n := by simp
    rw [e1, e2]
    exact .head _
end
end Mine
end
section
open PySem PySem.W PyProof.Rows PyProof.Rows.LCg
namespace Mine
set_option maxRecDepth 100000
set_option maxHeartbeats 1000000
variable (w : World) (p : Program) (loose : List Str) (mean : ExcName → Option Value) (mg mb : Str → Option Value)
local macro_rules | `(tactic| k_mem) => `(tactic| first | assumption | exact List.Mem.head _ | (refine List.mem_cons_of_mem _ ?_; k_mem) | (refine mem_grow (by assumption) ?_; k_mem))
local macro_rules | `(tactic| ktd_sub) => `(tactic| first | assumption | exact fun _ h => h | (refine sub_cons ?_; ktd_sub) | (refine sub_grow (by assumption) ?_; ktd_sub))
local macro_rules | `(tactic| ktn_ord) => `(tactic| first | assumption | exact Grow.refl _ | (refine Grow.cons ?_ (by ktn_lt); ktn_ord) | (refine Grow.trans ?_ (by assumption); ktn_ord))
local macro_rules | `(tactic| ktr_rel) => `(tactic| first | assumption | exact TrIn.leaf (by k_mem) | exact TrIn.node (by k_mem) (by ktr_rel) (by ktr_rel) | exact TrIn.mono (by assumption) (by ktd_sub))
local macro_rules | `(tactic| walk_at "compareOp Eq ref ref") => `(tactic| (k_here; (with_reducible show wpAny _ _ (compareOp CmpOp.Eq (Value.ref _) (Value.ref _)) _ _ _); k_dflt (refine' eq_leaf ?k1 ?k2 ?k3 ?k4 ?k5 ?k6 ?_; (case k1 => k_asm); (case k2 => assumption); (case k3 => assumption); (case k4 => ktd_sub); (case k5 => k_mem); (case k6 => ktr_units); k_whole); (try dsimp only [Tr.isLeaf])))
local macro_rules | `(tactic| walk_at "subscriptTail") => `(tactic| (k_here; (with_reducible show wpAny _ _ (subscriptTail _ _ (Value.ref _) (Value.int ((Fin.val _ : Nat) : Int) _)) _ _ _); k_dflt (refine' str_item ?k1 ?k2 ?k3 ?_ ?k4 ?k5; (case k1 => k_asm); (case k2 => assumption); (case k3 => ktd_sub); (case k4 => with_unfolding_all rfl); (case k5 => (intro _; with_unfolding_all rfl)); k_whole); intro _))
local macro_rules | `(tactic| walk_at "subscriptTail") => `(tactic| (k_here; (with_reducible show wpAny _ _ (subscriptTail _ _ (Value.ref _) (Value.int ((Fin.val _ : Nat) : Int) _)) _ _ _); k_dflt (refine' num_item ?k1 ?k2 ?k3 ?_ ?k4 ?k5; (case k1 => k_asm); (case k2 => assumption); (case k3 => ktd_sub); (case k4 => with_unfolding_all rfl); (case k5 => (intro _; with_unfolding_all rfl)); k_whole); intro _))
local macro_rules | `(tactic| walk_at "exec For") => `(tactic| (k_here; refine wpAny_For ?forE (by intro _; rfl)))
local macro_rules | `(tactic| walk_at "exec For Name Name") => `(tactic| (k_here; refine wpAny_For ?forE (by intro _; rfl)))
local macro_rules | `(tactic| walk_at "exec For Name Call") => `(tactic| (k_here; refine wpAny_For ?forE (by intro _; rfl)))
local macro_rules | `(tactic| walk_at "exec For Tuple Call") => `(tactic| (k_here; refine wpAny_For ?forE (by intro _; rfl)))
local macro_rules | `(tactic| walk_at "exec For Name Name cons nil") => `(tactic| (k_here; refine wpAny_For ?forE (by intro _; rfl)))
local macro_rules | `(tactic| walk_at "exec For Name Call cons nil") => `(tactic| (k_here; refine wpAny_For ?forE (by intro _; rfl)))
local macro_rules | `(tactic| walk_at "exec For Tuple Call cons nil") => `(tactic| (k_here; refine wpAny_For ?forE (by intro _; rfl)))
local macro_rules | `(tactic| walk_at "exec For Name Subscript") => `(tactic| (k_here; refine wpAny_For ?forE (by intro _; rfl)))
local macro_rules | `(tactic| walk_at "exec For Name Subscript cons nil") => `(tactic| (k_here; refine wpAny_For ?forE (by intro _; rfl)))
local macro_rules | `(tactic| walk_at "exec Assign cons ListComp") => `(tactic| (k_here; k_dflt (refine' assignComp ?k1 ?k2 ?k3 ?k4 ?_ ?k5; (case k1 => with_unfolding_all rfl); (case k2 => rfl); (case k3 => rfl); (case k4 => decide); (case k5 => (intro _; rfl)))))
local macro_rules | `(tactic| walk_at "eval ListComp") => `(tactic| (k_here; k_dflt (refine' evalComp ?k2 ?k3 ?k4 ?_ ?k5; (case k2 => rfl); (case k3 => rfl); (case k4 => decide); (case k5 => (intro _; rfl)))))
local macro_rules | `(tactic| walk_at "binaryOp Mult ref int") => `(tactic| (k_here; (with_reducible show wpAny _ _ (binaryOp Operator.Mult (Value.ref _) (Value.int 16 _)) _ _ _); k_dflt (refine' mul16 ?k1 ?k2 ?k3 ?_; (case k1 => k_asm); (case k2 => k_asm); (case k3 => k_mem)); intro h6 D6 o6 F6 N6 l6 I6))
theorem all_fun (oa ra la wa : Addr) (Lt : Fin 4 → Int) (W : Fin 4 → Str) (os : List (Fin 4 → Fin 4)) (news : Led) (row : Fin 4 → Fin 4) (hnf : NoFields news) (hG : NumsAt news la Lt) (hW : StrsAt news wa W)
   (hrow : TupAt news ra row) (hos : OrdersAt news oa os)
   (ok : ∀ o ∈ os, ∀ T K, okF (runH (gtF fun i => Lt (o i)) (ltF W) row T 4).1 0 = true ∧ (seenF (fun i => Lt (o i)) (runH (gtF fun i => Lt (o i)) (ltF W) row T 4).1 99999 0 K).1 = [0, 1, 2, 3]) :
    Fun w p loose mean mg mb 315 [.ref oa, .ref ra, .ref la, .ref wa] news 100 1000 (AllPost news (allF Lt W row os)) := by
    obtain ⟨ovs, on, hom, hol, hov⟩ := hos
    obtain ⟨rt0, rt1, rt2, rt3, rn, hrm⟩ := hrow
    unfold Fun
    intro dp un gd cn cs a ccd cl outer A₀ base h₀ L m s Q E B F X N T hk hd hu hret
    refine wpAny_call ?_
    k_dflt (refine' code_defC ?k1 ?k2 ?k3 ?k4 ?k5 ?kA ?kF ?kK ?k6 ?k7 ?k8 ?k9 ?kB ?kD ?_ ?c2 ?c3 ?c4; (case kA => exact rfl); (case kF => exact rfl); (case kK => assumption); (case k1 => k_asm); (case k2 => k_asm); (case k3 => k_asm); (case k4 => k_asm); (case k5 => k_asm); (case k6 => k_is); (case k7 => k_is); (case k8 => ktr_room); (case k9 => exact BindsTo.of_eq rfl); (case kB => exact rfl); (case kD => decide +kernel); (case c2 => exact rfl); (case c3 => exact rfl); (case c4 => exact rfl); k_whole)
    intro g' L' h' tk' cells' FG' F' N' Y' B' X' T' lL
    obtain ⟨oc, hE', d1'⟩ := CellsAre.one Y'
    subst hE'
    clear Y'
    simp only [List.cons_append, List.nil_append] at N'
    have hcell : oc.data = .cell (some (.ref la)) := d1'
    clear d1'
    (try dsimp only)
    (try k_fold)
    k_steps
    k_dflt (refine' kinds_comp ?hcell ?hkind ?hx ?hh ?F ?N ?hr ?hL ?hy ?hp ?elt ?fin; (case hcell => decide); (case hkind => rfl); (case hx => rfl); (case hh => rfl); (case F => k_asm); (case N => k_asm); (case hr => assumption); (case hL => rfl); (case hy => rfl); (case hp => rfl))
    (case elt =>
      intro C ny h tk F1 N1
      k_steps
      rename IntsL _ _ _ => I6
      rename (∀ p ∈ (_ :: ny), p.1 < _) => l6
      exact ⟨_, _, _, _, rfl, rfl, by k_asm, by k_asm, fun p hp => ⟨.tail _ (.tail _ hp), l6 p (.tail _ hp)⟩, I6⟩)
    intro ka kk h2 tk2 ny hK hkk hka sub F2 N2
    k_steps
    rename (∀ p ∈ ny, p.1 < _) => lta
    rename News _ _ _ ((_, _) :: ny) => N3
    obtain ⟨ta, hta⟩ := News.nm N3
    subst hta
    have hnew : ∀ p ∈ ((L' + 1, oc) :: news : Led), p ∈ ny := sub
    have kt : ∀ i, kk i ≠ ta := fun i => by
      obtain ⟨o, ho⟩ := (hK.inner i).1.fst
      exact Nat.ne_of_lt (lta _ ho)
    have kat : ka ≠ ta := by
      obtain ⟨n, hn⟩ := hK.outer
      exact Nat.ne_of_lt (lta _ hn)
    have nta : ∀ p ∈ ((L' + 1, oc) :: news : Led), p.1 ≠ ta := fun p hp => Nat.ne_of_lt (lta _ (sub p hp))
    have hnf2 : NoFields ((L' + 1, oc) :: news) := fun p hp vs e => by
      rcases List.mem_cons.mp hp with rfl | hp
      · rw [hcell] at e; cases e
      · exact hnf p hp vs e
    k_dflt (refine' for_listT [Str.ofString "order", Str.ofString "given", Str.ofString "tree", Str.ofString "hour", Str.ofString "key", Str.ofString "turns"] (fun i nx => Kinds nx ka kk ((os.take i).foldl (stO Lt W row) (fun _ => List.replicate 16 0, [0, 0, 0, 0])).1 ∧ IntsL nx ta ((os.take i).foldl (stO Lt W row) (fun _ => List.replicate 16 0, [0, 0, 0, 0])).2 ∧ ∀ p ∈ ((L' + 1, oc) :: news : Led), p ∈ nx) ?hh ?F N3 ?hm ?hI ?stable ?turn ?done; (case hh => rfl); (case F => k_asm); (case hm => exact List.Mem.tail _ (sub _ (List.Mem.tail _ hom))))
    (case hI => exact ⟨hK.mono fun p hp => .tail _ hp, ⟨_, _, .head _, .cons _ _ (.cons _ _ (.cons _ _ (.cons _ _ .nil)))⟩, fun p hp => .tail _ (sub p hp)⟩)
    (case stable => exact fun i nx ny ⟨h1, h2, h3⟩ k => ⟨h1.keep k, h2.keep k, hnf2.keep h3 k⟩)
    (case done =>
      intro u nz h4 tk4 hJ F4 N4
      rw [hol, List.take_length] at hJ
      obtain ⟨J1, J2, J3⟩ := hJ
      k_steps
      exact hret _ _ _ _ (by k_asm) (by k_asm) ⟨⟨_, ka, ta, _, kk, rfl, .head _, J1.mono fun p hp => .tail _ hp, J2.mono fun p hp => .tail _ hp, fun p hp => .tail _ (J3 p (.tail _ hp))⟩⟩)
    intro I i v u nz h4 tk4 hv hS hJ F4 N4
    obtain ⟨b, o, rfl, hoi, hb⟩ := hov i v hv
    obtain ⟨J1, J2, J3⟩ := hJ
    obtain ⟨bt0, bt1, bt2, bt3, bn, hbm⟩ := hb
    k_steps
    k_dflt (refine' comp_tup_assign_pure (fun j y => ∃ (hj : j < 4) (t : Tok), y = .int (Lt (o ⟨j, hj⟩)) t) ?qhcell ?qhsz ?qhkind ?qhx ?qhh ?qF ?qN ?qhm ?qturn ?qhL ?qhy ?qhp ?qfin; (case qhcell => decide); (case qhkind => rfl); (case qhx => rfl); (case qhh => rfl); (case qF => k_asm); (case qN => k_asm); (case qhm => exact J3 _ (.tail _ hbm)); (case qhL => rfl); (case qhy => rfl); (case qhp => rfl); (case qhsz => (rw [sizeLine_eq]; simp only [List.length_cons, List.length_nil]; omega)))
    (case qturn =>
      intro C j v n5 oC m₂ h5 tk5 hj hC hNs hx F5 N5 sub5
      obtain ⟨hj4, t5, rfl⟩ := tup4_get hj
      have hcm := sub5 _ (J3 _ (.head _))
      have hGm : NumsAt n5 la Lt := hG.mono fun p hp => sub5 _ (J3 _ (.tail _ hp))
      k_steps
      exact ⟨_, _, _, rfl, by k_asm, by k_asm, fun _ h => h, hj4, _, rfl⟩)
    intro da ys h5 tk5 n5 hyl hY hD sub5 F5 N5
    have hG5 : NumsAt n5 da (fun i => Lt (o i)) := nums_of hyl hY hD
    k_steps
    have dta : da ≠ ta := fun e => by
      obtain ⟨x, hx⟩ := J2.fst
      exact (sub5 _ hx).2 e.symm
    have dkk : ∀ i, da ≠ kk i := fun i e => by
      obtain ⟨x, hx⟩ := (J1.inner i).1.fst
      exact (sub5 _ hx).2 e.symm
    have hT0 : ((os.take i).foldl (stO Lt W row) (fun _ => List.replicate 16 0, [0, 0, 0, 0])).2.length = 4 := allF_len _ _ _ _ _
    generalize hst : (os.take i).foldl (stO Lt W row) (fun _ => List.replicate 16 0, [0, 0, 0, 0]) = st at J1 J2 hT0
    have hst2 : (os.take (i + 1)).foldl (stO Lt W row) (fun _ => List.replicate 16 0, [0, 0, 0, 0]) = stO Lt W row st o := by
      rw [List.take_add_one, hoi, List.foldl_append, hst]; rfl
    k_dflt (refine' for_enumTV [Str.ofString "hour", Str.ofString "key", Str.ofString "turns", Str.ofString "tree"] (Str.ofString "tree") (fun j v nx => TrIn nx v (runH (gtF fun i => Lt (o i)) (ltF W) row st.2 j).1 ∧ IntsL nx ta (runH (gtF fun i => Lt (o i)) (ltF W) row st.2 j).2 ∧ Kinds nx ka kk st.1 ∧ NumsAt nx da (fun i => Lt (o i)) ∧ (∀ p ∈ ((L' + 1, oc) :: news : Led), p ∈ nx) ∧ SIList I oa ovs on (i + 1) nx) ?ehh ?eF ?eN ?ehm ?ehy ?ehI ?eturn ?edone ?estab; (case ehh => rfl); (case eF => k_asm); (case eN => k_asm); (case ehm => exact .tail _ (sub5 _ (J3 _ (.tail _ hrm))).1); (case ehy => exact rfl))
    (case ehI => exact ⟨.leaf (.head _), (J2.mono fun p hp => (sub5 p hp).1).mono fun p hp => .tail _ hp, (J1.mono fun p hp => (sub5 p hp).1).mono fun p hp => .tail _ hp, hG5.mono fun p hp => .tail _ hp, fun p hp => .tail _ (sub5 p (J3 p hp)).1, (hS.mono fun p hp => (sub5 p hp).1).mono fun p hp => .tail _ hp⟩)
    (case estab => exact fun j v nx ny ⟨h1, h2, h3, h4, h5, h6⟩ k => ⟨h1.keep k, h2.keep k, h3.keep k, h4.keep k, hnf2.keep h5 k, h6.keep (by simp) k⟩)
    (case eturn =>
      intro e it j T x t n v u n6 h6 tk6 hx hTm hSE ⟨I1, I2, I3, I4, I5, I6⟩ F6 N6
      obtain ⟨hj4, t6, rfl⟩ := tup4_get hx
      have hW6 : StrsAt n6 wa W := hW.mono fun p hp => I5 p (.tail _ hp)
      have hsz6 : (runH (gtF fun i => Lt (o i)) (ltF W) row st.2 j).1.size ≤ 4 := Nat.le_trans (runH_size _ _ _ _ _) (by omega)
      have hlen6 := runH_len (gtF fun i => Lt (o i)) (ltF W) row st.2 j
      rw [hT0] at hlen6
      k_steps
      k_dflt (refine' Fun.use ?pk1 ?pk2 ?pk3 ?pk4 ?pk5 ?pk6 (put_fun w p loose mean mg mb da wa (fun i => Lt (o i)) W (row ⟨j, hj4⟩) _ ?psz _ _ _ (I1.mono ?ps1) (I4.mono ?ps2) (hW6.mono ?ps3)) ?pkd ?pku ?_; (case pk1 => k_asm); (case pk2 => k_asm); (case pk3 => k_asm); (case pk4 => k_asm); (case pk5 => k_asm); (case pk6 => first | exact rfl | assumption); (case ps1 => ktd_sub); (case ps2 => ktd_sub); (case ps3 => ktd_sub); (case psz => omega); (case pkd => ktr_room); (case pku => ktr_units))
      intro r9 nx9 h9 tk9 F9 N9 P9
      obtain ⟨ra9, a9, n9, m9, lv9, rv9, tk9', tk9'', hg9, f9, hra9, ha9, hl9, hr9⟩ := P9.out
      subst f9
      (try dsimp only)
      k_steps
      k_dflt (refine' intsL_get ?gk1 I2 ?gk3 (Int.natCast_nonneg _) (by rw [hlen6]; exact Int.ofNat_lt.mpr hj4) (by omega) ?_; (case gk1 => k_asm); (case gk3 => ktd_sub))
      intro t10
      k_steps
      k_dflt (refine' intsL_set ?jk1 ?jk2 I2 ?jk3 (Int.natCast_nonneg _) (by rw [hlen6]; exact Int.ofNat_lt.mpr hj4) (by omega) ?_; (case jk1 => k_asm); (case jk2 => k_asm); (case jk3 => ktd_sub))
      intro h10 n10 F10 N10 S10 hd10 I10
      obtain ⟨its10, m10, hd10⟩ := hd10
      k_steps
      rename News g' L' _ nx9 => N9'
      have hsub : ∀ p ∈ ((L' + 1, oc) :: news : Led), p ∈ n10 := fun p hp => S10 p (hg9.1 p (I5 p hp)) (nta p hp)
      refine ⟨_, _, _, _, rfl, F10, N10, SIEnumT.set (SIEnum.mono hSE hg9.1) N9' hd10 S10, ⟨?tmp, _, rfl, ?J⟩⟩
      (case tmp => repeat (first | exact Tmp.mid | refine Tmp.step ?_ (by decide +kernel)))
      (case J =>
        (try dsimp only)
        rw [runH_succ hj4]
        exact ⟨.node (set_other N9' ha9 hd10 (by simp) S10) (hl9.set N9' hd10 S10) (hr9.set N9' hd10 S10), I10, (I3.mono hg9.1).setO kt kat S10, (I4.mono hg9.1).set dta S10, hsub, (I6.mono hg9.1).set N9' hd10 (nta _ (.tail _ hom)) S10⟩))
    (case edone =>
      intro v u n7 h7 tk7 ⟨I1, I2, I3, I4, I5, I6⟩ F7 N7
      have I6f : ∀ nz, (∀ p ∈ n7, (∀ i, p.1 ≠ kk i) → p ∈ nz) → SIList I oa ovs on (i + 1) nz := fun nz fr => I6.frame N7 I3 (fun i => hkk i _ (.tail _ hom)) fr
      have hoo : o ∈ os := List.mem_of_getElem? hoi
      obtain ⟨ok1, ok2⟩ := ok o hoo st.2 st.1
      have hsz7 : (runH (gtF fun i => Lt (o i)) (ltF W) row st.2 4).1.size ≤ 4 := runH_size _ _ _ _ _
      k_steps
      k_dflt (refine' Fun.use ?sk1 ?sk2 ?sk3 ?sk4 ?sk5 ?sk6 (Fun.cast rfl (seen_fun w p loose mean mg mb da ka kk (fun i => Lt (o i)) dkk _ ?ssz _ _ 99999 0 _ _ _ ok1 (by decide) (I1.mono ?ss1) (I4.mono ?ss2) (I3.mono ?ss3))) ?skd ?sku ?_; (case sk1 => k_asm); (case sk2 => k_asm); (case sk3 => k_asm); (case sk4 => k_asm); (case sk5 => k_asm); (case sk6 => first | exact rfl | assumption); (case ss1 => ktd_sub); (case ss2 => ktd_sub); (case ss3 => ktd_sub); (case ssz => omega); (case skd => ktr_room); (case sku => ktr_units))
      intro r8 nx8 h8 tk8 F8 N8 P8
      obtain ⟨ra8, f8, J8, K8, fr8⟩ := P8.out
      subst f8
      rw [ok2] at J8
      (try dsimp only)
      k_steps
      rename News g' L' _ ((_, _) :: nx8) => N9'
      have H9 := ints4 N9'
      k_dflt (refine' ne_same ?ck1 J8 ?ck2 H9 ?ck3 ?ck4 ?_; (case ck1 => k_asm); (case ck2 => ktd_sub); (case ck3 => exact fun _ h => h); (case ck4 => ktr_units))
      k_steps
      have hsub : ∀ p ∈ ((L' + 1, oc) :: news : Led), p ∈ nx8 := fun p hp => fr8 p (I5 p hp) fun i => hkk i p hp
      refine ⟨_, _, _, _, rfl, by k_asm, N9', ((I6f _ fr8).mono fun p hp => .tail _ hp), ⟨?tmp, ?J⟩⟩
      (case tmp => repeat (first | exact Tmp.mid | refine Tmp.step ?_ (by decide +kernel) | refine Tmp.inn ?_ (by decide +kernel)))
      (case J =>
        (try dsimp only)
        rw [hst2]
        exact ⟨K8.mono fun p hp => .tail _ hp, (I2.frame (fun i => (kt i).symm) fr8).mono fun p hp => .tail _ hp, fun p hp => .tail _ (hsub p hp)⟩))
end Mine
end
section
open PySem PySem.W PyProof.Rows PyProof.Rows.LCg
namespace Mine
set_option maxRecDepth 100000
set_option maxHeartbeats 1000000
variable (w : World) (p : Program) (loose : List Str) (mean : ExcName → Option Value) (mg mb : Str → Option Value)
local macro_rules | `(tactic| k_mem) => `(tactic| first | assumption | exact List.Mem.head _ | (refine List.mem_cons_of_mem _ ?_; k_mem) | (refine mem_grow (by assumption) ?_; k_mem))
local macro_rules | `(tactic| ktd_sub) => `(tactic| first | assumption | exact fun _ h => h | (refine sub_cons ?_; ktd_sub) | (refine sub_grow (by assumption) ?_; ktd_sub))
local macro_rules | `(tactic| ktn_ord) => `(tactic| first | assumption | exact Grow.refl _ | (refine Grow.cons ?_ (by ktn_lt); ktn_ord) | (refine Grow.trans ?_ (by assumption); ktn_ord))
local macro_rules | `(tactic| ktr_rel) => `(tactic| first | assumption | exact TrIn.leaf (by k_mem) | exact TrIn.node (by k_mem) (by ktr_rel) (by ktr_rel) | exact TrIn.mono (by assumption) (by ktd_sub))
local macro_rules | `(tactic| walk_at "compareOp Eq ref ref") => `(tactic| (k_here; (with_reducible show wpAny _ _ (compareOp CmpOp.Eq (Value.ref _) (Value.ref _)) _ _ _); k_dflt (refine' eq_leaf ?k1 ?k2 ?k3 ?k4 ?k5 ?k6 ?_; (case k1 => k_asm); (case k2 => assumption); (case k3 => assumption); (case k4 => ktd_sub); (case k5 => k_mem); (case k6 => ktr_units); k_whole); (try dsimp only [Tr.isLeaf])))
local macro_rules | `(tactic| walk_at "subscriptTail") => `(tactic| (k_here; (with_reducible show wpAny _ _ (subscriptTail _ _ (Value.ref _) (Value.int ((Fin.val _ : Nat) : Int) _)) _ _ _); k_dflt (refine' str_item ?k1 ?k2 ?k3 ?_ ?k4 ?k5; (case k1 => k_asm); (case k2 => assumption); (case k3 => ktd_sub); (case k4 => with_unfolding_all rfl); (case k5 => (intro _; with_unfolding_all rfl)); k_whole); intro _))
local macro_rules | `(tactic| walk_at "subscriptTail") => `(tactic| (k_here; (with_reducible show wpAny _ _ (subscriptTail _ _ (Value.ref _) (Value.int ((Fin.val _ : Nat) : Int) _)) _ _ _); k_dflt (refine' num_item ?k1 ?k2 ?k3 ?_ ?k4 ?k5; (case k1 => k_asm); (case k2 => assumption); (case k3 => ktd_sub); (case k4 => with_unfolding_all rfl); (case k5 => (intro _; with_unfolding_all rfl)); k_whole); intro _))
local macro_rules | `(tactic| walk_at "exec For") => `(tactic| (k_here; refine wpAny_For ?forE (by intro _; rfl)))
local macro_rules | `(tactic| walk_at "exec For Name Name") => `(tactic| (k_here; refine wpAny_For ?forE (by intro _; rfl)))
local macro_rules | `(tactic| walk_at "exec For Name Call") => `(tactic| (k_here; refine wpAny_For ?forE (by intro _; rfl)))
local macro_rules | `(tactic| walk_at "exec For Tuple Call") => `(tactic| (k_here; refine wpAny_For ?forE (by intro _; rfl)))
local macro_rules | `(tactic| walk_at "exec For Name Name cons nil") => `(tactic| (k_here; refine wpAny_For ?forE (by intro _; rfl)))
local macro_rules | `(tactic| walk_at "exec For Name Call cons nil") => `(tactic| (k_here; refine wpAny_For ?forE (by intro _; rfl)))
local macro_rules | `(tactic| walk_at "exec For Tuple Call cons nil") => `(tactic| (k_here; refine wpAny_For ?forE (by intro _; rfl)))
local macro_rules | `(tactic| walk_at "exec For Name Subscript") => `(tactic| (k_here; refine wpAny_For ?forE (by intro _; rfl)))
local macro_rules | `(tactic| walk_at "exec For Name Subscript cons nil") => `(tactic| (k_here; refine wpAny_For ?forE (by intro _; rfl)))
local macro_rules | `(tactic| walk_at "exec Assign cons ListComp") => `(tactic| (k_here; k_dflt (refine' assignComp ?k1 ?k2 ?k3 ?k4 ?_ ?k5; (case k1 => with_unfolding_all rfl); (case k2 => rfl); (case k3 => rfl); (case k4 => decide); (case k5 => (intro _; rfl)))))
local macro_rules | `(tactic| walk_at "eval ListComp") => `(tactic| (k_here; k_dflt (refine' evalComp ?k2 ?k3 ?k4 ?_ ?k5; (case k2 => rfl); (case k3 => rfl); (case k4 => decide); (case k5 => (intro _; rfl)))))
local macro_rules | `(tactic| walk_at "binaryOp Mult ref int") => `(tactic| (k_here; (with_reducible show wpAny _ _ (binaryOp Operator.Mult (Value.ref _) (Value.int 16 _)) _ _ _); k_dflt (refine' mul16 ?k1 ?k2 ?k3 ?_; (case k1 => k_asm); (case k2 => k_asm); (case k3 => k_mem)); intro h6 D6 o6 F6 N6 l6 I6))
structure DrawnPost (news : Led) (r : Value) (nx : Led) : Prop where
  out : ∃ (D : Addr) (d : List Int), r = .ref D ∧ IntsL nx D d ∧ d.length = 6 ∧ (∀ p ∈ news, p ∈ nx)
theorem ints_at {vs : List Value} {ns : List Int} (h : IntsAre vs ns) {i : Nat} {x : Value} (hx : vs[i]? = some x) : ∃ k t, x = .int k t := by
  induction h generalizing i with
  | nil => cases hx
  | cons k t _ ih =>
    cases i with
    | zero => cases hx; exact ⟨_, _, rfl⟩
    | succ i => exact ih (by simpa using hx)
noncomputable def DrawnI (news : Led) (l : Addr) (nx : Led) : Prop := ∃ d, d.length = 6 ∧ IntsL nx l d ∧ (∀ p ∈ news, p ∈ nx)
theorem KeepL.base {cl : List Value} {news nx ny : Led} (hnf : NoFields news) (h : ∀ p ∈ news, p ∈ nx) (k : KeepL cl nx ny) : ∀ p ∈ news, p ∈ ny := hnf.keep h k
theorem drawn_fun (sa : Addr) (news : Led) (svs : List Value) (ns : List Int) (hsi : IntsAre svs ns) (hl : ns.length ≤ 63) (hnf : NoFields news) :
    FunP (fun h => h.IsList sa svs.toArray) w p loose mean mg mb 261 [.ref sa] news 20 400 (DrawnPost news) := by
    unfold FunP
    intro dp un gd cn cs a ccd cl outer A₀ base h₀ L m s Q E hb B F X N T hk hd hu hret
    refine wpAny_call ?_
    k_dflt ktr_enter
    rename Fr h₀ L _ m => FGx
    have hbg := Fr.lst FGx hb
    k_steps
    rename IntsAre _ (List.take 24 ns) => hT
    rename News _ _ _ ((_, listOf (List.toArray _) _) :: (_, _) :: news) => N1
    obtain ⟨D1, hD1⟩ := News.nm N1
    subst hD1
    obtain ⟨l1, hl1⟩ := News.nm2 N1
    subst hl1
    have lnews : ∀ p ∈ news, p.1 < l1 := by assumption
    have hDl : D1 ≠ l1 := by
      rename (l1 < D1 ∧ _) => q
      exact Nat.ne_of_gt q.1
    k_dflt (refine' for_enumLT [Str.ofString "turn", Str.ofString "number"] (fun i nx => DrawnI news l1 nx) ?hh ?F N1 (.head _) ?hI ?turn ?done ?stab; (case hh => rfl); (case F => k_asm))
    (case hI => exact ⟨_, by rfl, ⟨_, _, .tail _ (.head _), .cons _ _ (.cons _ _ (.cons _ _ (.cons _ _ (.cons _ _ (.cons _ _ .nil)))))⟩, fun p hp => .tail _ (.tail _ hp)⟩)
    (case stab => exact fun i nx ny ⟨d, h1, h2, h3⟩ k => ⟨d, h1, h2.keep k, hnf.keep h3 k⟩)
    (case done =>
      intro u ny h tk ⟨d, h1, h2, h3⟩ F4 N4
      k_steps
      exact hret _ _ _ _ (by k_asm) (by k_asm) ⟨⟨_, d, rfl, h2, h1, h3⟩⟩)
    (case turn =>
      intro e it i T x t n u ny h tk hx hTm hSE ⟨d, h1, h2, h3⟩ F4 N4
      obtain ⟨k5, t5, rfl⟩ := ints_at hT hx
      k_steps
      have e0 : 0 ≤ Int.fmod (i : Int) 6 := Int.fmod_nonneg (Int.natCast_nonneg i) (by decide)
      have e6 : Int.fmod (i : Int) 6 < 6 := Int.fmod_lt_of_pos _ (by decide)
      have e1 : Int.fmod (i : Int) 6 < (d.length : Int) := by rw [h1]; exact e6
      have e2 : Int.fmod (i : Int) 6 < 2 ^ 63 := by omega
      k_dflt (refine' intsL_get ?gk1 h2 ?gk3 e0 e1 e2 ?_; (case gk1 => k_asm); (case gk3 => ktd_sub))
      intro t10
      k_steps
      k_dflt (refine' intsL_set ?jk1 ?jk2 h2 ?jk3 e0 e1 e2 ?_; (case jk1 => k_asm); (case jk2 => k_asm); (case jk3 => ktd_sub))
      intro h10 n10 F10 N10 S10 hd10 I10
      obtain ⟨its10, m10, hd10⟩ := hd10
      k_steps
      rename News _ _ _ ny => N9'
      refine ⟨_, _, _, _, rfl, F10, N10, SIEnumL.set hSE N9' hd10 ?ne S10, ⟨?tmp, ⟨_, ?len, I10, ?sub⟩⟩⟩
      (case tmp => repeat (first | exact Tmp.mid | refine Tmp.step ?_ (by decide +kernel)))
      (case len => rw [List.length_set]; exact h1)
      (case sub => exact fun p hp => S10 p (h3 p hp) (Nat.ne_of_lt (lnews p hp)))
      (case ne => exact hDl))
end Mine
end
section
open PySem PySem.W PyProof.Rows PyProof.Rows.LCg
namespace Mine
set_option maxRecDepth 100000
set_option maxHeartbeats 1000000
variable (w : World) (p : Program) (loose : List Str) (mean : ExcName → Option Value) (mg mb : Str → Option Value)
local macro_rules | `(tactic| k_mem) => `(tactic| first | assumption | exact List.Mem.head _ | (refine List.mem_cons_of_mem _ ?_; k_mem) | (refine mem_grow (by assumption) ?_; k_mem))
local macro_rules | `(tactic| ktd_sub) => `(tactic| first | assumption | exact fun _ h => h | (refine sub_cons ?_; ktd_sub) | (refine sub_grow (by assumption) ?_; ktd_sub))
local macro_rules | `(tactic| ktn_ord) => `(tactic| first | assumption | exact Grow.refl _ | (refine Grow.cons ?_ (by ktn_lt); ktn_ord) | (refine Grow.trans ?_ (by assumption); ktn_ord))
local macro_rules | `(tactic| ktr_rel) => `(tactic| first | assumption | exact TrIn.leaf (by k_mem) | exact TrIn.node (by k_mem) (by ktr_rel) (by ktr_rel) | exact TrIn.mono (by assumption) (by ktd_sub))
local macro_rules | `(tactic| walk_at "compareOp Eq ref ref") => `(tactic| (k_here; (with_reducible show wpAny _ _ (compareOp CmpOp.Eq (Value.ref _) (Value.ref _)) _ _ _); k_dflt (refine' eq_leaf ?k1 ?k2 ?k3 ?k4 ?k5 ?k6 ?_; (case k1 => k_asm); (case k2 => assumption); (case k3 => assumption); (case k4 => ktd_sub); (case k5 => k_mem); (case k6 => ktr_units); k_whole); (try dsimp only [Tr.isLeaf])))
local macro_rules | `(tactic| walk_at "subscriptTail") => `(tactic| (k_here; (with_reducible show wpAny _ _ (subscriptTail _ _ (Value.ref _) (Value.int ((Fin.val _ : Nat) : Int) _)) _ _ _); k_dflt (refine' str_item ?k1 ?k2 ?k3 ?_ ?k4 ?k5; (case k1 => k_asm); (case k2 => assumption); (case k3 => ktd_sub); (case k4 => with_unfolding_all rfl); (case k5 => (intro _; with_unfolding_all rfl)); k_whole); intro _))
local macro_rules | `(tactic| walk_at "subscriptTail") => `(tactic| (k_here; (with_reducible show wpAny _ _ (subscriptTail _ _ (Value.ref _) (Value.int ((Fin.val _ : Nat) : Int) _)) _ _ _); k_dflt (refine' num_item ?k1 ?k2 ?k3 ?_ ?k4 ?k5; (case k1 => k_asm); (case k2 => assumption); (case k3 => ktd_sub); (case k4 => with_unfolding_all rfl); (case k5 => (intro _; with_unfolding_all rfl)); k_whole); intro _))
local macro_rules | `(tactic| walk_at "exec For") => `(tactic| (k_here; refine wpAny_For ?forE (by intro _; rfl)))
local macro_rules | `(tactic| walk_at "exec For Name Name") => `(tactic| (k_here; refine wpAny_For ?forE (by intro _; rfl)))
local macro_rules | `(tactic| walk_at "exec For Name Call") => `(tactic| (k_here; refine wpAny_For ?forE (by intro _; rfl)))
local macro_rules | `(tactic| walk_at "exec For Tuple Call") => `(tactic| (k_here; refine wpAny_For ?forE (by intro _; rfl)))
local macro_rules | `(tactic| walk_at "exec For Name Name cons nil") => `(tactic| (k_here; refine wpAny_For ?forE (by intro _; rfl)))
local macro_rules | `(tactic| walk_at "exec For Name Call cons nil") => `(tactic| (k_here; refine wpAny_For ?forE (by intro _; rfl)))
local macro_rules | `(tactic| walk_at "exec For Tuple Call cons nil") => `(tactic| (k_here; refine wpAny_For ?forE (by intro _; rfl)))
local macro_rules | `(tactic| walk_at "exec For Name Subscript") => `(tactic| (k_here; refine wpAny_For ?forE (by intro _; rfl)))
local macro_rules | `(tactic| walk_at "exec For Name Subscript cons nil") => `(tactic| (k_here; refine wpAny_For ?forE (by intro _; rfl)))
local macro_rules | `(tactic| walk_at "exec Assign cons ListComp") => `(tactic| (k_here; k_dflt (refine' assignComp ?k1 ?k2 ?k3 ?k4 ?_ ?k5; (case k1 => with_unfolding_all rfl); (case k2 => rfl); (case k3 => rfl); (case k4 => decide); (case k5 => (intro _; rfl)))))
local macro_rules | `(tactic| walk_at "eval ListComp") => `(tactic| (k_here; k_dflt (refine' evalComp ?k2 ?k3 ?k4 ?_ ?k5; (case k2 => rfl); (case k3 => rfl); (case k4 => decide); (case k5 => (intro _; rfl)))))
local macro_rules | `(tactic| walk_at "binaryOp Mult ref int") => `(tactic| (k_here; (with_reducible show wpAny _ _ (binaryOp Operator.Mult (Value.ref _) (Value.int 16 _)) _ _ _); k_dflt (refine' mul16 ?k1 ?k2 ?k3 ?_; (case k1 => k_asm); (case k2 => k_asm); (case k3 => k_mem)); intro h6 D6 o6 F6 N6 l6 I6))
noncomputable def appB (x y z : Str) : Bool :=
  if (y == Str.ofString "euro") = true then
    if (Builtin.Str.occurrences x (Str.ofString ".") 0 x.length 1).isEmpty = true then z == x ++ Str.ofString ".ISO8859-15"
    else z == x && [Str.ofString "ISO8859-15", Str.ofString "UTF-8"].any fun q => q == (Txt.partition x (Str.ofString ".")).2.2
  else z == x ++ Str.ofString "@" ++ y
theorem app_fun (news : Led) (x y z : Str) (hx : x.length ≤ 30) (hy : y.length ≤ 30) (hz : appB x y z = true) (t u : Tok) :
    Fun w p loose mean mg mb 64 [.str x t, .str y u] news 10 100 (StrPost news z) := by
    unfold Fun
    intro dp un gd cn cs a ccd cl outer A₀ base h₀ L m s Q E B F X N T hk hd hu hret
    refine wpAny_call ?_
    k_dflt ktr_enter
    k_steps
    all_goals unfold appB at hz
    · rw [if_pos (by assumption), if_pos (by assumption)] at hz
      obtain rfl := eq_of_beq hz
      exact hret _ _ _ _ (by k_asm) (by k_asm) ⟨⟨_, rfl⟩, by ktd_sub⟩
    · rw [if_pos (by assumption), if_neg (ne_true_of_eq_false (by assumption))] at hz
      obtain rfl := eq_of_beq (Bool.and_eq_true_iff.mp hz).1
      exact hret _ _ _ _ (by k_asm) (by k_asm) ⟨⟨_, rfl⟩, by ktd_sub⟩
    · rw [if_pos (by assumption), if_neg (ne_true_of_eq_false (by assumption))] at hz
      have h2 := (Bool.and_eq_true_iff.mp hz).2
      exact absurd h2 (ne_true_of_eq_false (by assumption))
    · rw [if_pos (by assumption), if_neg (ne_true_of_eq_false (by assumption))] at hz
      have h2 := (Bool.and_eq_true_iff.mp hz).2
      exact absurd h2 (ne_true_of_eq_false (by assumption))
    · rw [if_neg (ne_true_of_eq_false (by assumption))] at hz
      obtain rfl := eq_of_beq hz
      exact hret _ _ _ _ (by k_asm) (by k_asm) ⟨⟨_, rfl⟩, by ktd_sub⟩
noncomputable def wordS : Nat → Nat → Str
  | 0, 0 => Str.ofString "a.ISO8859-15"
  | 0, 1 => Str.ofString "a.UTF-8"
  | 1, 0 => Str.ofString "a@a"
  | 1, 1 => Str.ofString "a@b"
  | 2, 0 => Str.ofString "b.ISO8859-15"
  | 2, 1 => Str.ofString "b.UTF-8"
  | 3, 0 => Str.ofString "b@a"
  | 3, 1 => Str.ofString "b@b"
  | _, _ => Str.ofString ""
noncomputable def wordsB (i c : Nat) : Bool :=
  decide ((Txt.item (Str.ofString "aabb") (i : Int)).length ≤ 30) && decide ((Txt.item (Str.ofString "ab") ((c : Int) + 0)).length ≤ 30) && decide ((Txt.item (Str.ofString "aabb") (i : Int) ++ Str.ofString ".UTF-8").length ≤ 30) && decide ((Str.ofString "euro").length ≤ 30) &&
  if Int.fmod (i : Int) 2 = 1 then appB (Txt.item (Str.ofString "aabb") (i : Int)) (Txt.item (Str.ofString "ab") ((c : Int) + 0)) (wordS i c)
  else if (c : Int) + 0 = 1 then appB (Txt.item (Str.ofString "aabb") (i : Int) ++ Str.ofString ".UTF-8") (Str.ofString "euro") (wordS i c)
  else appB (Txt.item (Str.ofString "aabb") (i : Int)) (Str.ofString "euro") (wordS i c)
theorem words_ok : ∀ i : Nat, i < 4 → ∀ c : Nat, c < 2 → wordsB i c = true := by decide +kernel
theorem word_fun (news : Led) (i c : Nat) (hi : i < 4) (hc : c < 2) (x y : Int) (hx : x = (i : Int)) (hy : y = (c : Int) + 0) (t u : Tok) :
    Fun w p loose mean mg mb 268 [.int x t, .int y u] news 20 400 (StrPost news (wordS i c)) := by
    subst hx
    subst hy
    have hz := words_ok i hi c hc
    unfold wordsB at hz
    obtain ⟨hz, e5⟩ := Bool.and_eq_true_iff.mp hz
    obtain ⟨hz, e4⟩ := Bool.and_eq_true_iff.mp hz
    obtain ⟨hz, e3⟩ := Bool.and_eq_true_iff.mp hz
    obtain ⟨e1, e2⟩ := Bool.and_eq_true_iff.mp hz
    replace e1 := of_decide_eq_true e1
    replace e2 := of_decide_eq_true e2
    replace e3 := of_decide_eq_true e3
    replace e4 := of_decide_eq_true e4
    clear hz
    unfold Fun
    intro dp un gd cn cs a ccd cl outer A₀ base h₀ L m s Q E B F X N T hk hd hu hret
    refine wpAny_call ?_
    k_dflt ktr_enter
    k_steps
    · rw [if_pos (by assumption)] at e5
      k_dflt (refine' Fun.use ?ak1 ?ak2 ?ak3 ?ak4 ?ak5 ?ak6 (app_fun w p loose mean mg mb _ _ _ (wordS i c) e1 e2 e5 _ _) ?akd ?aku ?_; (case ak1 => k_asm); (case ak2 => k_asm); (case ak3 => k_asm); (case ak4 => k_asm); (case ak5 => k_asm); (case ak6 => first | exact rfl | assumption); (case akd => ktr_room); (case aku => ktr_units))
      intro r9 nx9 h9 tk9 F9 N9 P9
      obtain ⟨⟨t9, f9⟩, s9⟩ := P9
      subst f9
      (try dsimp only)
      k_steps
      all_goals exact hret _ _ _ _ (by k_asm) (by k_asm) ⟨⟨_, rfl⟩, s9⟩
    · rw [if_neg (by assumption), if_pos (by assumption)] at e5
      k_dflt (refine' Fun.use ?bk1 ?bk2 ?bk3 ?bk4 ?bk5 ?bk6 (app_fun w p loose mean mg mb _ _ _ (wordS i c) e3 e4 e5 _ _) ?bkd ?bku ?_; (case bk1 => k_asm); (case bk2 => k_asm); (case bk3 => k_asm); (case bk4 => k_asm); (case bk5 => k_asm); (case bk6 => first | exact rfl | assumption); (case bkd => ktr_room); (case bku => ktr_units))
      intro r9 nx9 h9 tk9 F9 N9 P9
      obtain ⟨⟨t9, f9⟩, s9⟩ := P9
      subst f9
      (try dsimp only)
      k_steps
      all_goals exact hret _ _ _ _ (by k_asm) (by k_asm) ⟨⟨_, rfl⟩, s9⟩
    · rw [if_neg (by assumption), if_neg (by assumption)] at e5
      k_dflt (refine' Fun.use ?ck1 ?ck2 ?ck3 ?ck4 ?ck5 ?ck6 (app_fun w p loose mean mg mb _ _ _ (wordS i c) e1 e4 e5 _ _) ?ckd ?cku ?_; (case ck1 => k_asm); (case ck2 => k_asm); (case ck3 => k_asm); (case ck4 => k_asm); (case ck5 => k_asm); (case ck6 => first | exact rfl | assumption); (case ckd => ktr_room); (case cku => ktr_units))
      intro r9 nx9 h9 tk9 F9 N9 P9
      obtain ⟨⟨t9, f9⟩, s9⟩ := P9
      subst f9
      (try dsimp only)
      k_steps
      all_goals exact hret _ _ _ _ (by k_asm) (by k_asm) ⟨⟨_, rfl⟩, s9⟩
noncomputable def dueB (i c : Nat) (V : Int) : Str :=
  if V = 0 then Txt.item (Str.ofString "aabb") (i : Int) ++ Str.ofString ".ISO8859-15" else if V = 1 then Txt.item (Str.ofString "aabb") (i : Int) ++ Str.ofString ".UTF-8"
  else if V = 2 then Txt.item (Str.ofString "aabb") (i : Int) ++ Str.ofString "@a" else Txt.item (Str.ofString "aabb") (i : Int) ++ Str.ofString "@b"
theorem due_wok : ∀ i : Nat, i < 4 → ∀ c : Nat, c < 2 → (dueB i c (2 * Int.fmod (i : Int) 2 + ((c : Int) + 0)) == wordS i c) = true := by decide +kernel
theorem due_word_fun (news : Led) (i c : Nat) (hi : i < 4) (hc : c < 2) (x y : Int) (hx : x = (i : Int)) (hy : y = (c : Int) + 0) (t u : Tok) :
    Fun w p loose mean mg mb 275 [.int x t, .int y u] news 20 400 (StrPost news (wordS i c)) := by
    subst hx
    subst hy
    have hz := eq_of_beq (due_wok i hi c hc)
    unfold Fun
    intro dp un gd cn cs a ccd cl outer A₀ base h₀ L m s Q E B F X N T hk hd hu hret
    refine wpAny_call ?_
    k_dflt ktr_enter
    k_steps
    have hv : 2 * Int.fmod (i : Int) 2 + ((c : Int) + 0) = 0 ∨ 2 * Int.fmod (i : Int) 2 + ((c : Int) + 0) = 1 ∨ 2 * Int.fmod (i : Int) 2 + ((c : Int) + 0) = 2 ∨ 2 * Int.fmod (i : Int) 2 + ((c : Int) + 0) = 3 := by
      have h1 := Int.fmod_nonneg_of_pos (i : Int) (b := 2) (by decide)
      have h2 := Int.fmod_lt_of_pos (i : Int) (b := 2) (by decide)
      omega
    rcases hv with e | e | e | e
    all_goals (rw [e] at hz; rw [e]; k_steps; exact hret _ _ _ _ (by k_asm) (by k_asm) ⟨⟨_, congrArg (fun z => Value.str z _) hz⟩, by ktd_sub⟩)
end Mine
end
section
open PySem PySem.W PyProof.Rows PyProof.Rows.LCg
namespace Mine
set_option maxRecDepth 100000
set_option maxHeartbeats 1000000
variable (w : World) (p : Program) (loose : List Str) (mean : ExcName → Option Value) (mg mb : Str → Option Value)
local macro_rules | `(tactic| k_mem) => `(tactic| first | assumption | exact List.Mem.head _ | (refine List.mem_cons_of_mem _ ?_; k_mem) | (refine mem_grow (by assumption) ?_; k_mem))
local macro_rules | `(tactic| ktd_sub) => `(tactic| first | assumption | exact fun _ h => h | (refine sub_cons ?_; ktd_sub) | (refine sub_grow (by assumption) ?_; ktd_sub))
local macro_rules | `(tactic| ktn_ord) => `(tactic| first | assumption | exact Grow.refl _ | (refine Grow.cons ?_ (by ktn_lt); ktn_ord) | (refine Grow.trans ?_ (by assumption); ktn_ord))
local macro_rules | `(tactic| ktr_rel) => `(tactic| first | assumption | exact TrIn.leaf (by k_mem) | exact TrIn.node (by k_mem) (by ktr_rel) (by ktr_rel) | exact TrIn.mono (by assumption) (by ktd_sub))
local macro_rules | `(tactic| walk_at "compareOp Eq ref ref") => `(tactic| (k_here; (with_reducible show wpAny _ _ (compareOp CmpOp.Eq (Value.ref _) (Value.ref _)) _ _ _); k_dflt (refine' eq_leaf ?k1 ?k2 ?k3 ?k4 ?k5 ?k6 ?_; (case k1 => k_asm); (case k2 => assumption); (case k3 => assumption); (case k4 => ktd_sub); (case k5 => k_mem); (case k6 => ktr_units); k_whole); (try dsimp only [Tr.isLeaf])))
local macro_rules | `(tactic| walk_at "subscriptTail") => `(tactic| (k_here; (with_reducible show wpAny _ _ (subscriptTail _ _ (Value.ref _) (Value.int ((Fin.val _ : Nat) : Int) _)) _ _ _); k_dflt (refine' str_item ?k1 ?k2 ?k3 ?_ ?k4 ?k5; (case k1 => k_asm); (case k2 => assumption); (case k3 => ktd_sub); (case k4 => with_unfolding_all rfl); (case k5 => (intro _; with_unfolding_all rfl)); k_whole); intro _))
local macro_rules | `(tactic| walk_at "subscriptTail") => `(tactic| (k_here; (with_reducible show wpAny _ _ (subscriptTail _ _ (Value.ref _) (Value.int ((Fin.val _ : Nat) : Int) _)) _ _ _); k_dflt (refine' num_item ?k1 ?k2 ?k3 ?_ ?k4 ?k5; (case k1 => k_asm); (case k2 => assumption); (case k3 => ktd_sub); (case k4 => with_unfolding_all rfl); (case k5 => (intro _; with_unfolding_all rfl)); k_whole); intro _))
local macro_rules | `(tactic| walk_at "exec For") => `(tactic| (k_here; refine wpAny_For ?forE (by intro _; rfl)))
local macro_rules | `(tactic| walk_at "exec For Name Name") => `(tactic| (k_here; refine wpAny_For ?forE (by intro _; rfl)))
local macro_rules | `(tactic| walk_at "exec For Name Call") => `(tactic| (k_here; refine wpAny_For ?forE (by intro _; rfl)))
local macro_rules | `(tactic| walk_at "exec For Tuple Call") => `(tactic| (k_here; refine wpAny_For ?forE (by intro _; rfl)))
local macro_rules | `(tactic| walk_at "exec For Name Name cons nil") => `(tactic| (k_here; refine wpAny_For ?forE (by intro _; rfl)))
local macro_rules | `(tactic| walk_at "exec For Name Call cons nil") => `(tactic| (k_here; refine wpAny_For ?forE (by intro _; rfl)))
local macro_rules | `(tactic| walk_at "exec For Tuple Call cons nil") => `(tactic| (k_here; refine wpAny_For ?forE (by intro _; rfl)))
local macro_rules | `(tactic| walk_at "exec For Name Subscript") => `(tactic| (k_here; refine wpAny_For ?forE (by intro _; rfl)))
local macro_rules | `(tactic| walk_at "exec For Name Subscript cons nil") => `(tactic| (k_here; refine wpAny_For ?forE (by intro _; rfl)))
local macro_rules | `(tactic| walk_at "exec Assign cons ListComp") => `(tactic| (k_here; k_dflt (refine' assignComp ?k1 ?k2 ?k3 ?k4 ?_ ?k5; (case k1 => with_unfolding_all rfl); (case k2 => rfl); (case k3 => rfl); (case k4 => decide); (case k5 => (intro _; rfl)))))
local macro_rules | `(tactic| walk_at "eval ListComp") => `(tactic| (k_here; k_dflt (refine' evalComp ?k2 ?k3 ?k4 ?_ ?k5; (case k2 => rfl); (case k3 => rfl); (case k4 => decide); (case k5 => (intro _; rfl)))))
local macro_rules | `(tactic| walk_at "binaryOp Mult ref int") => `(tactic| (k_here; (with_reducible show wpAny _ _ (binaryOp Operator.Mult (Value.ref _) (Value.int 16 _)) _ _ _); k_dflt (refine' mul16 ?k1 ?k2 ?k3 ?_; (case k1 => k_asm); (case k2 => k_asm); (case k3 => k_mem)); intro h6 D6 o6 F6 N6 l6 I6))
noncomputable def hI (h : UInt64) : Int := PySem.Flt.toInt Float64.truncOf (Float64.mul h 4618441417868443648)
noncomputable def hFr (h : UInt64) : UInt64 := Float64.sub (Float64.mul h 4618441417868443648) (Float64.ofInt (hI h))
noncomputable def hP (v : UInt64) : UInt64 := Float64.mul v (Float64.sub 4607182418800017408 4593671619917905920)
noncomputable def hQ (h v : UInt64) : UInt64 := Float64.mul v (Float64.sub 4607182418800017408 (Float64.mul 4593671619917905920 (hFr h)))
noncomputable def hT (h v : UInt64) : UInt64 := Float64.mul v (Float64.sub 4607182418800017408 (Float64.mul 4593671619917905920 (Float64.sub 4607182418800017408 (hFr h))))
noncomputable def yF (x y z : UInt64) : UInt64 := Float64.add (Float64.add (Float64.mul 4599075939470750515 x) (Float64.mul 4603489467105573601 y)) (Float64.mul 4592590756007337001 z)
structure HsvPost (news : Led) (x y z : UInt64) (r : Value) (nx : Led) : Prop where
  out : ∃ (D : Addr) (n : Nat) (t1 t2 t3 : Tok), r = .ref D ∧ (D, tupO [.float x t1, .float y t2, .float z t3] n) ∈ nx
  sub : ∀ p ∈ news, p ∈ nx
structure YiqPost (news : Led) (x : UInt64) (r : Value) (nx : Led) : Prop where
  out : ∃ (D : Addr) (n : Nat) (t1 : Tok) (i q : Value), r = .ref D ∧ (D, tupO [.float x t1, i, q] n) ∈ nx
  sub : ∀ p ∈ news, p ∈ nx
structure IntPost (news : Led) (x : Int) (r : Value) (nx : Led) : Prop where
  out : ∃ t, r = .int x t
  sub : ∀ p ∈ news, p ∈ nx
noncomputable def hX (h v : UInt64) : Nat → UInt64
  | 1 => hQ h v
  | 2 => hP v
  | 3 => hP v
  | 4 => hT h v
  | _ => v
noncomputable def hY (h v : UInt64) : Nat → UInt64
  | 0 => hT h v
  | 3 => hQ h v
  | 4 => hP v
  | 5 => hP v
  | _ => v
noncomputable def hZ (h v : UInt64) : Nat → UInt64
  | 0 => hP v
  | 1 => hP v
  | 2 => hT h v
  | 5 => hQ h v
  | _ => v
theorem hsv_fun (news : Led) (h v : UInt64) (hnan : Float64.isNaN (Float64.mul h 4618441417868443648) = false) (hinf : Float64.isInf (Float64.mul h 4618441417868443648) = false) (hbig : ¬ (2 ^ 1024 - 2 ^ 970 ≤ Int.natAbs (PySem.Flt.toInt Float64.truncOf (Float64.mul h 4618441417868443648)))) (i : Nat) (hi6 : i < 6)
    (hi : Int.fmod (PySem.Flt.toInt Float64.truncOf (Float64.mul h 4618441417868443648)) 6 = (i : Int)) (t t2 t3 : Tok) :
    Fun w p loose mean mg mb 35 [.float h t, .float 4593671619917905920 t2, .float v t3] news 10 100 (HsvPost news (hX h v i) (hY h v i) (hZ h v i)) := by
    unfold Fun
    intro dp un gd cn cs a ccd cl outer A₀ base h₀ L m s Q E B F X N T hk hd hu hret
    refine wpAny_call ?_
    k_dflt ktr_enter
    k_steps
    all_goals first
      | (exfalso; (rename Float64.isNaN _ = true => q); rw [hnan] at q; cases q; done)
      | (exfalso; (rename Float64.isInf _ = true => q); rw [hinf] at q; cases q; done)
      | (exfalso; (rename BEq.beq _ _ = true => q); revert q; decide +kernel)
      | exact absurd (by assumption) hbig
      | ((obtain rfl : i = 0 := by omega); exact hret _ _ _ _ (by k_asm) (by k_asm) ⟨⟨_, _, _, _, _, rfl, .head _⟩, by ktd_sub⟩)
      | ((obtain rfl : i = 1 := by omega); exact hret _ _ _ _ (by k_asm) (by k_asm) ⟨⟨_, _, _, _, _, rfl, .head _⟩, by ktd_sub⟩)
      | ((obtain rfl : i = 2 := by omega); exact hret _ _ _ _ (by k_asm) (by k_asm) ⟨⟨_, _, _, _, _, rfl, .head _⟩, by ktd_sub⟩)
      | ((obtain rfl : i = 3 := by omega); exact hret _ _ _ _ (by k_asm) (by k_asm) ⟨⟨_, _, _, _, _, rfl, .head _⟩, by ktd_sub⟩)
      | ((obtain rfl : i = 4 := by omega); exact hret _ _ _ _ (by k_asm) (by k_asm) ⟨⟨_, _, _, _, _, rfl, .head _⟩, by ktd_sub⟩)
      | ((obtain rfl : i = 5 := by omega); exact hret _ _ _ _ (by k_asm) (by k_asm) ⟨⟨_, _, _, _, _, rfl, .head _⟩, by ktd_sub⟩)
      | (exfalso; omega)
theorem yiq_fun (news : Led) (x y z : UInt64) (t t2 t3 : Tok) :
    Fun w p loose mean mg mb 28 [.float x t, .float y t2, .float z t3] news 10 100 (YiqPost news (yF x y z)) := by
    unfold Fun
    intro dp un gd cn cs a ccd cl outer A₀ base h₀ L m s Q E B F X N T hk hd hu hret
    refine wpAny_call ?_
    k_dflt ktr_enter
    k_steps
    all_goals exact hret _ _ _ _ (by k_asm) (by k_asm) ⟨⟨_, _, _, _, _, rfl, .head _⟩, by ktd_sub⟩
end Mine
end
section
open PySem PySem.W PyProof.Rows PyProof.Rows.LCg
namespace Mine
set_option maxRecDepth 100000
set_option maxHeartbeats 1000000
variable (w : World) (p : Program) (loose : List Str) (mean : ExcName → Option Value) (mg mb : Str → Option Value)
local macro_rules | `(tactic| k_mem) => `(tactic| first | assumption | exact List.Mem.head _ | (refine List.mem_cons_of_mem _ ?_; k_mem) | (refine mem_grow (by assumption) ?_; k_mem))
local macro_rules | `(tactic| ktd_sub) => `(tactic| first | assumption | exact fun _ h => h | (refine sub_cons ?_; ktd_sub) | (refine sub_grow (by assumption) ?_; ktd_sub))
local macro_rules | `(tactic| ktn_ord) => `(tactic| first | assumption | exact Grow.refl _ | (refine Grow.cons ?_ (by ktn_lt); ktn_ord) | (refine Grow.trans ?_ (by assumption); ktn_ord))
local macro_rules | `(tactic| ktr_rel) => `(tactic| first | assumption | exact TrIn.leaf (by k_mem) | exact TrIn.node (by k_mem) (by ktr_rel) (by ktr_rel) | exact TrIn.mono (by assumption) (by ktd_sub))
local macro_rules | `(tactic| walk_at "compareOp Eq ref ref") => `(tactic| (k_here; (with_reducible show wpAny _ _ (compareOp CmpOp.Eq (Value.ref _) (Value.ref _)) _ _ _); k_dflt (refine' eq_leaf ?k1 ?k2 ?k3 ?k4 ?k5 ?k6 ?_; (case k1 => k_asm); (case k2 => assumption); (case k3 => assumption); (case k4 => ktd_sub); (case k5 => k_mem); (case k6 => ktr_units); k_whole); (try dsimp only [Tr.isLeaf])))
local macro_rules | `(tactic| walk_at "subscriptTail") => `(tactic| (k_here; (with_reducible show wpAny _ _ (subscriptTail _ _ (Value.ref _) (Value.int ((Fin.val _ : Nat) : Int) _)) _ _ _); k_dflt (refine' str_item ?k1 ?k2 ?k3 ?_ ?k4 ?k5; (case k1 => k_asm); (case k2 => assumption); (case k3 => ktd_sub); (case k4 => with_unfolding_all rfl); (case k5 => (intro _; with_unfolding_all rfl)); k_whole); intro _))
local macro_rules | `(tactic| walk_at "subscriptTail") => `(tactic| (k_here; (with_reducible show wpAny _ _ (subscriptTail _ _ (Value.ref _) (Value.int ((Fin.val _ : Nat) : Int) _)) _ _ _); k_dflt (refine' num_item ?k1 ?k2 ?k3 ?_ ?k4 ?k5; (case k1 => k_asm); (case k2 => assumption); (case k3 => ktd_sub); (case k4 => with_unfolding_all rfl); (case k5 => (intro _; with_unfolding_all rfl)); k_whole); intro _))
local macro_rules | `(tactic| walk_at "exec For") => `(tactic| (k_here; refine wpAny_For ?forE (by intro _; rfl)))
local macro_rules | `(tactic| walk_at "exec For Name Name") => `(tactic| (k_here; refine wpAny_For ?forE (by intro _; rfl)))
local macro_rules | `(tactic| walk_at "exec For Name Call") => `(tactic| (k_here; refine wpAny_For ?forE (by intro _; rfl)))
local macro_rules | `(tactic| walk_at "exec For Tuple Call") => `(tactic| (k_here; refine wpAny_For ?forE (by intro _; rfl)))
local macro_rules | `(tactic| walk_at "exec For Name Name cons nil") => `(tactic| (k_here; refine wpAny_For ?forE (by intro _; rfl)))
local macro_rules | `(tactic| walk_at "exec For Name Call cons nil") => `(tactic| (k_here; refine wpAny_For ?forE (by intro _; rfl)))
local macro_rules | `(tactic| walk_at "exec For Tuple Call cons nil") => `(tactic| (k_here; refine wpAny_For ?forE (by intro _; rfl)))
local macro_rules | `(tactic| walk_at "exec For Name Subscript") => `(tactic| (k_here; refine wpAny_For ?forE (by intro _; rfl)))
local macro_rules | `(tactic| walk_at "exec For Name Subscript cons nil") => `(tactic| (k_here; refine wpAny_For ?forE (by intro _; rfl)))
local macro_rules | `(tactic| walk_at "exec Assign cons ListComp") => `(tactic| (k_here; k_dflt (refine' assignComp ?k1 ?k2 ?k3 ?k4 ?_ ?k5; (case k1 => with_unfolding_all rfl); (case k2 => rfl); (case k3 => rfl); (case k4 => decide); (case k5 => (intro _; rfl)))))
local macro_rules | `(tactic| walk_at "eval ListComp") => `(tactic| (k_here; k_dflt (refine' evalComp ?k2 ?k3 ?k4 ?_ ?k5; (case k2 => rfl); (case k3 => rfl); (case k4 => decide); (case k5 => (intro _; rfl)))))
local macro_rules | `(tactic| walk_at "binaryOp Mult ref int") => `(tactic| (k_here; (with_reducible show wpAny _ _ (binaryOp Operator.Mult (Value.ref _) (Value.int 16 _)) _ _ _); k_dflt (refine' mul16 ?k1 ?k2 ?k3 ?_; (case k1 => k_asm); (case k2 => k_asm); (case k3 => k_mem)); intro h6 D6 o6 F6 N6 l6 I6))

noncomputable def huef (i : Nat) : UInt64 := Float64.ofFrac (bne (decide ((i : Int) < 0)) (decide ((8 : Int) < 0))) (Int.natAbs (i : Int)) (Int.natAbs 8)
noncomputable def levf (c : Nat) : UInt64 := Float64.ofFrac (bne (decide ((c : Int) + 1 < 0)) (decide ((4 : Int) < 0))) (Int.natAbs ((c : Int) + 1)) (Int.natAbs 4)
noncomputable def lightS : Nat → Nat → Int
  | 0, 0 => 2920
  | 0, 1 => 5840
  | 0, 2 => 8760
  | 0, 3 => 11680
  | 1, 0 => 3097
  | 1, 1 => 6194
  | 1, 2 => 9291
  | 1, 3 => 12388
  | 2, 0 => 3096
  | 2, 1 => 6192
  | 2, 2 => 9288
  | 2, 3 => 12384
  | 3, 0 => 3047
  | 3, 1 => 6094
  | 3, 2 => 9141
  | 3, 3 => 12188
  | 4, 0 => 3080
  | 4, 1 => 6160
  | 4, 2 => 9240
  | 4, 3 => 12320
  | 5, 0 => 2903
  | 5, 1 => 5806
  | 5, 2 => 8709
  | 5, 3 => 11612
  | 6, 0 => 2904
  | 6, 1 => 5808
  | 6, 2 => 8712
  | 6, 3 => 11616
  | 7, 0 => 2953
  | 7, 1 => 5906
  | 7, 2 => 8859
  | 7, 3 => 11812
  | _, _ => 0
theorem hue_ok : ∀ i, i < 8 → Float64.isNaN (Float64.mul (huef i) 4618441417868443648) = false ∧ Float64.isInf (Float64.mul (huef i) 4618441417868443648) = false ∧
    (¬ (2 ^ 1024 - 2 ^ 970 ≤ Int.natAbs (PySem.Flt.toInt Float64.truncOf (Float64.mul (huef i) 4618441417868443648)))) ∧ 3 * i / 4 < 6 ∧
    Int.fmod (PySem.Flt.toInt Float64.truncOf (Float64.mul (huef i) 4618441417868443648)) 6 = ((3 * i / 4 : Nat) : Int) := by decide +kernel
noncomputable def litF (i c : Nat) : UInt64 := Float64.add (Float64.mul (Float64.ofInt 12800) (yF (hX (huef i) (levf c) (3 * i / 4)) (hY (huef i) (levf c) (3 * i / 4)) (hZ (huef i) (levf c) (3 * i / 4)))) 4602678819172646912
theorem light_ok : ∀ i, i < 8 → ∀ c, c < 4 → Float64.isNaN (litF i c) = false ∧ Float64.isInf (litF i c) = false ∧ PySem.Flt.toInt Float64.truncOf (litF i c) = lightS i c := by decide +kernel
theorem light_fun (news : Led) (i c : Nat) (hi : i < 8) (hc : c < 4) (x y : Int) (hx : x = (i : Int)) (hy : y = (c : Int) + 1) (t u : Tok) :
    Fun w p loose mean mg mb 296 [.int x t, .int y u] news 20 400 (IntPost news (lightS i c)) := by
    subst hx
    subst hy
    unfold Fun
    intro dp un gd cn cs a ccd cl outer A₀ base h₀ L m s Q E B F X N T hk hd hu hret
    refine wpAny_call ?_
    k_dflt ktr_enter
    k_steps
    obtain ⟨o1, o2, o3, o4, o5⟩ := hue_ok i hi
    k_dflt (refine' Fun.use ?ak1 ?ak2 ?ak3 ?ak4 ?ak5 ?ak6 (hsv_fun w p loose mean mg mb _ (huef i) (levf c) o1 o2 o3 _ o4 o5 _ _ _) ?akd ?aku ?_; (case ak1 => k_asm); (case ak2 => k_asm); (case ak3 => k_asm); (case ak4 => k_asm); (case ak5 => k_asm); (case ak6 => first | exact rfl | assumption); (case akd => ktr_room); (case aku => ktr_units))
    intro r9 nx9 h9 tk9 F9 N9 P9
    obtain ⟨⟨D9, n9, t91, t92, t93, f9, m9⟩, s9⟩ := P9
    subst f9
    (try dsimp only)
    k_steps
    k_dflt (refine' Fun.use ?bk1 ?bk2 ?bk3 ?bk4 ?bk5 ?bk6 (yiq_fun w p loose mean mg mb _ _ _ _ _ _ _) ?bkd ?bku ?_; (case bk1 => k_asm); (case bk2 => k_asm); (case bk3 => k_asm); (case bk4 => k_asm); (case bk5 => k_asm); (case bk6 => first | exact rfl | assumption); (case bkd => ktr_room); (case bku => ktr_units))
    intro r8 nx8 h8 tk8 F8 N8 P8
    obtain ⟨⟨D8, n8, t81, i8, q8, f8, m8⟩, s8⟩ := P8
    subst f8
    (try dsimp only)
    have ⟨e1, e2, e3⟩ := light_ok i hi c hc
    k_steps
    all_goals first
      | (exfalso; (rename Float64.isNaN _ = true => q); exact Bool.noConfusion (q.symm.trans e1))
      | (exfalso; (rename Float64.isInf _ = true => q); exact Bool.noConfusion (q.symm.trans e2))
      | exact hret _ _ _ _ (by k_asm) (by k_asm) ⟨⟨_, congrArg (fun z => Value.int z _) e3⟩, fun p hp => s8 p (s9 p hp)⟩
end Mine
end
section
open PySem PySem.W PyProof.Rows PyProof.Rows.LCg
namespace Mine
set_option maxRecDepth 100000
set_option maxHeartbeats 1000000
variable (w : World) (p : Program) (loose : List Str) (mean : ExcName → Option Value) (mg mb : Str → Option Value)
local macro_rules | `(tactic| k_mem) => `(tactic| first | assumption | exact List.Mem.head _ | (refine List.mem_cons_of_mem _ ?_; k_mem) | (refine mem_grow (by assumption) ?_; k_mem))
local macro_rules | `(tactic| ktd_sub) => `(tactic| first | assumption | exact fun _ h => h | (refine sub_cons ?_; ktd_sub) | (refine sub_grow (by assumption) ?_; ktd_sub))
local macro_rules | `(tactic| ktn_ord) => `(tactic| first | assumption | exact Grow.refl _ | (refine Grow.cons ?_ (by ktn_lt); ktn_ord) | (refine Grow.trans ?_ (by assumption); ktn_ord))
local macro_rules | `(tactic| ktr_rel) => `(tactic| first | assumption | exact TrIn.leaf (by k_mem) | exact TrIn.node (by k_mem) (by ktr_rel) (by ktr_rel) | exact TrIn.mono (by assumption) (by ktd_sub))
local macro_rules | `(tactic| walk_at "compareOp Eq ref ref") => `(tactic| (k_here; (with_reducible show wpAny _ _ (compareOp CmpOp.Eq (Value.ref _) (Value.ref _)) _ _ _); k_dflt (refine' eq_leaf ?k1 ?k2 ?k3 ?k4 ?k5 ?k6 ?_; (case k1 => k_asm); (case k2 => assumption); (case k3 => assumption); (case k4 => ktd_sub); (case k5 => k_mem); (case k6 => ktr_units); k_whole); (try dsimp only [Tr.isLeaf])))
local macro_rules | `(tactic| walk_at "subscriptTail") => `(tactic| (k_here; (with_reducible show wpAny _ _ (subscriptTail _ _ (Value.ref _) (Value.int ((Fin.val _ : Nat) : Int) _)) _ _ _); k_dflt (refine' str_item ?k1 ?k2 ?k3 ?_ ?k4 ?k5; (case k1 => k_asm); (case k2 => assumption); (case k3 => ktd_sub); (case k4 => with_unfolding_all rfl); (case k5 => (intro _; with_unfolding_all rfl)); k_whole); intro _))
local macro_rules | `(tactic| walk_at "subscriptTail") => `(tactic| (k_here; (with_reducible show wpAny _ _ (subscriptTail _ _ (Value.ref _) (Value.int ((Fin.val _ : Nat) : Int) _)) _ _ _); k_dflt (refine' num_item ?k1 ?k2 ?k3 ?_ ?k4 ?k5; (case k1 => k_asm); (case k2 => assumption); (case k3 => ktd_sub); (case k4 => with_unfolding_all rfl); (case k5 => (intro _; with_unfolding_all rfl)); k_whole); intro _))
local macro_rules | `(tactic| walk_at "exec For") => `(tactic| (k_here; refine wpAny_For ?forE (by intro _; rfl)))
local macro_rules | `(tactic| walk_at "exec For Name Name") => `(tactic| (k_here; refine wpAny_For ?forE (by intro _; rfl)))
local macro_rules | `(tactic| walk_at "exec For Name Call") => `(tactic| (k_here; refine wpAny_For ?forE (by intro _; rfl)))
local macro_rules | `(tactic| walk_at "exec For Tuple Call") => `(tactic| (k_here; refine wpAny_For ?forE (by intro _; rfl)))
local macro_rules | `(tactic| walk_at "exec For Name Name cons nil") => `(tactic| (k_here; refine wpAny_For ?forE (by intro _; rfl)))
local macro_rules | `(tactic| walk_at "exec For Name Call cons nil") => `(tactic| (k_here; refine wpAny_For ?forE (by intro _; rfl)))
local macro_rules | `(tactic| walk_at "exec For Tuple Call cons nil") => `(tactic| (k_here; refine wpAny_For ?forE (by intro _; rfl)))
local macro_rules | `(tactic| walk_at "exec For Name Subscript") => `(tactic| (k_here; refine wpAny_For ?forE (by intro _; rfl)))
local macro_rules | `(tactic| walk_at "exec For Name Subscript cons nil") => `(tactic| (k_here; refine wpAny_For ?forE (by intro _; rfl)))
local macro_rules | `(tactic| walk_at "exec Assign cons ListComp") => `(tactic| (k_here; k_dflt (refine' assignComp ?k1 ?k2 ?k3 ?k4 ?_ ?k5; (case k1 => with_unfolding_all rfl); (case k2 => rfl); (case k3 => rfl); (case k4 => decide); (case k5 => (intro _; rfl)))))
local macro_rules | `(tactic| walk_at "eval ListComp") => `(tactic| (k_here; k_dflt (refine' evalComp ?k2 ?k3 ?k4 ?_ ?k5; (case k2 => rfl); (case k3 => rfl); (case k4 => decide); (case k5 => (intro _; rfl)))))
local macro_rules | `(tactic| walk_at "binaryOp Mult ref int") => `(tactic| (k_here; (with_reducible show wpAny _ _ (binaryOp Operator.Mult (Value.ref _) (Value.int 16 _)) _ _ _); k_dflt (refine' mul16 ?k1 ?k2 ?k3 ?_; (case k1 => k_asm); (case k2 => k_asm); (case k3 => k_mem)); intro h6 D6 o6 F6 N6 l6 I6))

noncomputable def mnF (a b : Int) : Int := if b < a then b else a
noncomputable def mxF (a b : Int) : Int := if b > a then b else a
noncomputable def shareF (h m : Int) : Int := 28 + mxF 0 (mnF 4 (8 - mnF (Int.fmod (3 * h - m) 24) (24 - Int.fmod (3 * h - m) 24)))
theorem share_fun (news : Led) (x m : Int) (t u : Tok) :
    Fun w p loose mean mg mb 282 [.int x t, .int m u] news 10 100 (IntPost news (shareF x m)) := by
    unfold Fun
    intro dp un gd cn cs a ccd cl outer A₀ base h₀ L m s Q E B F X N T hk hd hu hret
    refine wpAny_call ?_
    k_dflt ktr_enter
    k_steps
    all_goals first
      | exact hret _ _ _ _ (by k_asm) (by k_asm) ⟨⟨_, rfl⟩, by ktd_sub⟩
theorem due_ok : ∀ i : Nat, i < 8 → ∀ c : Nat, c < 4 → ((c : Int) + 1) * (30 * shareF (i : Int) 0 + 59 * shareF (i : Int) 8 + 11 * shareF (i : Int) 16) = lightS i c := by decide +kernel
theorem due_light_fun (news : Led) (i c : Nat) (hi : i < 8) (hc : c < 4) (x y : Int) (hx : x = (i : Int)) (hy : y = (c : Int) + 1) (t u : Tok) :
    Fun w p loose mean mg mb 289 [.int x t, .int y u] news 20 400 (IntPost news (lightS i c)) := by
    subst hx
    subst hy
    unfold Fun
    intro dp un gd cn cs a ccd cl outer A₀ base h₀ L m s Q E B F X N T hk hd hu hret
    have e3 := due_ok i hi c hc
    refine wpAny_call ?_
    k_dflt ktr_enter
    k_steps
    k_dflt (refine' Fun.use ?ak1 ?ak2 ?ak3 ?ak4 ?ak5 ?ak6 (share_fun w p loose mean mg mb _ _ _ _ _) ?akd ?aku ?_; (case ak1 => k_asm); (case ak2 => k_asm); (case ak3 => k_asm); (case ak4 => k_asm); (case ak5 => k_asm); (case ak6 => first | exact rfl | assumption); (case akd => ktr_room); (case aku => ktr_units))
    intro r09 nx09 h09 tk09 F09 N09 P09
    obtain ⟨⟨t09, f09⟩, s09⟩ := P09
    subst f09
    (try dsimp only)
    k_steps
    k_dflt (refine' Fun.use ?bk1 ?bk2 ?bk3 ?bk4 ?bk5 ?bk6 (share_fun w p loose mean mg mb _ _ _ _ _) ?bkd ?bku ?_; (case bk1 => k_asm); (case bk2 => k_asm); (case bk3 => k_asm); (case bk4 => k_asm); (case bk5 => k_asm); (case bk6 => first | exact rfl | assumption); (case bkd => ktr_room); (case bku => ktr_units))
    intro r19 nx19 h19 tk19 F19 N19 P19
    obtain ⟨⟨t19, f19⟩, s19⟩ := P19
    subst f19
    (try dsimp only)
    k_steps
    k_dflt (refine' Fun.use ?ck1 ?ck2 ?ck3 ?ck4 ?ck5 ?ck6 (share_fun w p loose mean mg mb _ _ _ _ _) ?ckd ?cku ?_; (case ck1 => k_asm); (case ck2 => k_asm); (case ck3 => k_asm); (case ck4 => k_asm); (case ck5 => k_asm); (case ck6 => first | exact rfl | assumption); (case ckd => ktr_room); (case cku => ktr_units))
    intro r29 nx29 h29 tk29 F29 N29 P29
    obtain ⟨⟨t29, f29⟩, s29⟩ := P29
    subst f29
    (try dsimp only)
    k_steps
    all_goals first
      | exact hret _ _ _ _ (by k_asm) (by k_asm) ⟨⟨_, congrArg (fun z => Value.int z _) e3⟩, fun p hp => s29 p (s19 p (s09 p hp))⟩
end Mine
end
section
open PySem PySem.W PyProof.Rows PyProof.Rows.LCg
namespace Mine
set_option maxRecDepth 100000
set_option maxHeartbeats 1000000
variable (w : World) (p : Program) (loose : List Str) (mean : ExcName → Option Value) (mg mb : Str → Option Value)
local macro_rules | `(tactic| k_mem) => `(tactic| first | assumption | exact List.Mem.head _ | (refine List.mem_cons_of_mem _ ?_; k_mem) | (refine mem_grow (by assumption) ?_; k_mem))
local macro_rules | `(tactic| ktd_sub) => `(tactic| first | assumption | exact fun _ h => h | (refine sub_cons ?_; ktd_sub) | (refine sub_grow (by assumption) ?_; ktd_sub))
local macro_rules | `(tactic| ktn_ord) => `(tactic| first | assumption | exact Grow.refl _ | (refine Grow.cons ?_ (by ktn_lt); ktn_ord) | (refine Grow.trans ?_ (by assumption); ktn_ord))
local macro_rules | `(tactic| ktr_rel) => `(tactic| first | assumption | exact TrIn.leaf (by k_mem) | exact TrIn.node (by k_mem) (by ktr_rel) (by ktr_rel) | exact TrIn.mono (by assumption) (by ktd_sub))
local macro_rules | `(tactic| walk_at "compareOp Eq ref ref") => `(tactic| (k_here; (with_reducible show wpAny _ _ (compareOp CmpOp.Eq (Value.ref _) (Value.ref _)) _ _ _); k_dflt (refine' eq_leaf ?k1 ?k2 ?k3 ?k4 ?k5 ?k6 ?_; (case k1 => k_asm); (case k2 => assumption); (case k3 => assumption); (case k4 => ktd_sub); (case k5 => k_mem); (case k6 => ktr_units); k_whole); (try dsimp only [Tr.isLeaf])))
local macro_rules | `(tactic| walk_at "subscriptTail") => `(tactic| (k_here; (with_reducible show wpAny _ _ (subscriptTail _ _ (Value.ref _) (Value.int ((Fin.val _ : Nat) : Int) _)) _ _ _); k_dflt (refine' str_item ?k1 ?k2 ?k3 ?_ ?k4 ?k5; (case k1 => k_asm); (case k2 => assumption); (case k3 => ktd_sub); (case k4 => with_unfolding_all rfl); (case k5 => (intro _; with_unfolding_all rfl)); k_whole); intro _))
local macro_rules | `(tactic| walk_at "subscriptTail") => `(tactic| (k_here; (with_reducible show wpAny _ _ (subscriptTail _ _ (Value.ref _) (Value.int ((Fin.val _ : Nat) : Int) _)) _ _ _); k_dflt (refine' num_item ?k1 ?k2 ?k3 ?_ ?k4 ?k5; (case k1 => k_asm); (case k2 => assumption); (case k3 => ktd_sub); (case k4 => with_unfolding_all rfl); (case k5 => (intro _; with_unfolding_all rfl)); k_whole); intro _))
local macro_rules | `(tactic| walk_at "exec For") => `(tactic| (k_here; refine wpAny_For ?forE (by intro _; rfl)))
local macro_rules | `(tactic| walk_at "exec For Name Name") => `(tactic| (k_here; refine wpAny_For ?forE (by intro _; rfl)))
local macro_rules | `(tactic| walk_at "exec For Name Call") => `(tactic| (k_here; refine wpAny_For ?forE (by intro _; rfl)))
local macro_rules | `(tactic| walk_at "exec For Tuple Call") => `(tactic| (k_here; refine wpAny_For ?forE (by intro _; rfl)))
local macro_rules | `(tactic| walk_at "exec For Name Name cons nil") => `(tactic| (k_here; refine wpAny_For ?forE (by intro _; rfl)))
local macro_rules | `(tactic| walk_at "exec For Name Call cons nil") => `(tactic| (k_here; refine wpAny_For ?forE (by intro _; rfl)))
local macro_rules | `(tactic| walk_at "exec For Tuple Call cons nil") => `(tactic| (k_here; refine wpAny_For ?forE (by intro _; rfl)))
local macro_rules | `(tactic| walk_at "exec For Name Subscript") => `(tactic| (k_here; refine wpAny_For ?forE (by intro _; rfl)))
local macro_rules | `(tactic| walk_at "exec For Name Subscript cons nil") => `(tactic| (k_here; refine wpAny_For ?forE (by intro _; rfl)))
local macro_rules | `(tactic| walk_at "exec Assign cons ListComp") => `(tactic| (k_here; k_dflt (refine' assignComp ?k1 ?k2 ?k3 ?k4 ?_ ?k5; (case k1 => with_unfolding_all rfl); (case k2 => rfl); (case k3 => rfl); (case k4 => decide); (case k5 => (intro _; rfl)))))
local macro_rules | `(tactic| walk_at "eval ListComp") => `(tactic| (k_here; k_dflt (refine' evalComp ?k2 ?k3 ?k4 ?_ ?k5; (case k2 => rfl); (case k3 => rfl); (case k4 => decide); (case k5 => (intro _; rfl)))))
local macro_rules | `(tactic| walk_at "binaryOp Mult ref int") => `(tactic| (k_here; (with_reducible show wpAny _ _ (binaryOp Operator.Mult (Value.ref _) (Value.int 16 _)) _ _ _); k_dflt (refine' mul16 ?k1 ?k2 ?k3 ?_; (case k1 => k_asm); (case k2 => k_asm); (case k3 => k_mem)); intro h6 D6 o6 F6 N6 l6 I6))

noncomputable def nmF : Nat → Str
  | 0 => Str.ofString "OPTIMIZED"
  | 1 => Str.ofString "NEWLOCALS"
  | 2 => Str.ofString "VARARGS"
  | 3 => Str.ofString "VARKEYWORDS"
  | 4 => Str.ofString "NESTED"
  | 5 => Str.ofString "GENERATOR"
  | 6 => Str.ofString "NOFREE"
  | 7 => Str.ofString "COROUTINE"
  | 8 => Str.ofString "ITERABLE_COROUTINE"
  | 9 => Str.ofString "ASYNC_GENERATOR"
  | 10 => Str.ofString "0x400"
  | 11 => Str.ofString "0x800"
  | 12 => Str.ofString "0x1000"
  | _ => Str.ofString ""
noncomputable def bitF (i : Nat) : Int := 1 * 2 ^ (Int.toNat (0 + ((i : Nat) : Int)))
noncomputable def pfStep (x : Int × List Str) (i : Nat) : Int × List Str := if Spec.bitAnd x.1 (bitF i) = 0 then x else (Spec.bitXor x.1 (bitF i), x.2 ++ [nmF i])
noncomputable def pfRun (f : Int) : Nat → Int × List Str
  | 0 => (f, [])
  | i + 1 => pfStep (pfRun f i) i
theorem bitAnd_zero (i : Nat) : Spec.bitAnd 0 (bitF i) = 0 := by
  have h : (0 : Int) ≤ bitF i := by
    unfold bitF
    rw [Int.one_mul]
    exact Int.le_of_lt (Int.pow_pos (by decide))
  unfold Spec.bitAnd
  rw [decide_eq_true h]
  simp
theorem pfRun_stay {f : Int} {a : Nat} (h : (pfRun f a).1 = 0) : ∀ k, pfRun f (a + k) = pfRun f a
  | 0 => rfl
  | k + 1 => by
    show pfStep (pfRun f (a + k)) (a + k) = pfRun f a
    rw [pfRun_stay h k]
    unfold pfStep
    rw [h, bitAnd_zero, if_pos rfl]
theorem News.get {h₀ h : Heap} {L a : Addr} {o : Obj} {nx : Led} (N : News h₀ L h nx) (hm : (a, o) ∈ nx) : h.get? a = some o := (N _ hm).1
noncomputable def txtF (f : Int) : Str := Txt.join (Str.ofString ", ") (pfRun f 13).2
noncomputable def FlagsI (news : Led) (l : Addr) (f : Int) (i : Nat) (v : Value) (nx : Led) : Prop :=
  ∃ (g : Int) (t : Tok) (vs : List Value) (n : Nat) (ns : List Str), v = .int g t ∧ pfRun f i = (g, ns) ∧ g ≠ 0 ∧ (l, listOf vs.toArray n) ∈ nx ∧ StrsAre vs ns ∧ ns.length ≤ i ∧ ∀ p ∈ news, p ∈ nx
theorem flags_fun (news : Led) (f : Int) (t : Tok) (hf : f ≠ 0) (hz : (pfRun f 13).1 = 0) (hw : ((pfRun f 13).2.map (·.length)).sum + (pfRun f 13).2.length ≤ 1048576) :
    Fun w p loose mean mg mb 43 [.int f t] news 20 400 (StrPost news (txtF f)) := by
    unfold Fun
    intro dp un gd cn cs a ccd cl outer A₀ base h₀ L m s Q E B F X N T hk hd hu hret
    refine wpAny_call ?_
    k_dflt ktr_enter
    k_steps
    rename News _ _ _ ((_, _) :: news) => N1
    rename IsRange _ _ _ _ _ _ _ _ => hr
    obtain ⟨l1, hl1⟩ := News.nm N1
    subst hl1
    have lnews : ∀ p ∈ news, p.1 < l1 := by assumption
    k_dflt (refine' for_rangeVA (v₀ := .int f t) (n := 32) [Str.ofString "i", Str.ofString "flag", Str.ofString "flags"] (Str.ofString "flags") news (FlagsI news l1 f) ?hh ?F N1 hr (by decide) (by decide) (fun p hp => .tail _ hp) ?hy ?hI ?stab ?turn ?done; (case hh => rfl); (case F => k_asm); (case hy => with_unfolding_all rfl))
    (case hI => exact ⟨f, t, [], _, [], rfl, rfl, hf, .head _, .nil, Nat.le_refl _, fun p hp => .tail _ hp⟩)
    (case stab => exact fun i v nx ny ⟨g, t, vs, n, ns, h1, h2, h3, h4, h5, h7, h6⟩ k ka => ⟨g, t, vs, n, ns, h1, h2, h3, k _ h4 kept_seq, h5, h7, fun p hp => ka p hp (h6 p hp)⟩)
    (case done =>
      intro v u ny h tk ⟨g, t, vs, n, ns, h1, h2, h3, h4, h5, h7, h6⟩ F4 N4
      have e := pfRun_stay hz 19
      rw [h2] at e
      have e2 : g = (pfRun f 13).1 := congrArg Prod.fst e
      exact absurd (e2.trans hz) h3)
    (case turn =>
      intro I i t6 v u ny h tk hi hS ⟨g, tg, vs, n, ns, hv, hpf, hg, hm, hs, hle, hb⟩ F4 N4
      subst hv
      have hns : vs.length ≤ sizeLine := by rw [hs.length, sizeLine_eq]; omega
      have hsub : ∀ ny', SetAt l1 ny ny' → ∀ p ∈ news, p ∈ ny' := fun ny' S p hp => S p (hb p hp) (Nat.ne_of_lt (lnews p hp))
      have hSf : ∀ ny' its n, (l1, listOf its n) ∈ ny → SetAt l1 ny ny' → SIRange I 0 32 (i + 1) ny' := fun ny' its n hd S => set_other N4 hS hd (by simp) S
      have i13 : i < 13 := by
        rcases Nat.lt_or_ge i 13 with q | q
        · exact q
        · have e := pfRun_stay hz (i - 13)
          rw [Nat.add_sub_cancel' q, hpf] at e
          exact absurd ((congrArg Prod.fst e).trans hz) hg
      match i, i13 with
      | 0, _ =>
        k_steps
        · k_dflt (refine' append_led ?ap1 ?ap2 hm hns ?_; (case ap1 => k_asm); (case ap2 => k_asm))
          intro h7 ny7 F7 N7 S7 m7
          have hS7 := hSf _ _ _ hm S7
          have hb7 := hsub _ S7
          rename Spec.bitAnd g _ ≠ 0 => hbit
          have e7 : pfRun f (0 + 1) = (Spec.bitXor g (bitF 0), ns ++ [nmF 0]) := by
            show pfStep (pfRun f 0) 0 = _
            rw [hpf]; exact if_neg hbit
          k_steps
          · rename Spec.bitXor g _ ≠ 0 => hx
            refine ⟨_, _, _, _, rfl, by k_asm, by k_asm, hS7, ⟨?tm1, ?ex1⟩⟩
            (case ex1 => exact ⟨_, by with_unfolding_all rfl, ⟨_, _, _, _, _, rfl, e7, hx, m7, strs_snoc hs _ _, by rw [List.length_append]; exact Nat.succ_le_succ hle, hb7⟩⟩)
            (case tm1 => repeat (first | exact Tmp.mid | refine Tmp.step ?_ (by decide +kernel) | refine Tmp.inn ?_ (by decide +kernel)))
          · rename Spec.bitXor g _ = 0 => hx
            have e8 : pfRun f 13 = (0, ns ++ [nmF 0]) := by
              have q := pfRun_stay (f := f) (a := 0 + 1) (by rw [e7]; exact hx) (12 - 0)
              rw [e7] at q
              exact q.trans (by rw [show Spec.bitXor g (bitF 0) = 0 from hx])
            rw [e8] at hw
            dsimp only [ForPost]
            k_steps
            k_dflt (refine' join_listW ?jp1 ?jp2 ?jp3 hw ?_; (case jp1 => exact PySem.IsL.isList (n := _) (News.get (by k_asm) m7)); (case jp2 => exact strs_snoc hs _ _); (case jp3 => decide))
            intro t9 k9
            k_steps
            exact hret _ _ _ _ (by k_asm) (by k_asm) ⟨⟨t9, by rw [txtF, e8]⟩, hb7⟩
        · rename Spec.bitAnd g _ = 0 => hbit
          have e7 : pfRun f (0 + 1) = (g, ns) := by
            show pfStep (pfRun f 0) 0 = _
            rw [hpf]; exact if_pos hbit
          refine ⟨_, _, _, _, rfl, by k_asm, by k_asm, hS, ⟨?tm2, .int g tg, ?hy2, ⟨_, _, _, _, _, rfl, e7, hg, hm, hs, Nat.le_succ_of_le hle, hb⟩⟩⟩
          (case tm2 => repeat (first | exact Tmp.mid | refine Tmp.step ?_ (by decide +kernel) | refine Tmp.inn ?_ (by decide +kernel)))
          (case hy2 => with_unfolding_all rfl)
      | 1, _ =>
        k_steps
        · k_dflt (refine' append_led ?ap1 ?ap2 hm hns ?_; (case ap1 => k_asm); (case ap2 => k_asm))
          intro h7 ny7 F7 N7 S7 m7
          have hS7 := hSf _ _ _ hm S7
          have hb7 := hsub _ S7
          rename Spec.bitAnd g _ ≠ 0 => hbit
          have e7 : pfRun f (1 + 1) = (Spec.bitXor g (bitF 1), ns ++ [nmF 1]) := by
            show pfStep (pfRun f 1) 1 = _
            rw [hpf]; exact if_neg hbit
          k_steps
          · rename Spec.bitXor g _ ≠ 0 => hx
            refine ⟨_, _, _, _, rfl, by k_asm, by k_asm, hS7, ⟨?tm1, ?ex1⟩⟩
            (case ex1 => exact ⟨_, by with_unfolding_all rfl, ⟨_, _, _, _, _, rfl, e7, hx, m7, strs_snoc hs _ _, by rw [List.length_append]; exact Nat.succ_le_succ hle, hb7⟩⟩)
            (case tm1 => repeat (first | exact Tmp.mid | refine Tmp.step ?_ (by decide +kernel) | refine Tmp.inn ?_ (by decide +kernel)))
          · rename Spec.bitXor g _ = 0 => hx
            have e8 : pfRun f 13 = (0, ns ++ [nmF 1]) := by
              have q := pfRun_stay (f := f) (a := 1 + 1) (by rw [e7]; exact hx) (12 - 1)
              rw [e7] at q
              exact q.trans (by rw [show Spec.bitXor g (bitF 1) = 0 from hx])
            rw [e8] at hw
            dsimp only [ForPost]
            k_steps
            k_dflt (refine' join_listW ?jp1 ?jp2 ?jp3 hw ?_; (case jp1 => exact PySem.IsL.isList (n := _) (News.get (by k_asm) m7)); (case jp2 => exact strs_snoc hs _ _); (case jp3 => decide))
            intro t9 k9
            k_steps
            exact hret _ _ _ _ (by k_asm) (by k_asm) ⟨⟨t9, by rw [txtF, e8]⟩, hb7⟩
        · rename Spec.bitAnd g _ = 0 => hbit
          have e7 : pfRun f (1 + 1) = (g, ns) := by
            show pfStep (pfRun f 1) 1 = _
            rw [hpf]; exact if_pos hbit
          refine ⟨_, _, _, _, rfl, by k_asm, by k_asm, hS, ⟨?tm2, .int g tg, ?hy2, ⟨_, _, _, _, _, rfl, e7, hg, hm, hs, Nat.le_succ_of_le hle, hb⟩⟩⟩
          (case tm2 => repeat (first | exact Tmp.mid | refine Tmp.step ?_ (by decide +kernel) | refine Tmp.inn ?_ (by decide +kernel)))
          (case hy2 => with_unfolding_all rfl)
      | 2, _ =>
        k_steps
        · k_dflt (refine' append_led ?ap1 ?ap2 hm hns ?_; (case ap1 => k_asm); (case ap2 => k_asm))
          intro h7 ny7 F7 N7 S7 m7
          have hS7 := hSf _ _ _ hm S7
          have hb7 := hsub _ S7
          rename Spec.bitAnd g _ ≠ 0 => hbit
          have e7 : pfRun f (2 + 1) = (Spec.bitXor g (bitF 2), ns ++ [nmF 2]) := by
            show pfStep (pfRun f 2) 2 = _
            rw [hpf]; exact if_neg hbit
          k_steps
          · rename Spec.bitXor g _ ≠ 0 => hx
            refine ⟨_, _, _, _, rfl, by k_asm, by k_asm, hS7, ⟨?tm1, ?ex1⟩⟩
            (case ex1 => exact ⟨_, by with_unfolding_all rfl, ⟨_, _, _, _, _, rfl, e7, hx, m7, strs_snoc hs _ _, by rw [List.length_append]; exact Nat.succ_le_succ hle, hb7⟩⟩)
            (case tm1 => repeat (first | exact Tmp.mid | refine Tmp.step ?_ (by decide +kernel) | refine Tmp.inn ?_ (by decide +kernel)))
          · rename Spec.bitXor g _ = 0 => hx
            have e8 : pfRun f 13 = (0, ns ++ [nmF 2]) := by
              have q := pfRun_stay (f := f) (a := 2 + 1) (by rw [e7]; exact hx) (12 - 2)
              rw [e7] at q
              exact q.trans (by rw [show Spec.bitXor g (bitF 2) = 0 from hx])
            rw [e8] at hw
            dsimp only [ForPost]
            k_steps
            k_dflt (refine' join_listW ?jp1 ?jp2 ?jp3 hw ?_; (case jp1 => exact PySem.IsL.isList (n := _) (News.get (by k_asm) m7)); (case jp2 => exact strs_snoc hs _ _); (case jp3 => decide))
            intro t9 k9
            k_steps
            exact hret _ _ _ _ (by k_asm) (by k_asm) ⟨⟨t9, by rw [txtF, e8]⟩, hb7⟩
        · rename Spec.bitAnd g _ = 0 => hbit
          have e7 : pfRun f (2 + 1) = (g, ns) := by
            show pfStep (pfRun f 2) 2 = _
            rw [hpf]; exact if_pos hbit
          refine ⟨_, _, _, _, rfl, by k_asm, by k_asm, hS, ⟨?tm2, .int g tg, ?hy2, ⟨_, _, _, _, _, rfl, e7, hg, hm, hs, Nat.le_succ_of_le hle, hb⟩⟩⟩
          (case tm2 => repeat (first | exact Tmp.mid | refine Tmp.step ?_ (by decide +kernel) | refine Tmp.inn ?_ (by decide +kernel)))
          (case hy2 => with_unfolding_all rfl)
      | 3, _ =>
        k_steps
        · k_dflt (refine' append_led ?ap1 ?ap2 hm hns ?_; (case ap1 => k_asm); (case ap2 => k_asm))
          intro h7 ny7 F7 N7 S7 m7
          have hS7 := hSf _ _ _ hm S7
          have hb7 := hsub _ S7
          rename Spec.bitAnd g _ ≠ 0 => hbit
          have e7 : pfRun f (3 + 1) = (Spec.bitXor g (bitF 3), ns ++ [nmF 3]) := by
            show pfStep (pfRun f 3) 3 = _
            rw [hpf]; exact if_neg hbit
          k_steps
          · rename Spec.bitXor g _ ≠ 0 => hx
            refine ⟨_, _, _, _, rfl, by k_asm, by k_asm, hS7, ⟨?tm1, ?ex1⟩⟩
            (case ex1 => exact ⟨_, by with_unfolding_all rfl, ⟨_, _, _, _, _, rfl, e7, hx, m7, strs_snoc hs _ _, by rw [List.length_append]; exact Nat.succ_le_succ hle, hb7⟩⟩)
            (case tm1 => repeat (first | exact Tmp.mid | refine Tmp.step ?_ (by decide +kernel) | refine Tmp.inn ?_ (by decide +kernel)))
          · rename Spec.bitXor g _ = 0 => hx
            have e8 : pfRun f 13 = (0, ns ++ [nmF 3]) := by
              have q := pfRun_stay (f := f) (a := 3 + 1) (by rw [e7]; exact hx) (12 - 3)
              rw [e7] at q
              exact q.trans (by rw [show Spec.bitXor g (bitF 3) = 0 from hx])
            rw [e8] at hw
            dsimp only [ForPost]
            k_steps
            k_dflt (refine' join_listW ?jp1 ?jp2 ?jp3 hw ?_; (case jp1 => exact PySem.IsL.isList (n := _) (News.get (by k_asm) m7)); (case jp2 => exact strs_snoc hs _ _); (case jp3 => decide))
            intro t9 k9
            k_steps
            exact hret _ _ _ _ (by k_asm) (by k_asm) ⟨⟨t9, by rw [txtF, e8]⟩, hb7⟩
        · rename Spec.bitAnd g _ = 0 => hbit
          have e7 : pfRun f (3 + 1) = (g, ns) := by
            show pfStep (pfRun f 3) 3 = _
            rw [hpf]; exact if_pos hbit
          refine ⟨_, _, _, _, rfl, by k_asm, by k_asm, hS, ⟨?tm2, .int g tg, ?hy2, ⟨_, _, _, _, _, rfl, e7, hg, hm, hs, Nat.le_succ_of_le hle, hb⟩⟩⟩
          (case tm2 => repeat (first | exact Tmp.mid | refine Tmp.step ?_ (by decide +kernel) | refine Tmp.inn ?_ (by decide +kernel)))
          (case hy2 => with_unfolding_all rfl)
      | 4, _ =>
        k_steps
        · k_dflt (refine' append_led ?ap1 ?ap2 hm hns ?_; (case ap1 => k_asm); (case ap2 => k_asm))
          intro h7 ny7 F7 N7 S7 m7
          have hS7 := hSf _ _ _ hm S7
          have hb7 := hsub _ S7
          rename Spec.bitAnd g _ ≠ 0 => hbit
          have e7 : pfRun f (4 + 1) = (Spec.bitXor g (bitF 4), ns ++ [nmF 4]) := by
            show pfStep (pfRun f 4) 4 = _
            rw [hpf]; exact if_neg hbit
          k_steps
          · rename Spec.bitXor g _ ≠ 0 => hx
            refine ⟨_, _, _, _, rfl, by k_asm, by k_asm, hS7, ⟨?tm1, ?ex1⟩⟩
            (case ex1 => exact ⟨_, by with_unfolding_all rfl, ⟨_, _, _, _, _, rfl, e7, hx, m7, strs_snoc hs _ _, by rw [List.length_append]; exact Nat.succ_le_succ hle, hb7⟩⟩)
            (case tm1 => repeat (first | exact Tmp.mid | refine Tmp.step ?_ (by decide +kernel) | refine Tmp.inn ?_ (by decide +kernel)))
          · rename Spec.bitXor g _ = 0 => hx
            have e8 : pfRun f 13 = (0, ns ++ [nmF 4]) := by
              have q := pfRun_stay (f := f) (a := 4 + 1) (by rw [e7]; exact hx) (12 - 4)
              rw [e7] at q
              exact q.trans (by rw [show Spec.bitXor g (bitF 4) = 0 from hx])
            rw [e8] at hw
            dsimp only [ForPost]
            k_steps
            k_dflt (refine' join_listW ?jp1 ?jp2 ?jp3 hw ?_; (case jp1 => exact PySem.IsL.isList (n := _) (News.get (by k_asm) m7)); (case jp2 => exact strs_snoc hs _ _); (case jp3 => decide))
            intro t9 k9
            k_steps
            exact hret _ _ _ _ (by k_asm) (by k_asm) ⟨⟨t9, by rw [txtF, e8]⟩, hb7⟩
        · rename Spec.bitAnd g _ = 0 => hbit
          have e7 : pfRun f (4 + 1) = (g, ns) := by
            show pfStep (pfRun f 4) 4 = _
            rw [hpf]; exact if_pos hbit
          refine ⟨_, _, _, _, rfl, by k_asm, by k_asm, hS, ⟨?tm2, .int g tg, ?hy2, ⟨_, _, _, _, _, rfl, e7, hg, hm, hs, Nat.le_succ_of_le hle, hb⟩⟩⟩
          (case tm2 => repeat (first | exact Tmp.mid | refine Tmp.step ?_ (by decide +kernel) | refine Tmp.inn ?_ (by decide +kernel)))
          (case hy2 => with_unfolding_all rfl)
      | 5, _ =>
        k_steps
        · k_dflt (refine' append_led ?ap1 ?ap2 hm hns ?_; (case ap1 => k_asm); (case ap2 => k_asm))
          intro h7 ny7 F7 N7 S7 m7
          have hS7 := hSf _ _ _ hm S7
          have hb7 := hsub _ S7
          rename Spec.bitAnd g _ ≠ 0 => hbit
          have e7 : pfRun f (5 + 1) = (Spec.bitXor g (bitF 5), ns ++ [nmF 5]) := by
            show pfStep (pfRun f 5) 5 = _
            rw [hpf]; exact if_neg hbit
          k_steps
          · rename Spec.bitXor g _ ≠ 0 => hx
            refine ⟨_, _, _, _, rfl, by k_asm, by k_asm, hS7, ⟨?tm1, ?ex1⟩⟩
            (case ex1 => exact ⟨_, by with_unfolding_all rfl, ⟨_, _, _, _, _, rfl, e7, hx, m7, strs_snoc hs _ _, by rw [List.length_append]; exact Nat.succ_le_succ hle, hb7⟩⟩)
            (case tm1 => repeat (first | exact Tmp.mid | refine Tmp.step ?_ (by decide +kernel) | refine Tmp.inn ?_ (by decide +kernel)))
          · rename Spec.bitXor g _ = 0 => hx
            have e8 : pfRun f 13 = (0, ns ++ [nmF 5]) := by
              have q := pfRun_stay (f := f) (a := 5 + 1) (by rw [e7]; exact hx) (12 - 5)
              rw [e7] at q
              exact q.trans (by rw [show Spec.bitXor g (bitF 5) = 0 from hx])
            rw [e8] at hw
            dsimp only [ForPost]
            k_steps
            k_dflt (refine' join_listW ?jp1 ?jp2 ?jp3 hw ?_; (case jp1 => exact PySem.IsL.isList (n := _) (News.get (by k_asm) m7)); (case jp2 => exact strs_snoc hs _ _); (case jp3 => decide))
            intro t9 k9
            k_steps
            exact hret _ _ _ _ (by k_asm) (by k_asm) ⟨⟨t9, by rw [txtF, e8]⟩, hb7⟩
        · rename Spec.bitAnd g _ = 0 => hbit
          have e7 : pfRun f (5 + 1) = (g, ns) := by
            show pfStep (pfRun f 5) 5 = _
            rw [hpf]; exact if_pos hbit
          refine ⟨_, _, _, _, rfl, by k_asm, by k_asm, hS, ⟨?tm2, .int g tg, ?hy2, ⟨_, _, _, _, _, rfl, e7, hg, hm, hs, Nat.le_succ_of_le hle, hb⟩⟩⟩
          (case tm2 => repeat (first | exact Tmp.mid | refine Tmp.step ?_ (by decide +kernel) | refine Tmp.inn ?_ (by decide +kernel)))
          (case hy2 => with_unfolding_all rfl)
      | 6, _ =>
        k_steps
        · k_dflt (refine' append_led ?ap1 ?ap2 hm hns ?_; (case ap1 => k_asm); (case ap2 => k_asm))
          intro h7 ny7 F7 N7 S7 m7
          have hS7 := hSf _ _ _ hm S7
          have hb7 := hsub _ S7
          rename Spec.bitAnd g _ ≠ 0 => hbit
          have e7 : pfRun f (6 + 1) = (Spec.bitXor g (bitF 6), ns ++ [nmF 6]) := by
            show pfStep (pfRun f 6) 6 = _
            rw [hpf]; exact if_neg hbit
          k_steps
          · rename Spec.bitXor g _ ≠ 0 => hx
            refine ⟨_, _, _, _, rfl, by k_asm, by k_asm, hS7, ⟨?tm1, ?ex1⟩⟩
            (case ex1 => exact ⟨_, by with_unfolding_all rfl, ⟨_, _, _, _, _, rfl, e7, hx, m7, strs_snoc hs _ _, by rw [List.length_append]; exact Nat.succ_le_succ hle, hb7⟩⟩)
            (case tm1 => repeat (first | exact Tmp.mid | refine Tmp.step ?_ (by decide +kernel) | refine Tmp.inn ?_ (by decide +kernel)))
          · rename Spec.bitXor g _ = 0 => hx
            have e8 : pfRun f 13 = (0, ns ++ [nmF 6]) := by
              have q := pfRun_stay (f := f) (a := 6 + 1) (by rw [e7]; exact hx) (12 - 6)
              rw [e7] at q
              exact q.trans (by rw [show Spec.bitXor g (bitF 6) = 0 from hx])
            rw [e8] at hw
            dsimp only [ForPost]
            k_steps
            k_dflt (refine' join_listW ?jp1 ?jp2 ?jp3 hw ?_; (case jp1 => exact PySem.IsL.isList (n := _) (News.get (by k_asm) m7)); (case jp2 => exact strs_snoc hs _ _); (case jp3 => decide))
            intro t9 k9
            k_steps
            exact hret _ _ _ _ (by k_asm) (by k_asm) ⟨⟨t9, by rw [txtF, e8]⟩, hb7⟩
        · rename Spec.bitAnd g _ = 0 => hbit
          have e7 : pfRun f (6 + 1) = (g, ns) := by
            show pfStep (pfRun f 6) 6 = _
            rw [hpf]; exact if_pos hbit
          refine ⟨_, _, _, _, rfl, by k_asm, by k_asm, hS, ⟨?tm2, .int g tg, ?hy2, ⟨_, _, _, _, _, rfl, e7, hg, hm, hs, Nat.le_succ_of_le hle, hb⟩⟩⟩
          (case tm2 => repeat (first | exact Tmp.mid | refine Tmp.step ?_ (by decide +kernel) | refine Tmp.inn ?_ (by decide +kernel)))
          (case hy2 => with_unfolding_all rfl)
      | 7, _ =>
        k_steps
        · k_dflt (refine' append_led ?ap1 ?ap2 hm hns ?_; (case ap1 => k_asm); (case ap2 => k_asm))
          intro h7 ny7 F7 N7 S7 m7
          have hS7 := hSf _ _ _ hm S7
          have hb7 := hsub _ S7
          rename Spec.bitAnd g _ ≠ 0 => hbit
          have e7 : pfRun f (7 + 1) = (Spec.bitXor g (bitF 7), ns ++ [nmF 7]) := by
            show pfStep (pfRun f 7) 7 = _
            rw [hpf]; exact if_neg hbit
          k_steps
          · rename Spec.bitXor g _ ≠ 0 => hx
            refine ⟨_, _, _, _, rfl, by k_asm, by k_asm, hS7, ⟨?tm1, ?ex1⟩⟩
            (case ex1 => exact ⟨_, by with_unfolding_all rfl, ⟨_, _, _, _, _, rfl, e7, hx, m7, strs_snoc hs _ _, by rw [List.length_append]; exact Nat.succ_le_succ hle, hb7⟩⟩)
            (case tm1 => repeat (first | exact Tmp.mid | refine Tmp.step ?_ (by decide +kernel) | refine Tmp.inn ?_ (by decide +kernel)))
          · rename Spec.bitXor g _ = 0 => hx
            have e8 : pfRun f 13 = (0, ns ++ [nmF 7]) := by
              have q := pfRun_stay (f := f) (a := 7 + 1) (by rw [e7]; exact hx) (12 - 7)
              rw [e7] at q
              exact q.trans (by rw [show Spec.bitXor g (bitF 7) = 0 from hx])
            rw [e8] at hw
            dsimp only [ForPost]
            k_steps
            k_dflt (refine' join_listW ?jp1 ?jp2 ?jp3 hw ?_; (case jp1 => exact PySem.IsL.isList (n := _) (News.get (by k_asm) m7)); (case jp2 => exact strs_snoc hs _ _); (case jp3 => decide))
            intro t9 k9
            k_steps
            exact hret _ _ _ _ (by k_asm) (by k_asm) ⟨⟨t9, by rw [txtF, e8]⟩, hb7⟩
        · rename Spec.bitAnd g _ = 0 => hbit
          have e7 : pfRun f (7 + 1) = (g, ns) := by
            show pfStep (pfRun f 7) 7 = _
            rw [hpf]; exact if_pos hbit
          refine ⟨_, _, _, _, rfl, by k_asm, by k_asm, hS, ⟨?tm2, .int g tg, ?hy2, ⟨_, _, _, _, _, rfl, e7, hg, hm, hs, Nat.le_succ_of_le hle, hb⟩⟩⟩
          (case tm2 => repeat (first | exact Tmp.mid | refine Tmp.step ?_ (by decide +kernel) | refine Tmp.inn ?_ (by decide +kernel)))
          (case hy2 => with_unfolding_all rfl)
      | 8, _ =>
        k_steps
        · k_dflt (refine' append_led ?ap1 ?ap2 hm hns ?_; (case ap1 => k_asm); (case ap2 => k_asm))
          intro h7 ny7 F7 N7 S7 m7
          have hS7 := hSf _ _ _ hm S7
          have hb7 := hsub _ S7
          rename Spec.bitAnd g _ ≠ 0 => hbit
          have e7 : pfRun f (8 + 1) = (Spec.bitXor g (bitF 8), ns ++ [nmF 8]) := by
            show pfStep (pfRun f 8) 8 = _
            rw [hpf]; exact if_neg hbit
          k_steps
          · rename Spec.bitXor g _ ≠ 0 => hx
            refine ⟨_, _, _, _, rfl, by k_asm, by k_asm, hS7, ⟨?tm1, ?ex1⟩⟩
            (case ex1 => exact ⟨_, by with_unfolding_all rfl, ⟨_, _, _, _, _, rfl, e7, hx, m7, strs_snoc hs _ _, by rw [List.length_append]; exact Nat.succ_le_succ hle, hb7⟩⟩)
            (case tm1 => repeat (first | exact Tmp.mid | refine Tmp.step ?_ (by decide +kernel) | refine Tmp.inn ?_ (by decide +kernel)))
          · rename Spec.bitXor g _ = 0 => hx
            have e8 : pfRun f 13 = (0, ns ++ [nmF 8]) := by
              have q := pfRun_stay (f := f) (a := 8 + 1) (by rw [e7]; exact hx) (12 - 8)
              rw [e7] at q
              exact q.trans (by rw [show Spec.bitXor g (bitF 8) = 0 from hx])
            rw [e8] at hw
            dsimp only [ForPost]
            k_steps
            k_dflt (refine' join_listW ?jp1 ?jp2 ?jp3 hw ?_; (case jp1 => exact PySem.IsL.isList (n := _) (News.get (by k_asm) m7)); (case jp2 => exact strs_snoc hs _ _); (case jp3 => decide))
            intro t9 k9
            k_steps
            exact hret _ _ _ _ (by k_asm) (by k_asm) ⟨⟨t9, by rw [txtF, e8]⟩, hb7⟩
        · rename Spec.bitAnd g _ = 0 => hbit
          have e7 : pfRun f (8 + 1) = (g, ns) := by
            show pfStep (pfRun f 8) 8 = _
            rw [hpf]; exact if_pos hbit
          refine ⟨_, _, _, _, rfl, by k_asm, by k_asm, hS, ⟨?tm2, .int g tg, ?hy2, ⟨_, _, _, _, _, rfl, e7, hg, hm, hs, Nat.le_succ_of_le hle, hb⟩⟩⟩
          (case tm2 => repeat (first | exact Tmp.mid | refine Tmp.step ?_ (by decide +kernel) | refine Tmp.inn ?_ (by decide +kernel)))
          (case hy2 => with_unfolding_all rfl)
      | 9, _ =>
        k_steps
        · k_dflt (refine' append_led ?ap1 ?ap2 hm hns ?_; (case ap1 => k_asm); (case ap2 => k_asm))
          intro h7 ny7 F7 N7 S7 m7
          have hS7 := hSf _ _ _ hm S7
          have hb7 := hsub _ S7
          rename Spec.bitAnd g _ ≠ 0 => hbit
          have e7 : pfRun f (9 + 1) = (Spec.bitXor g (bitF 9), ns ++ [nmF 9]) := by
            show pfStep (pfRun f 9) 9 = _
            rw [hpf]; exact if_neg hbit
          k_steps
          · rename Spec.bitXor g _ ≠ 0 => hx
            refine ⟨_, _, _, _, rfl, by k_asm, by k_asm, hS7, ⟨?tm1, ?ex1⟩⟩
            (case ex1 => exact ⟨_, by with_unfolding_all rfl, ⟨_, _, _, _, _, rfl, e7, hx, m7, strs_snoc hs _ _, by rw [List.length_append]; exact Nat.succ_le_succ hle, hb7⟩⟩)
            (case tm1 => repeat (first | exact Tmp.mid | refine Tmp.step ?_ (by decide +kernel) | refine Tmp.inn ?_ (by decide +kernel)))
          · rename Spec.bitXor g _ = 0 => hx
            have e8 : pfRun f 13 = (0, ns ++ [nmF 9]) := by
              have q := pfRun_stay (f := f) (a := 9 + 1) (by rw [e7]; exact hx) (12 - 9)
              rw [e7] at q
              exact q.trans (by rw [show Spec.bitXor g (bitF 9) = 0 from hx])
            rw [e8] at hw
            dsimp only [ForPost]
            k_steps
            k_dflt (refine' join_listW ?jp1 ?jp2 ?jp3 hw ?_; (case jp1 => exact PySem.IsL.isList (n := _) (News.get (by k_asm) m7)); (case jp2 => exact strs_snoc hs _ _); (case jp3 => decide))
            intro t9 k9
            k_steps
            exact hret _ _ _ _ (by k_asm) (by k_asm) ⟨⟨t9, by rw [txtF, e8]⟩, hb7⟩
        · rename Spec.bitAnd g _ = 0 => hbit
          have e7 : pfRun f (9 + 1) = (g, ns) := by
            show pfStep (pfRun f 9) 9 = _
            rw [hpf]; exact if_pos hbit
          refine ⟨_, _, _, _, rfl, by k_asm, by k_asm, hS, ⟨?tm2, .int g tg, ?hy2, ⟨_, _, _, _, _, rfl, e7, hg, hm, hs, Nat.le_succ_of_le hle, hb⟩⟩⟩
          (case tm2 => repeat (first | exact Tmp.mid | refine Tmp.step ?_ (by decide +kernel) | refine Tmp.inn ?_ (by decide +kernel)))
          (case hy2 => with_unfolding_all rfl)
      | 10, _ =>
        k_steps
        · k_dflt (refine' append_led ?ap1 ?ap2 hm hns ?_; (case ap1 => k_asm); (case ap2 => k_asm))
          intro h7 ny7 F7 N7 S7 m7
          have hS7 := hSf _ _ _ hm S7
          have hb7 := hsub _ S7
          rename Spec.bitAnd g _ ≠ 0 => hbit
          have e7 : pfRun f (10 + 1) = (Spec.bitXor g (bitF 10), ns ++ [nmF 10]) := by
            show pfStep (pfRun f 10) 10 = _
            rw [hpf]; exact if_neg hbit
          k_steps
          · rename Spec.bitXor g _ ≠ 0 => hx
            refine ⟨_, _, _, _, rfl, by k_asm, by k_asm, hS7, ⟨?tm1, ?ex1⟩⟩
            (case ex1 => exact ⟨_, by with_unfolding_all rfl, ⟨_, _, _, _, _, rfl, e7, hx, m7, strs_snoc hs _ _, by rw [List.length_append]; exact Nat.succ_le_succ hle, hb7⟩⟩)
            (case tm1 => repeat (first | exact Tmp.mid | refine Tmp.step ?_ (by decide +kernel) | refine Tmp.inn ?_ (by decide +kernel)))
          · rename Spec.bitXor g _ = 0 => hx
            have e8 : pfRun f 13 = (0, ns ++ [nmF 10]) := by
              have q := pfRun_stay (f := f) (a := 10 + 1) (by rw [e7]; exact hx) (12 - 10)
              rw [e7] at q
              exact q.trans (by rw [show Spec.bitXor g (bitF 10) = 0 from hx])
            rw [e8] at hw
            dsimp only [ForPost]
            k_steps
            k_dflt (refine' join_listW ?jp1 ?jp2 ?jp3 hw ?_; (case jp1 => exact PySem.IsL.isList (n := _) (News.get (by k_asm) m7)); (case jp2 => exact strs_snoc hs _ _); (case jp3 => decide))
            intro t9 k9
            k_steps
            exact hret _ _ _ _ (by k_asm) (by k_asm) ⟨⟨t9, by rw [txtF, e8]⟩, hb7⟩
        · rename Spec.bitAnd g _ = 0 => hbit
          have e7 : pfRun f (10 + 1) = (g, ns) := by
            show pfStep (pfRun f 10) 10 = _
            rw [hpf]; exact if_pos hbit
          refine ⟨_, _, _, _, rfl, by k_asm, by k_asm, hS, ⟨?tm2, .int g tg, ?hy2, ⟨_, _, _, _, _, rfl, e7, hg, hm, hs, Nat.le_succ_of_le hle, hb⟩⟩⟩
          (case tm2 => repeat (first | exact Tmp.mid | refine Tmp.step ?_ (by decide +kernel) | refine Tmp.inn ?_ (by decide +kernel)))
          (case hy2 => with_unfolding_all rfl)
      | 11, _ =>
        k_steps
        · k_dflt (refine' append_led ?ap1 ?ap2 hm hns ?_; (case ap1 => k_asm); (case ap2 => k_asm))
          intro h7 ny7 F7 N7 S7 m7
          have hS7 := hSf _ _ _ hm S7
          have hb7 := hsub _ S7
          rename Spec.bitAnd g _ ≠ 0 => hbit
          have e7 : pfRun f (11 + 1) = (Spec.bitXor g (bitF 11), ns ++ [nmF 11]) := by
            show pfStep (pfRun f 11) 11 = _
            rw [hpf]; exact if_neg hbit
          k_steps
          · rename Spec.bitXor g _ ≠ 0 => hx
            refine ⟨_, _, _, _, rfl, by k_asm, by k_asm, hS7, ⟨?tm1, ?ex1⟩⟩
            (case ex1 => exact ⟨_, by with_unfolding_all rfl, ⟨_, _, _, _, _, rfl, e7, hx, m7, strs_snoc hs _ _, by rw [List.length_append]; exact Nat.succ_le_succ hle, hb7⟩⟩)
            (case tm1 => repeat (first | exact Tmp.mid | refine Tmp.step ?_ (by decide +kernel) | refine Tmp.inn ?_ (by decide +kernel)))
          · rename Spec.bitXor g _ = 0 => hx
            have e8 : pfRun f 13 = (0, ns ++ [nmF 11]) := by
              have q := pfRun_stay (f := f) (a := 11 + 1) (by rw [e7]; exact hx) (12 - 11)
              rw [e7] at q
              exact q.trans (by rw [show Spec.bitXor g (bitF 11) = 0 from hx])
            rw [e8] at hw
            dsimp only [ForPost]
            k_steps
            k_dflt (refine' join_listW ?jp1 ?jp2 ?jp3 hw ?_; (case jp1 => exact PySem.IsL.isList (n := _) (News.get (by k_asm) m7)); (case jp2 => exact strs_snoc hs _ _); (case jp3 => decide))
            intro t9 k9
            k_steps
            exact hret _ _ _ _ (by k_asm) (by k_asm) ⟨⟨t9, by rw [txtF, e8]⟩, hb7⟩
        · rename Spec.bitAnd g _ = 0 => hbit
          have e7 : pfRun f (11 + 1) = (g, ns) := by
            show pfStep (pfRun f 11) 11 = _
            rw [hpf]; exact if_pos hbit
          refine ⟨_, _, _, _, rfl, by k_asm, by k_asm, hS, ⟨?tm2, .int g tg, ?hy2, ⟨_, _, _, _, _, rfl, e7, hg, hm, hs, Nat.le_succ_of_le hle, hb⟩⟩⟩
          (case tm2 => repeat (first | exact Tmp.mid | refine Tmp.step ?_ (by decide +kernel) | refine Tmp.inn ?_ (by decide +kernel)))
          (case hy2 => with_unfolding_all rfl)
      | 12, _ =>
        k_steps
        · k_dflt (refine' append_led ?ap1 ?ap2 hm hns ?_; (case ap1 => k_asm); (case ap2 => k_asm))
          intro h7 ny7 F7 N7 S7 m7
          have hS7 := hSf _ _ _ hm S7
          have hb7 := hsub _ S7
          rename Spec.bitAnd g _ ≠ 0 => hbit
          have e7 : pfRun f (12 + 1) = (Spec.bitXor g (bitF 12), ns ++ [nmF 12]) := by
            show pfStep (pfRun f 12) 12 = _
            rw [hpf]; exact if_neg hbit
          k_steps
          · rename Spec.bitXor g _ ≠ 0 => hx
            refine ⟨_, _, _, _, rfl, by k_asm, by k_asm, hS7, ⟨?tm1, ?ex1⟩⟩
            (case ex1 => exact ⟨_, by with_unfolding_all rfl, ⟨_, _, _, _, _, rfl, e7, hx, m7, strs_snoc hs _ _, by rw [List.length_append]; exact Nat.succ_le_succ hle, hb7⟩⟩)
            (case tm1 => repeat (first | exact Tmp.mid | refine Tmp.step ?_ (by decide +kernel) | refine Tmp.inn ?_ (by decide +kernel)))
          · rename Spec.bitXor g _ = 0 => hx
            have e8 : pfRun f 13 = (0, ns ++ [nmF 12]) := by
              exact e7.trans (by rw [show Spec.bitXor g (bitF 12) = 0 from hx])
            rw [e8] at hw
            dsimp only [ForPost]
            k_steps
            k_dflt (refine' join_listW ?jp1 ?jp2 ?jp3 hw ?_; (case jp1 => exact PySem.IsL.isList (n := _) (News.get (by k_asm) m7)); (case jp2 => exact strs_snoc hs _ _); (case jp3 => decide))
            intro t9 k9
            k_steps
            exact hret _ _ _ _ (by k_asm) (by k_asm) ⟨⟨t9, by rw [txtF, e8]⟩, hb7⟩
        · rename Spec.bitAnd g _ = 0 => hbit
          have e7 : pfRun f (12 + 1) = (g, ns) := by
            show pfStep (pfRun f 12) 12 = _
            rw [hpf]; exact if_pos hbit
          refine ⟨_, _, _, _, rfl, by k_asm, by k_asm, hS, ⟨?tm2, .int g tg, ?hy2, ⟨_, _, _, _, _, rfl, e7, hg, hm, hs, Nat.le_succ_of_le hle, hb⟩⟩⟩
          (case tm2 => repeat (first | exact Tmp.mid | refine Tmp.step ?_ (by decide +kernel) | refine Tmp.inn ?_ (by decide +kernel)))
          (case hy2 => with_unfolding_all rfl)
      | n + 13, h => exact absurd h (by omega))

end Mine
end
section
open PySem PySem.W PyProof.Rows PyProof.Rows.LCg
namespace Mine
set_option maxRecDepth 100000
set_option maxHeartbeats 1000000
variable (w : World) (p : Program) (loose : List Str) (mean : ExcName → Option Value) (mg mb : Str → Option Value)
local macro_rules | `(tactic| k_mem) => `(tactic| first | assumption | exact List.Mem.head _ | (refine List.mem_cons_of_mem _ ?_; k_mem) | (refine mem_grow (by assumption) ?_; k_mem))
local macro_rules | `(tactic| ktd_sub) => `(tactic| first | assumption | exact fun _ h => h | (refine sub_cons ?_; ktd_sub) | (refine sub_grow (by assumption) ?_; ktd_sub))
local macro_rules | `(tactic| ktn_ord) => `(tactic| first | assumption | exact Grow.refl _ | (refine Grow.cons ?_ (by ktn_lt); ktn_ord) | (refine Grow.trans ?_ (by assumption); ktn_ord))
local macro_rules | `(tactic| ktr_rel) => `(tactic| first | assumption | exact TrIn.leaf (by k_mem) | exact TrIn.node (by k_mem) (by ktr_rel) (by ktr_rel) | exact TrIn.mono (by assumption) (by ktd_sub))
local macro_rules | `(tactic| walk_at "compareOp Eq ref ref") => `(tactic| (k_here; (with_reducible show wpAny _ _ (compareOp CmpOp.Eq (Value.ref _) (Value.ref _)) _ _ _); k_dflt (refine' eq_leaf ?k1 ?k2 ?k3 ?k4 ?k5 ?k6 ?_; (case k1 => k_asm); (case k2 => assumption); (case k3 => assumption); (case k4 => ktd_sub); (case k5 => k_mem); (case k6 => ktr_units); k_whole); (try dsimp only [Tr.isLeaf])))
local macro_rules | `(tactic| walk_at "subscriptTail") => `(tactic| (k_here; (with_reducible show wpAny _ _ (subscriptTail _ _ (Value.ref _) (Value.int ((Fin.val _ : Nat) : Int) _)) _ _ _); k_dflt (refine' str_item ?k1 ?k2 ?k3 ?_ ?k4 ?k5; (case k1 => k_asm); (case k2 => assumption); (case k3 => ktd_sub); (case k4 => with_unfolding_all rfl); (case k5 => (intro _; with_unfolding_all rfl)); k_whole); intro _))
local macro_rules | `(tactic| walk_at "subscriptTail") => `(tactic| (k_here; (with_reducible show wpAny _ _ (subscriptTail _ _ (Value.ref _) (Value.int ((Fin.val _ : Nat) : Int) _)) _ _ _); k_dflt (refine' num_item ?k1 ?k2 ?k3 ?_ ?k4 ?k5; (case k1 => k_asm); (case k2 => assumption); (case k3 => ktd_sub); (case k4 => with_unfolding_all rfl); (case k5 => (intro _; with_unfolding_all rfl)); k_whole); intro _))
local macro_rules | `(tactic| walk_at "exec For") => `(tactic| (k_here; refine wpAny_For ?forE (by intro _; rfl)))
local macro_rules | `(tactic| walk_at "exec For Name Name") => `(tactic| (k_here; refine wpAny_For ?forE (by intro _; rfl)))
local macro_rules | `(tactic| walk_at "exec For Name Call") => `(tactic| (k_here; refine wpAny_For ?forE (by intro _; rfl)))
local macro_rules | `(tactic| walk_at "exec For Tuple Call") => `(tactic| (k_here; refine wpAny_For ?forE (by intro _; rfl)))
local macro_rules | `(tactic| walk_at "exec For Name Name cons nil") => `(tactic| (k_here; refine wpAny_For ?forE (by intro _; rfl)))
local macro_rules | `(tactic| walk_at "exec For Name Call cons nil") => `(tactic| (k_here; refine wpAny_For ?forE (by intro _; rfl)))
local macro_rules | `(tactic| walk_at "exec For Tuple Call cons nil") => `(tactic| (k_here; refine wpAny_For ?forE (by intro _; rfl)))
local macro_rules | `(tactic| walk_at "exec For Name Subscript") => `(tactic| (k_here; refine wpAny_For ?forE (by intro _; rfl)))
local macro_rules | `(tactic| walk_at "exec For Name Subscript cons nil") => `(tactic| (k_here; refine wpAny_For ?forE (by intro _; rfl)))
local macro_rules | `(tactic| walk_at "exec Assign cons ListComp") => `(tactic| (k_here; k_dflt (refine' assignComp ?k1 ?k2 ?k3 ?k4 ?_ ?k5; (case k1 => with_unfolding_all rfl); (case k2 => rfl); (case k3 => rfl); (case k4 => decide); (case k5 => (intro _; rfl)))))
local macro_rules | `(tactic| walk_at "eval ListComp") => `(tactic| (k_here; k_dflt (refine' evalComp ?k2 ?k3 ?k4 ?_ ?k5; (case k2 => rfl); (case k3 => rfl); (case k4 => decide); (case k5 => (intro _; rfl)))))
local macro_rules | `(tactic| walk_at "binaryOp Mult ref int") => `(tactic| (k_here; (with_reducible show wpAny _ _ (binaryOp Operator.Mult (Value.ref _) (Value.int 16 _)) _ _ _); k_dflt (refine' mul16 ?k1 ?k2 ?k3 ?_; (case k1 => k_asm); (case k2 => k_asm); (case k3 => k_mem)); intro h6 D6 o6 F6 N6 l6 I6))
local macro_rules | `(tactic| walk_at "subscriptTail") => `(tactic| (k_here; (with_reducible show wpAny _ _ (subscriptTail _ _ (Value.ref _) (Value.int ((Fin.val _ : Nat) : Int) _)) _ _ _); k_dflt (refine' kinds_sub ?k1 ?k2 ?k3 ?_ ?k4 ?k5; (case k1 => k_asm); (case k2 => assumption); (case k3 => ktd_sub); (case k4 => with_unfolding_all rfl); (case k5 => (intro _; with_unfolding_all rfl)); k_whole)))
local macro_rules | `(tactic| walk_at "subscriptTail") => `(tactic| (k_here; (with_reducible show wpAny _ _ (subscriptTail _ _ (Value.ref _) (Value.int ((Fin.val _ : Nat) : Int) _)) _ _ _); k_dflt (refine' cnts_sub ?k1 ?k2 ?k3 ?_ ?k4 ?k5; (case k1 => k_asm); (case k2 => assumption); (case k3 => ktd_sub); (case k4 => with_unfolding_all rfl); (case k5 => (intro _; with_unfolding_all rfl)); k_whole)))

structure CntsPost (w : World) (news : Led) (c : Fin 4 → List (Str × Int)) (r : Value) (nx : Led) : Prop where
  out : ∃ (D : Addr) (cc : Fin 4 → Addr), r = .ref D ∧ Cnts w nx D cc c
  sub : ∀ p ∈ news, p ∈ nx
noncomputable def CntsI (w : World) (news : Led) (D : Addr) (cc : Fin 4 → Addr) (c : Fin 4 → List (Str × Int)) (n : Nat) (nx : Led) : Prop :=
  Cnts w nx D cc c ∧ (∀ j, (c j).length ≤ n) ∧ ∀ p ∈ news, p ∈ nx
theorem CntsI.keep {w : World} {news : Led} {D : Addr} {cc : Fin 4 → Addr} {c : Fin 4 → List (Str × Int)} {n : Nat} {nx ny : Led} {cl : List Value} (hnf : NoFields news) (h : CntsI w news D cc c n nx) (k : KeepL cl nx ny) : CntsI w news D cc c n ny :=
  ⟨h.1.keep k, h.2.1, hnf.keep h.2.2 k⟩
theorem updC_len {K : Fin 4 → List Int} {mask : Nat} {flag : Str} {C : Fin 4 → List (Str × Int)} {n : Nat} (h : ∀ j, (C j).length ≤ n) (j : Fin 4) : (updC K mask flag C j).length ≤ n + 1 := Nat.le_trans (kdpPut_len _ _ _) (Nat.succ_le_succ (h j))
theorem partC_len {K : Fin 4 → List Int} {mask : Nat} {flag : Str} {C : Fin 4 → List (Str × Int)} {n : Nat} (h : ∀ j, (C j).length ≤ n) (i : Nat) (j : Fin 4) : (partC K mask flag C i j).length ≤ n + 1 := by
  unfold partC
  split
  · exact updC_len h j
  · exact Nat.le_succ_of_le (h j)
theorem counts_fun (news : Led) (ka xa : Addr) (kk : Fin 4 → Addr) (K : Fin 4 → List Int) (hK : Kinds news ka kk K) (xvs : List Value) (xn : Nat) (TX : List Str) (hxm : (xa, listOf xvs.toArray xn) ∈ news) (hx : StrsAre xvs TX)
   (FL : Nat → List Str) (hFL : ∀ i, i < 15 → ∃ x, TX[i]? = some x ∧ Txt.split x (Str.ofString ", ") = FL i ∧ (FL i).length ≤ 4 ∧ x.length ≤ 1000) (hnf : NoFields news) :
    Fun w p loose mean mg mb 320 [.ref ka, .ref xa] news 20 400 (CntsPost w news (cntC K FL 15)) := by
    unfold Fun
    intro dp un gd cn cs a ccd cl outer A₀ base h₀ L m s Q E B F X N T hk hd hu hret
    refine wpAny_call ?_
    k_dflt ktr_enter
    k_steps
    k_dflt (refine' comp_range_assign (n := 4) (DLists w news) ?hcell ?hsz ?hkind ?hxx ?hh DLists.stable ?F ?N (by assumption) ?sm ?cnt ?start ?turn ?hL ?hy ?hp ?fin; (case hcell => decide); (case hsz => (rw [sizeLine_eq]; omega)); (case hkind => rfl); (case hxx => rfl); (case hh => rfl); (case F => k_asm); (case N => k_asm); (case sm => rfl); (case cnt => rfl); (case hL => rfl); (case hy => rfl); (case hp => rfl))
    (case start => exact fun C D ny _ _ => DLists.start C D ny)
    (case turn =>
      intro C D i t ys ny oC m₂ h tk off hi hyl hJ sub hC hNs hx hD F1 N1
      refine wpAny_tests_nil ?_
      rw [if_pos rfl]
      k_steps
      rename Obj.IsDictOf (PySem.strKind _ _) _ _ => hs'
      rename (_ == sysModules) = false => lo'
      rename News _ _ _ ((_, _) :: ny) => N3
      rename (∀ p ∈ ny, p.1 < _) => lt1
      exact ⟨_, _, _, rfl, by k_asm, N3, fun p hp => .tail _ hp, DLists.next hJ (fun p hp => .tail _ hp) ⟨lo', _, _, .head _, hs', .nil⟩ (fun p hp => Nat.ne_of_lt (lt1 p hp)) hC hD sub⟩)
    (case fin =>
      intro C D ys h2 tk2 ny hCD off hJ sub hD F2 N2
      obtain ⟨cc, hC, hcc⟩ := DLists.cnts hJ hD
      have hDn : ∀ p ∈ news, p.1 ≠ D := fun p hp => (off p hp).2
      refine wpAny_execs_cons ?_
      (try dsimp only)
      refine wpAny_For ?forX (by intro _; rfl)
      k_steps
      rename IsRange _ _ _ _ _ _ _ _ => hr
      rename News _ _ _ ny => N4
      k_dflt (refine' for_rangeT (n := 15) [Str.ofString "mask", Str.ofString "flag", Str.ofString "here"] (fun i nx => CntsI w news D cc (cntC K FL i) (4 * i) nx) ?rhh ?rF N4 hr ?rs ?rn ?rI ?rstab ?rturn ?rdone; (case rhh => rfl); (case rF => k_asm); (case rs => decide); (case rn => decide))
      (case rI => exact ⟨hC, fun j => Nat.le_refl _, sub⟩)
      (case rstab => exact fun i nx ny h k => h.keep hnf k)
      (case rdone =>
        intro u n5 h5 tk5 ⟨J1, J2, J3⟩ F5 N5
        k_steps
        exact hret _ _ _ _ (by k_asm) (by k_asm) ⟨⟨_, cc, rfl, J1⟩, J3⟩)
      (case rturn =>
        intro I i t5 u n5 h5 tk5 hi hS ⟨J1, J2, J3⟩ F5 N5
        obtain ⟨x, hx1, hx2, hx3, hx4⟩ := hFL i hi
        walk_at "assign Name"
        walk_at "storeName"
        walk_at "execs cons"
        walk_at "execs cons"
        refine wpAny_For ?forY (by intro _; rfl)
        k_steps
        k_dflt (refine' strsL_sub ?q1 (J3 _ hxm) hx ?q2 ?q3 (x := x) ?q4 ?q5 ?q6 ?q7; (case q1 => k_asm); (case q2 => omega); (case q3 => omega); (case q6 => with_unfolding_all rfl); (case q7 => (intro _; with_unfolding_all rfl)))
        (case q4 => (rw [show ((1 : Int) + (i : Int) - 1).toNat = i by omega]; exact hx1))
        intro t6
        k_steps
        rename News _ _ _ ((_, _) :: n5) => N7
        rename StrsAre _ _ => hst
        rename List.map _ _ = Txt.split _ _ => hsp
        rw [hsp, hx2] at hst
        k_dflt (refine' for_listT [Str.ofString "flag", Str.ofString "here"] (fun q nx => CntsI w news D cc (((FL i).take q).foldl (fun C flag => updC K (i + 1) flag C) (cntC K FL i)) (4 * i + q) nx ∧ SIRange I 1 15 (i + 1) nx) ?mhh ?mF N7 (.head _) ?mI ?mstab ?mturn ?mdone; (case mhh => rfl); (case mF => k_asm))
        (case mI => exact ⟨⟨J1.mono fun p hp => .tail _ hp, J2, fun p hp => .tail _ (J3 p hp)⟩, .tail _ hS⟩)
        (case mstab => exact fun q nx ny h k => ⟨h.1.keep hnf k, h.2.keep (by simp) k⟩)
        (case mdone =>
          intro u n8 h8 tk8 ⟨⟨J1, J2, J3⟩, J4⟩ F8 N8
          rw [hst.length, List.take_length] at J1 J2
          k_steps
          refine ⟨_, _, _, _, rfl, by k_asm, by k_asm, J4, ⟨?tm3, J1, fun j => Nat.le_trans (J2 j) (by omega), J3⟩⟩
          (case tm3 => repeat (first | exact Tmp.mid | refine Tmp.step ?_ (by decide +kernel) | refine Tmp.inn ?_ (by decide +kernel))))
        (case mturn =>
          intro I2 q v u n8 h8 tk8 hv hS2 ⟨⟨J1, J2, J3⟩, J4⟩ F8 N8
          obtain ⟨y, t8, rfl, hy⟩ := hst.item q v hv
          obtain ⟨ad, vv, nv, e1, e2, e3⟩ := SIList.nm hS2
          generalize hC0 : ((FL i).take q).foldl (fun C flag => updC K (i + 1) flag C) (cntC K FL i) = C0 at J1 J2
          have hC1 : ((FL i).take (q + 1)).foldl (fun C flag => updC K (i + 1) flag C) (cntC K FL i) = updC K (i + 1) y C0 := by
            rw [List.take_add_one, hy, List.foldl_append, hC0]; rfl
          walk_at "assign Name"
          walk_at "storeName"
          walk_at "execs cons"
          walk_at "execs cons"
          refine wpAny_For ?forZ (by intro _; rfl)
          k_steps
          rename IsRange _ _ _ 4 _ _ _ _ => hr9
          rename News _ _ _ n8 => N9
          k_dflt (refine' for_rangeO (n := 4) [Str.ofString "here"] [rngE I 1 15 (i + 1)] (fun a nx => CntsI w news D cc (partC K (i + 1) y C0 a) (4 * i + q + 1) nx ∧ SIList I2 ad vv nv (q + 1) nx) ?ohh ?oF N9 hr9 ?os ?on ?ofx ?oI ?ostab ?oturn ?odone; (case ohh => rfl); (case oF => k_asm); (case os => decide); (case on => decide))
          (case ofx => exact J4.ent)
          (case oI => exact ⟨⟨J1, fun j => Nat.le_succ_of_le (J2 j), J3⟩, by rw [e1, e2, e3]; exact hS2⟩)
          (case ostab => exact fun q nx ny h k => ⟨h.1.keep hnf k, h.2.keep (by simp) k⟩)
          (case odone =>
            intro u n10 h10 tk10 hfx ⟨⟨J1, _, J3⟩, J5⟩ F10 N10
            rw [e1, e2, e3] at J5
            k_steps
            refine ⟨_, _, _, _, rfl, by k_asm, by k_asm, J5, ⟨?tm1, ⟨?c1, ?l1, J3⟩, SIRange.of hfx⟩⟩
            (case tm1 => repeat (first | exact Tmp.mid | refine Tmp.step ?_ (by decide +kernel) | refine Tmp.inn ?_ (by decide +kernel)))
            (case c1 => (rw [hC1, ← partC_four]; exact J1))
            (case l1 => (rw [hC1]; exact updC_len J2)))
          (case oturn =>
            intro I3 a t10 u n10 h10 tk10 ha hS3 hfx ⟨⟨J1, _, J3⟩, J5⟩ F10 N10
            have ea : (0 : Int) + (a : Int) = (((⟨a, ha⟩ : Fin 4).val : Nat) : Int) := by simp
            rw [ea]
            have hK10 : Kinds n10 ka kk K := hK.mono J3
            have ed : partC K (i + 1) y C0 a ⟨a, ha⟩ = C0 ⟨a, ha⟩ := partC_at (i := ⟨a, ha⟩)
            have hd0 : DictL w n10 (cc ⟨a, ha⟩) (C0 ⟨a, ha⟩) := by
              have q := J1.inner ⟨a, ha⟩
              rw [ed] at q; exact q
            have ek1 : (1 : Int) + (i : Int) < ((K ⟨a, ha⟩).length : Int) := by rw [(hK10.inner _).2]; omega
            have hlen0 : (C0 ⟨a, ha⟩).length ≤ 16777216 := by
              have q1 := J2 ⟨a, ha⟩
              have q4 := (List.getElem?_eq_some_iff.mp hy).1
              omega
            k_steps
            k_dflt (refine' dict_method ?g1 hd0 ?g2 ?_; (case g1 => k_asm); (case g2 => ktd_sub))
            k_steps
            k_dflt (refine' dict_get2 ?g1 hd0 ?g2 ?_; (case g1 => k_asm); (case g2 => ktd_sub))
            intro t12
            k_steps
            k_dflt (refine' intsL_sub ?g1 (hK10.inner ⟨a, ha⟩).1 ?g2 (by omega) ek1 (by omega) ?_ ?g3; (case g1 => k_asm); (case g2 => ktd_sub); (case g3 => with_unfolding_all rfl))
            intro t13
            k_steps
            k_dflt (refine' dict_set ?g1 ?g2 hd0 ?g3 hlen0 ?_; (case g1 => k_asm); (case g2 => k_asm); (case g3 => ktd_sub))
            intro h14 n14 F14 N14 S14 hdd D14
            k_steps
            rename News _ _ _ n10 => N11
            refine ⟨_, _, _, _, rfl, by k_asm, by k_asm, hS3.dset N11 hdd S14, ⟨?tm2, ((SIRange.of hfx).dset N11 hdd S14).ent, ⟨?c2, ?l2, ?b2⟩, J5.dset N11 hdd S14⟩⟩
            (case tm2 => repeat (first | exact Tmp.mid | refine Tmp.step ?_ (by decide +kernel) | refine Tmp.inn ?_ (by decide +kernel)))
            (case c2 =>
              have q := J1.set S14 D14
              rw [show ((1 : Int) + (i : Int)).toNat = i + 1 by omega] at q
              have q2 := partC_succ (K := K) (mask := i + 1) (flag := y) (C := C0) (i := ⟨a, ha⟩)
              rw [← q2]
              exact q)
            (case l2 => exact partC_len J2 _)
            (case b2 => exact fun p hp => S14 p (J3 p hp) (hcc _ p hp))))))

end Mine
end
section
open PySem PySem.W PyProof.Rows PyProof.Rows.LCg
set_option maxRecDepth 100000
namespace Mine
section
variable {w : World} {A : Around} {s : Shared} {env : Env} {h₀ : Heap} {L : Addr} {m : Str → Option Value} {E : Value → Shared → Prop}
/-- a range is made -/
noncomputable def RngAt (h₀ : Heap) (L : Addr) (m : Str → Option Value) (s : Shared) (n1 : Nat) (ny : Led) (xv : Value) (s₃ : Shared) : Prop :=
  ∃ r h' tk' nz t u v, xv = .ref r ∧ s₃ = { s with heap := h', toks := tk' } ∧ Fr h₀ L h' m ∧ News h₀ L h' nz ∧ (∀ p ∈ ny, p ∈ nz) ∧ IsRange h' r 0 (n1 : Int) 1 t u v
/-- a comprehension of two clauses, its list stored under a name: the inner clause over a range -/
theorem comp2_assign {elt t0 i0 i1 : Expr} {x : Str} {px : Pos} {ifs : List Expr} {scope : Scope} {cl : List (Str × Addr)} {pos : Pos} {y : Str} {py : Pos} {I : Addr} {n n1 : Nat} {icl : List Value} {P : Nat → Value → Prop} {SI : Nat → Led → Prop} {src : List Addr} {nx nx₀ : Led} {Q : Value → Shared → Prop}
    (T : IterS w A I n icl P SI src) (hIs : I ∈ src)
    (M : Nat → (Str → Option Value) → Prop) (hM : ∀ i m₂ v, M i m₂ → M i (fun z => if z = x then some v else m₂ z))
    (Inv : Addr → Addr → Nat → Nat → List Value → Led → Prop)
    (stable : ∀ C D i j ys nx ny, Inv C D i j ys nx → (∀ p ∈ nx, (∀ vs, p.2.data ≠ .fields vs) → p.1 ≠ C → p.1 ≠ D → p ∈ ny) → Inv C D i j ys ny)
    (len : ∀ C D i j ys nx, Inv C D i j ys nx → ys.length ≤ 96)
    (hcell : ∀ y ∈ scope.names, y.2 ≠ .cell) (hkind : scope.kind = .function) (hx : scope.names.lookup x = some .local) (hh : A.handled = none) (hn1 : n1 ≤ 1000)
    (hsmall : Builtin.Range.small 0 (n1 : Int) 1 = true) (hsize : Builtin.Range.rangeSize 0 (n1 : Int) 1 = (n1 : Int))
    (F : Fr h₀ L s.heap m) (N : News h₀ L s.heap nx) (hSI : SI 0 nx) (hnx : ∀ p ∈ nx₀, p ∈ nx ∧ p.1 ≠ I)
    (start : ∀ C D ny, Inv C D 0 0 [] ny)
    (asg : ∀ C i v ny oC m₂ h tk, i < n → P i v → C ≠ L → (C, oC) ∈ ny → NsObj oC m₂ → (∀ p ∈ nx₀, p ∈ ny) → (∀ p ∈ nx₀, p.1 ≠ C) → Fr h₀ L h m → News h₀ L h ny →
      wpAny (model PG w) A (assign t0 (compEnvC scope cl C env) v) (fun _ s₂ => ∃ h' tk' nz oC' m', s₂ = { s with heap := h', toks := tk' } ∧ Fr h₀ L h' m ∧ News h₀ L h' nz ∧ (C, oC') ∈ nz ∧ NsObj oC' m' ∧ M i m' ∧ (∀ p ∈ ny, p.1 ≠ C → p ∈ nz)) noE { s with heap := h, toks := tk })
    (ev : ∀ C ny h tk, (∀ p ∈ nx₀, p ∈ ny) → Fr h₀ L h m → News h₀ L h ny →
      wpAny (model PG w) A (eval i1 (compEnvC scope cl C env)) (RngAt h₀ L m s n1 ny) noE { s with heap := h, toks := tk })
    (next : ∀ C D i ys nx, i < n → Inv C D i n1 ys nx → Inv C D (i + 1) 0 ys nx)
    (turn : ∀ C D i j t ys ny oC m₂ h tk, (∀ p ∈ nx₀, p.1 ≠ C ∧ p.1 ≠ D) → i < n → j < n1 → Inv C D i j ys ny → (∀ p ∈ nx₀, p ∈ ny) → (C, oC) ∈ ny → NsObj oC m₂ → m₂ x = some (.int (0 + (j : Nat)) t) → M i m₂ → (D, lst ys) ∈ ny → Fr h₀ L h m → News h₀ L h ny →
      wpAny (model PG w) A (testsOf (compEnvC scope cl C env) ifs) (fun ok s₂ => if ok = true then wpAny (model PG w) A (eval elt (compEnvC scope cl C env)) (fun y s₃ => CEnd h₀ L m { s with heap := h, toks := tk } ny (Inv C D i (j + 1) (ys ++ [y])) s₃) noE s₂
        else CEnd h₀ L m { s with heap := h, toks := tk } ny (Inv C D i (j + 1) ys) s₂) noE { s with heap := h, toks := tk })
    (hL : env.locals = L) (hy : env.kindOf y = some .local) (hp : (env.scope.kind == .class || (env.scope.kind == .module && env.locals != env.globals)) = false)
    (fin : ∀ C D ys h tk ny, C ≠ D → (∀ p ∈ nx₀, p.1 ≠ C ∧ p.1 ≠ D) → Inv C D n 0 ys ny → (∀ p ∈ nx₀, p ∈ ny) → (D, lst ys) ∈ ny → Fr h₀ L h (fun z => if z = y then some (.ref D) else m z) → News h₀ L h ny → Q .none { s with heap := h, toks := tk })
    (hs : ∀ C x, foldedSetIterable i1 (compEnvC scope cl C env) x = pure x) :
    CompAt2 w A E env (.ListComp elt [⟨t0, i0, [], 0⟩, ⟨.Name x px, i1, ifs, 0⟩] scope pos) scope cl (compPost (model PG w) A E (some (assign (.Name y py) env)) Q) (.ref I) s := by
  unfold CompAt2
  refine comp_blockG T hcell hkind F N hSI ?_
  intro C D h₁ tk₁ oC m₂ hCL hCD hDL off F₁ N₁ hCo
  have hC : C ∉ src := fun h => by
    obtain ⟨o, ho⟩ := T.mem 0 nx hSI _ h
    exact (off _ ho).1 rfl
  have hD : D ∉ src := fun h => by
    obtain ⟨o, ho⟩ := T.mem 0 nx hSI _ h
    exact (off _ ho).2 rfl
  have hCI : C ≠ I := fun e => hC (e ▸ hIs)
  have hDI : D ≠ I := fun e => hD (e ▸ hIs)
  have off₀ : ∀ p ∈ nx₀, p.1 ≠ C ∧ p.1 ≠ D := fun p hp => off p (hnx p hp).1
  have hS₁ : SI 0 ((C, oC) :: (D, lst []) :: nx) := T.stab _ _ _ hSI fun p hp _ => .tail _ (.tail _ hp)
  refine comp_outer (s := { s with heap := h₁, toks := tk₁ }) (nx₀ := nx₀) T (fun i ys ny => Inv C D i 0 ys ny) ?stable (fun p hp => (hnx p hp).2) ?turn ?done F₁ N₁ hS₁ (start C D _) (fun p hp => .tail _ (.tail _ (hnx p hp).1)) (.head _) hCo (.tail _ (.head _)) hCI hDI (hs C)
  case stable =>
    intro i ys nx ny hI hk
    exact stable _ _ _ _ _ _ _ hI fun p hp hf _ _ => hk p hp (.inr hf)
  case done =>
    intro ys ny oC m₂ h tk hI sub hCm hNs hDm F' N'
    exact post_assign (s := { s with heap := _ }) hL hy hp hCm hNs F' N' fun h' nz tk F₂ N₂ k => fin C D ys h' tk nz hCD off₀ (stable _ _ _ _ _ _ _ hI fun p hp _ hc _ => k p hp hc) (fun p hp => k p (sub p hp) (off₀ p hp).1) (k _ hDm (Ne.symm hCD)) F₂ N₂
  case turn =>
    intro i v ys ny oC m₂ h tk hi hP hS hIv sub hCm hNs hDm F' N'
    refine wpAny_mono (asg C i v ny oC m₂ h tk hi hP hCL hCm hNs sub (fun p hp => (off₀ p hp).1) F' N') (fun _ s₂ hq => ?_) fun _ _ e => e.elim
    obtain ⟨h2, tk2, nz, oC2, m2, rfl, F2, N2, hC2, hNs2, hM2, keep⟩ := hq
    have hS2 : SI (i + 1) nz := T.stab _ _ _ hS fun p hp hs => keep p hp fun e => hC (e ▸ hs)
    have hI2 : Inv C D i 0 ys nz := stable _ _ _ _ _ _ _ hIv fun p hp _ hc _ => keep p hp hc
    have sub2 : ∀ p ∈ nx₀, p ∈ nz := fun p hp => keep p (sub p hp) (off₀ p hp).1
    have hD2 := keep _ hDm (Ne.symm hCD)
    refine wpAny_mono (ev C nz h2 tk2 sub2 F2 N2) (fun xv s₃ hq => ?_) fun _ _ e => e.elim
    obtain ⟨r, h3, tk3, n3, t, u, v, rfl, rfl, F3, N3, sub3, hr⟩ := hq
    have hI3 : Inv C D i 0 ys n3 := stable _ _ _ _ _ _ _ hI2 fun p hp _ _ _ => sub3 p hp
    have hS3 : SI (i + 1) n3 := T.stab _ _ _ hS2 fun p hp _ => sub3 p hp
    have flt : ∀ p ∈ n3, p.1 ≠ C → p.1 ≠ D → p ∈ n3.filter (fun p => p.1 != C && p.1 != D) := fun p hp h1 h2 => List.mem_filter.mpr ⟨hp, by simp [h1, h2]⟩
    refine comp_inner_range (s := { s with heap := h3, toks := tk3 }) (n := n1) (M i) (hM i) (len _ _ _ _ _ _ hI3) (fun j ys ny => Inv C D i j ys ny) ?st (n3.filter (fun p => p.1 != C && p.1 != D)) ?hold hh (by rw [sizeLine_eq]; omega) hkind hx hCL hCD hDL hr hsmall hsize ?turn2 ?done2 F3 N3 hI3 (sub3 _ hC2) hNs2 hM2 (sub3 _ hD2)
    case st =>
      intro j ys nx ny hI hk
      exact stable _ _ _ _ _ _ _ hI fun p hp hf hc hd => hk p hp (.inr hf) hc hd
    case hold =>
      intro p hp
      obtain ⟨h1, h2⟩ := List.mem_filter.mp hp
      simp at h2
      exact ⟨h1, h2.1, h2.2⟩
    case turn2 =>
      intro j t ys n4 oC m₂ h tk hj hyl hI sub4 hCm hNs hxx hMm hDm F4 N4
      exact turn C D i j t ys n4 oC m₂ h tk off₀ hi hj hI (fun p hp => sub4 p (flt p (sub3 p (sub2 p hp)) (off₀ p hp).1 (off₀ p hp).2)) hCm hNs hxx hMm hDm F4 N4
    case done2 =>
      intro ys n4 oC m₂ h tk hyl hI sub4 hCm hNs hDm F4 N4
      exact ⟨rfl, h, tk, n4, ys, oC, m₂, rfl, F4, N4, T.stab _ _ _ hS3 fun p hp hs => sub4 p (flt p hp (fun e => hC (e ▸ hs)) fun e => hD (e ▸ hs)), next _ _ _ _ _ hi hI, fun p hp => sub4 p (flt p (sub3 p (sub2 p hp)) (off₀ p hp).1 (off₀ p hp).2), hCm, hNs, hDm⟩
theorem iter_range_start {r : Addr} {a b : Int} {t₀ u₀ v₀ : Tok} {n : Nat} {nx : Led} {Q : Value → Shared → Prop} (F : Fr h₀ L s.heap m) (N : News h₀ L s.heap nx) (hr : IsRange s.heap r a b 1 t₀ u₀ v₀) (hsmall : Builtin.Range.small a b 1 = true) (hn : Builtin.Range.rangeSize a b 1 = (n : Int))
    (h : ∀ I o h', Fr h₀ L h' m → News h₀ L h' ((I, o) :: nx) → SIRange I a n 0 ((I, o) :: nx) → (∀ p ∈ nx, p.1 ≠ I) → Q (.ref I) { s with heap := h' }) :
    wpAny (model PG w) A (pyIter (.ref r)) Q E s := by
  refine wpAny_pyIter_range hr hsmall ?_
  rw [hn]
  obtain ⟨F', N'⟩ := push_new (o := { cls := .type "range_iterator", data := .fields #[rawInt a, rawInt (n : Int), rawInt 1] }) F N rfl
  refine h _ _ _ F' N' ?_ fun p hp => Nat.ne_of_lt (Heap.lt_size (N p hp).1)
  unfold SIRange
  have e1 : a + ((0 : Nat) : Int) = a := by simp
  have e2 : (n : Int) - ((0 : Nat) : Int) = n := by simp
  rw [e1, e2]
  exact .head _
theorem iter_list_start {l : Addr} {vs : List Value} {nn : Nat} {nx : Led} {Q : Value → Shared → Prop} (F : Fr h₀ L s.heap m) (N : News h₀ L s.heap nx) (hm : (l, listOf vs.toArray nn) ∈ nx)
    (h : ∀ I o h', Fr h₀ L h' m → News h₀ L h' ((I, o) :: nx) → SIList I l vs nn 0 ((I, o) :: nx) → (∀ p ∈ nx, p.1 ≠ I) → Q (.ref I) { s with heap := h' }) :
    wpAny (model PG w) A (pyIter (.ref l)) Q E s := by
  refine wpAny_pyIter_list ⟨_, (N _ hm).1, rfl, nn, rfl⟩ ?_
  obtain ⟨F', N'⟩ := push_new (o := { cls := .type "list_iterator", data := .fields #[.ref l, .int 0 0] }) F N rfl
  exact h _ _ _ F' N' ⟨⟨_, .head _, rfl, rfl⟩, .tail _ hm⟩ fun p hp => Nat.ne_of_lt (Heap.lt_size (N p hp).1)
/-- the outer clause's target a name -/
theorem asg_name {y : Str} {py : Pos} {scope : Scope} {cl : List (Str × Addr)} {C : Addr} {v : Value} {nx : Led} {oC : Obj} {m₂ : Str → Option Value} {M : (Str → Option Value) → Prop} (hkind : scope.kind = .function) (hx : scope.names.lookup y = some .local)
    (F : Fr h₀ L s.heap m) (N : News h₀ L s.heap nx) (hC : (C, oC) ∈ nx) (hNs : NsObj oC m₂) (hM : M (fun z => if z = y then some v else m₂ z)) :
    wpAny (model PG w) A (assign (.Name y py) (compEnvC scope cl C env) v) (fun _ s₂ => ∃ h' tk' nz oC' m', s₂ = { s with heap := h', toks := tk' } ∧ Fr h₀ L h' m ∧ News h₀ L h' nz ∧ (C, oC') ∈ nz ∧ NsObj oC' m' ∧ M m' ∧ (∀ p ∈ nx, p.1 ≠ C → p ∈ nz)) E s := by
  refine wpAny_assign_Name (wpAny_storeName_local (lookup_relabel_local hx) (hNs.ns (N _ hC).1) (fun h₂ hn₂ hs₂ => ?_) (by simp [compEnvC, relabel, hkind]))
  obtain ⟨oC₂, heC₂, hoC₂⟩ := ns_obj hn₂
  have hs₂' : Heap.SameBut C s.heap h₂ := hs₂
  obtain ⟨F₂, N₂⟩ := led_set F N hC hs₂' heC₂
  exact ⟨h₂, _, _, oC₂, _, rfl, F₂, N₂, .head _, hoC₂, hM, fun p hp hne => .tail _ (List.mem_filter.mpr ⟨hp, by simpa using hne⟩)⟩
/-- the outer clause's target a pair of names -/
theorem asg_pair {a b : Str} {pa pb tp : Pos} {kk : Nat} {scope : Scope} {cl : List (Str × Addr)} {C T : Addr} {x y : Value} {n : Nat} {nx : Led} {oC : Obj} {m₂ : Str → Option Value} {M : (Str → Option Value) → Prop} (hh : A.handled = none) (hkind : scope.kind = .function) (hxa : scope.names.lookup a = some .local) (hxb : scope.names.lookup b = some .local)
    (F : Fr h₀ L s.heap m) (N : News h₀ L s.heap nx) (hC : (C, oC) ∈ nx) (hNs : NsObj oC m₂) (hT : (T, tupO [x, y] n) ∈ nx) (hM : M (fun z => if z = b then some y else if z = a then some x else m₂ z)) :
    wpAny (model PG w) A (assign (.Tuple [.Name a pa, .Name b pb] kk tp) (compEnvC scope cl C env) (.ref T)) (fun _ s₂ => ∃ h' tk' nz oC' m', s₂ = { s with heap := h', toks := tk' } ∧ Fr h₀ L h' m ∧ News h₀ L h' nz ∧ (C, oC') ∈ nz ∧ NsObj oC' m' ∧ M m' ∧ (∀ p ∈ nx, p.1 ≠ C → p ∈ nz)) E s := by
  refine kcp_assign hh ⟨_, (N _ hT).1, rfl, n, rfl⟩ (lookup_relabel_local hxa) (lookup_relabel_local hxb) (by simp [compEnvC, relabel, hkind]) (hNs.ns (N _ hC).1) fun h' tk hn hs => ?_
  obtain ⟨oC₂, heC₂, hoC₂⟩ := ns_obj hn
  obtain ⟨F₂, N₂⟩ := led_ext F N hC (fun b o hb e => hs b o hb e)
  refine ⟨h', tk, (C, oC₂) :: nx.filter (fun p => p.1 != C), oC₂, _, rfl, F₂, fun p hp => ?_, .head _, hoC₂, hM, fun p hp hne => .tail _ (List.mem_filter.mpr ⟨hp, by simpa using hne⟩)⟩
  rcases List.mem_cons.mp hp with rfl | hp
  · exact ⟨heC₂, (N _ hC).2⟩
  · exact N₂ p hp
/-- a cell of the ledger -/
noncomputable def CellAt (nx : Led) (c : Addr) (v : Option Value) : Prop := ∃ o, (c, o) ∈ nx ∧ o.data = .cell v
theorem CellAt.mono {nx ny : Led} {c : Addr} {v : Option Value} (H : CellAt nx c v) (h : ∀ p ∈ nx, p ∈ ny) : CellAt ny c v := let ⟨o, hm, hd⟩ := H; ⟨o, h _ hm, hd⟩
theorem CellAt.set {nx ny : Led} {c d : Addr} {v : Option Value} (H : CellAt nx c v) (hne : c ≠ d) (S : SetAt d nx ny) : CellAt ny c v := let ⟨o, hm, hd⟩ := H; ⟨o, S _ hm hne, hd⟩
theorem CellAt.keep {nx ny : Led} {c : Addr} {v : Option Value} {cl : List Value} (H : CellAt nx c v) (k : KeepL cl nx ny) : CellAt ny c v := let ⟨o, hm, hd⟩ := H; ⟨o, k _ hm (.inr fun vs e => by rw [hd] at e; cases e), hd⟩
theorem store_cell {cn : Str} {cs : Scope} {fa : Addr} {fv : Value} {x : Str} {c : Addr} {v₀ : Option Value} {v : Value} {nx : Led} {Q : Unit → Shared → Prop} (F : Fr h₀ L s.heap m) (N : News h₀ L s.heap nx)
    (hc : (cellsFrom (L + 1) cs.names []).lookup x = some c) (H : CellAt nx c v₀)
    (h : ∀ h' nz, Fr h₀ L h' m → News h₀ L h' nz → CellAt nz c (some v) → SetAt c nx nz → Q () { s with heap := h' })
    (hk : cs.kind = .function := by rfl) (hl : (envOfC cn cs L fa fv).kindOf x = some .cell := by rfl) : wpAny (model PG w) A (storeName (envOfC cn cs L fa fv) x v) Q E s := by
  obtain ⟨o, hm, hd⟩ := H
  refine wpAny_storeName_cell hk hl hc ⟨o, (N _ hm).1, hd⟩ fun h' hv hs => ?_
  obtain ⟨o', ho', hd'⟩ := hv
  obtain ⟨F', N'⟩ := led_set F N hm hs ho'
  exact h h' _ F' N' ⟨o', .head _, hd'⟩ fun p hp hne => .tail _ (List.mem_filter.mpr ⟨hp, by simpa using hne⟩)
end
end Mine
end
section
open PySem PySem.W PyProof.Rows PyProof.Rows.LCg
set_option maxRecDepth 100000
namespace Mine
/-- the statements of the law, its scope -/
noncomputable def lawDef : Option Stmt := PySem.Challenge.pw_kl0133_01.main.body.getLast?
noncomputable def lawStmts : List Stmt := match lawDef with
  | some (.FunctionDef _ _ b _ _ _ _ _ _ _) => b
  | _ => []
noncomputable def lawScope : Scope := match lawDef with
  | some (.FunctionDef _ _ _ _ _ _ c _ _ _) => c
  | _ => { kind := .module, names := [], isGenerator := false, isCoroutine := false }
noncomputable abbrev lawEnv (L fa : Addr) (fv : Value) : Env := envOfC (Str.ofString "law") lawScope L fa fv
/-- tuples of ints of the ledger, in a row -/
noncomputable def TupsAt (nx₀ : Led) (C D : Addr) (ys : List Value) (ts : List (List Int)) (nx : Led) : Prop :=
  ys.length = ts.length ∧ ∀ (i : Nat) (y : Value), ys[i]? = some y → ∃ (a : Addr) (vs : List Value) (n : Nat) (t : List Int), y = .ref a ∧ ts[i]? = some t ∧ (a, tupO vs n) ∈ nx ∧ IntsAre vs t ∧ a ≠ C ∧ a ≠ D ∧ ∀ p ∈ nx₀, p.1 ≠ a
theorem TupsAt.stable {nx₀ : Led} {C D : Addr} {ys : List Value} {ts : List (List Int)} {nx ny : Led} (H : TupsAt nx₀ C D ys ts nx) (h : ∀ p ∈ nx, (∀ vs, p.2.data ≠ .fields vs) → p.1 ≠ C → p.1 ≠ D → p ∈ ny) : TupsAt nx₀ C D ys ts ny :=
  ⟨H.1, fun i y hy => by
    obtain ⟨a, vs, n, t, e, ht, hm, hi, hC, hD, h0⟩ := H.2 i y hy
    exact ⟨a, vs, n, t, e, ht, h _ hm (fun us q => nomatch q) hC hD, hi, hC, hD, h0⟩⟩
theorem TupsAt.nil {nx₀ : Led} {C D : Addr} {nx : Led} : TupsAt nx₀ C D [] [] nx := ⟨rfl, fun _ _ h => nomatch h⟩
theorem TupsAt.snoc {nx₀ : Led} {C D a : Addr} {ys : List Value} {ts : List (List Int)} {nx ny : Led} {vs : List Value} {n : Nat} {t : List Int} (H : TupsAt nx₀ C D ys ts nx) (sub : ∀ p ∈ nx, p ∈ ny) (hm : (a, tupO vs n) ∈ ny) (hi : IntsAre vs t) (lt : ∀ p ∈ nx, p.1 < a)
    {oC oD : Obj} (hC : (C, oC) ∈ nx) (hD : (D, oD) ∈ nx) (h0 : ∀ p ∈ nx₀, p ∈ nx) : TupsAt nx₀ C D (ys ++ [.ref a]) (ts ++ [t]) ny := by
  refine ⟨by simp [H.1], fun i y hy => ?_⟩
  by_cases hl : i < ys.length
  · rw [List.getElem?_append_left hl] at hy
    obtain ⟨a', vs', n', t', e, ht, hm', hi', hC', hD', h0'⟩ := H.2 i y hy
    exact ⟨a', vs', n', t', e, by rw [List.getElem?_append_left (by rw [← H.1]; exact hl)]; exact ht, sub _ hm', hi', hC', hD', h0'⟩
  · have he : i = ys.length := by
      have := (List.getElem?_eq_some_iff.mp hy).1
      simp at this; omega
    subst he
    simp at hy
    subst hy
    exact ⟨a, vs, n, t, rfl, by rw [H.1]; simp, hm, hi, Nat.ne_of_gt (lt _ hC), Nat.ne_of_gt (lt _ hD), fun p hp => Nat.ne_of_lt (lt _ (h0 p hp))⟩
/-- the pairs, the orders -/
noncomputable def pr (a b : Nat) : List Int := [(a : Int), (b : Int)]
noncomputable def pairsTo (i j : Nat) : List (List Int) := (List.range i).flatMap (fun a => ((List.range 4).filter (fun b => a != b)).map (pr a)) ++ ((List.range j).filter (fun b => i != b)).map (pr i)
theorem pairsTo_zero : pairsTo 0 0 = [] := rfl
theorem pairsTo_next (i : Nat) : pairsTo i 4 = pairsTo (i + 1) 0 := by
  unfold pairsTo
  rw [List.range_succ (n := i), List.flatMap_append]
  simp
theorem pairsTo_hit {i j : Nat} (h : i ≠ j) : pairsTo i (j + 1) = pairsTo i j ++ [pr i j] := by
  unfold pairsTo
  rw [List.range_succ (n := j), List.filter_append, List.map_append, ← List.append_assoc]
  simp [List.filter_cons, h]
theorem pairsTo_miss {i j : Nat} (h : i = j) : pairsTo i (j + 1) = pairsTo i j := by
  unfold pairsTo
  rw [List.range_succ (n := j), List.filter_append, List.map_append, ← List.append_assoc]
  simp [List.filter_cons, h]
end Mine
namespace Mine
noncomputable def Held (P : Prop) : Prop := P
theorem Held.out {P : Prop} (h : Held P) : P := h
end Mine
namespace Mine
/-- the pairs as a list, the orders -/
noncomputable def pairsL : List (Nat × Nat) := (List.range 4).flatMap fun a => ((List.range 4).filter (fun b => a != b)).map fun b => (a, b)
theorem pairs_eq : pairsTo 4 0 = pairsL.map (fun q => pr q.1 q.2) := by decide
noncomputable def od (q : Nat × Nat) (c : Nat) : List Int := [(q.1 : Int), (q.2 : Int), (c : Int), 6 - (q.1 : Int) - (q.2 : Int) - (c : Int)]
noncomputable def ordOf (q : Nat × Nat) (j : Nat) : List (List Int) := ((List.range j).filter (fun c => c != q.1 && c != q.2)).map (od q)
noncomputable def ordersTo (i j : Nat) : List (List Int) := (pairsL.take i).flatMap (fun q => ordOf q 4) ++ (match pairsL[i]? with | some q => ordOf q j | none => [])
theorem ordersTo_next : ∀ i, i < 12 → ordersTo i 4 = ordersTo (i + 1) 0 := by decide +kernel
theorem ordersTo_hit {i j : Nat} {q : Nat × Nat} (hq : pairsL[i]? = some q) (h1 : j ≠ q.1) (h2 : j ≠ q.2) : ordersTo i (j + 1) = ordersTo i j ++ [od q j] := by
  unfold ordersTo
  rw [hq]
  dsimp only
  unfold ordOf
  rw [List.range_succ (n := j), List.filter_append, List.map_append, ← List.append_assoc]
  simp [h1, h2]
theorem ordersTo_miss {i j : Nat} {q : Nat × Nat} (hq : pairsL[i]? = some q) (h : j = q.1 ∨ j = q.2) : ordersTo i (j + 1) = ordersTo i j := by
  unfold ordersTo
  rw [hq]
  dsimp only
  unfold ordOf
  rw [List.range_succ (n := j), List.filter_append, List.map_append, ← List.append_assoc]
  rcases h with h | h <;> simp [h]
noncomputable def mkO (a b c d : Fin 4) : Fin 4 → Fin 4 := fun i => match i with | 0 => a | 1 => b | 2 => c | 3 => d
noncomputable def fi (x : Int) : Fin 4 := Fin.ofNat 4 x.toNat
noncomputable def toO (t : List Int) : Fin 4 → Fin 4 := mkO (fi (t.getD 0 0)) (fi (t.getD 1 0)) (fi (t.getD 2 0)) (fi (t.getD 3 0))
noncomputable def ordersI : List (List Int) := ordersTo 12 0
noncomputable def ordersL : List (Fin 4 → Fin 4) := ordersI.map toO
theorem ordersI_len : ordersI.length = 24 := by decide +kernel
theorem ordersI_ok : ∀ t ∈ ordersI, t = [((toO t 0).val : Int), ((toO t 1).val : Int), ((toO t 2).val : Int), ((toO t 3).val : Int)] := by decide +kernel
theorem ints4_inv {vs : List Value} {a b c d : Int} (h : IntsAre vs [a, b, c, d]) : ∃ t0 t1 t2 t3, vs = [.int a t0, .int b t1, .int c t2, .int d t3] := by
  cases h with | cons _ t0 h => cases h with | cons _ t1 h => cases h with | cons _ t2 h => cases h with | cons _ t3 h => cases h; exact ⟨_, _, _, _, rfl⟩
theorem ints2_inv {vs : List Value} {a b : Int} (h : IntsAre vs [a, b]) : ∃ t0 t1, vs = [.int a t0, .int b t1] := by
  cases h with | cons _ t0 h => cases h with | cons _ t1 h => cases h; exact ⟨_, _, rfl⟩
theorem orders_at {nx₀ nx : Led} {C D : Addr} {ys : List Value} (H : TupsAt nx₀ C D ys ordersI nx) (hD : (D, lst ys) ∈ nx) : OrdersAt nx D ordersL := by
  refine ⟨ys, ys.length, hD, by rw [H.1]; simp [ordersL], fun i v hv => ?_⟩
  obtain ⟨a, vs, n, t, e, ht, hm, hi, _⟩ := H.2 i v hv
  rw [ordersI_ok t (List.mem_of_getElem? ht)] at hi
  obtain ⟨t0, t1, t2, t3, rfl⟩ := ints4_inv hi
  exact ⟨a, toO t, e, by simp [ordersL, ht], t0, t1, t2, t3, n, hm⟩
end Mine
namespace Mine
section
variable {prog : Program} {w : World} {A : Around} {E : Value → Shared → Prop} {s : Shared} {h₀ : Heap} {L : Addr} {m : Str → Option Value} {nx : Led}
theorem orders_sub {value slice : Expr} {a : Addr} {os : List (Fin 4 → Fin 4)} {k : Int} {u : Tok} {Q : Value → Shared → Prop} (N : News h₀ L s.heap nx) (H : OrdersAt nx a os) (h0 : 0 ≤ k) (h1 : k < os.length) (hfit : k < 2 ^ 63)
    (h : ∀ b o, o ∈ os → TupAt nx b o → Q (.ref b) s)
    (hsub : subscripted slice false (.ref a) (.int k u) = operate [.ref a, .int k u] (getItem (.ref a) (.int k u)) := by with_unfolding_all rfl)
    (hg : ∀ r, letTemporaryGo value (.ref a) r = pure () := by intro _; with_unfolding_all rfl) :
    wpAny (model prog w) A (subscriptTail value slice (.ref a) (.int k u)) Q E s := by
  obtain ⟨vs, n, hm, hl, hv⟩ := H
  have hlt : k.toNat < vs.length := by omega
  obtain ⟨b, o, e, ho, ht⟩ := hv k.toNat vs[k.toNat] (by simp [hlt])
  exact item_listL (x := .ref b) ⟨_, (N _ hm).1, rfl, n, rfl⟩ h0 hfit (by rw [← e]; simp [hlt]) (h b o (List.mem_of_getElem? ho) ht) hsub hg
end
theorem OrdersAt.mono {nx ny : Led} {a : Addr} {os : List (Fin 4 → Fin 4)} (H : OrdersAt nx a os) (h : ∀ p ∈ nx, p ∈ ny) : OrdersAt ny a os :=
  let ⟨vs, n, hm, hl, hv⟩ := H
  ⟨vs, n, h _ hm, hl, fun i v hi => let ⟨b, o, e, ho, ht⟩ := hv i v hi; ⟨b, o, e, ho, ht.mono h⟩⟩
/-- the ledger without its records -/
noncomputable def noF (nx : Led) : Led := nx.filter fun p => match p.2.data with | .fields _ => false | _ => true
theorem noF_nf (nx : Led) : NoFields (noF nx) := fun p hp vs e => by
  obtain ⟨_, h⟩ := List.mem_filter.mp hp
  rw [e] at h; cases h
theorem noF_mem {nx : Led} {p : Addr × Obj} (hp : p ∈ nx) (h : ∀ vs, p.2.data ≠ .fields vs) : p ∈ noF nx := List.mem_filter.mpr ⟨hp, by
  cases hd : p.2.data with
  | fields vs => exact absurd hd (h vs)
  | _ => rfl⟩
theorem noF_sub {nx : Led} : ∀ p ∈ noF nx, p ∈ nx := fun p hp => (List.mem_filter.mp hp).1
theorem noF_keep {nx : Led} : KeepL (nx.map fun p => p.2.cls) nx (noF nx) := fun p hp k => k.elim (fun h => absurd (List.mem_map_of_mem hp) h) (noF_mem hp)
theorem OrdersAt.keep {nx ny : Led} {a : Addr} {os : List (Fin 4 → Fin 4)} {cl : List Value} (H : OrdersAt nx a os) (h : KeepL cl nx ny) : OrdersAt ny a os :=
  let ⟨vs, n, hm, hl, hv⟩ := H
  ⟨vs, n, h _ hm kept_seq, hl, fun i v hi => let ⟨b, o, e, ho, ht⟩ := hv i v hi; ⟨b, o, e, ho, ht.keep h⟩⟩
theorem StrsAt.keep {nx ny : Led} {a : Addr} {W : Fin 4 → Str} {cl : List Value} (H : StrsAt nx a W) (h : KeepL cl nx ny) : StrsAt ny a W :=
  let ⟨l, n, hm, hv⟩ := H
  ⟨l, n, h _ hm kept_seq, hv⟩
end Mine
namespace Mine
theorem ordersL_len : ordersL.length = 24 := by simp [ordersL, ordersI_len]
end Mine
namespace Mine
noncomputable def Hid (P : Prop) : Prop := P
theorem Hid.mk {P : Prop} (h : P) : Hid P := h
theorem Hid.out {P : Prop} (h : Hid P) : P := h
end Mine
namespace Mine
/-- what holds a row of values stays -/
noncomputable def SeqSub (nx ny : Led) : Prop := ∀ p ∈ nx, (∃ xs n, p.2.data = .seq xs n) → p ∈ ny
theorem SeqSub.of {nx ny : Led} (h : ∀ p ∈ nx, p ∈ ny) : SeqSub nx ny := fun p hp _ => h p hp
theorem SeqSub.trans {a b c : Led} (h : SeqSub a b) (k : SeqSub b c) : SeqSub a c := fun p hp e => k p (h p hp e) e
theorem SeqSub.keep {nx ny : Led} {cl : List Value} (k : KeepL cl nx ny) : SeqSub nx ny := fun p hp ⟨xs, n, e⟩ => k p hp (.inr fun vs q => by rw [e] at q; cases q)
theorem SeqSub.noF {nx : Led} : SeqSub nx (Mine.noF nx) := fun p hp ⟨xs, n, e⟩ => noF_mem hp fun vs q => by rw [e] at q; cases q
theorem SeqSub.set {h₀ h : Heap} {L : Addr} {nx ny : Led} {c : Addr} {v : Option Value} (N : News h₀ L h nx) (H : CellAt nx c v) (S : SetAt c nx ny) : SeqSub nx ny := fun p hp ⟨xs, n, e⟩ => S p hp fun q => by
  obtain ⟨o, hm, hd⟩ := H
  subst q
  have := News.agree N hp hm
  rw [this, hd] at e; cases e
theorem TupAt.seq {nx ny : Led} {a : Addr} {o : Fin 4 → Fin 4} (h : TupAt nx a o) (hs : SeqSub nx ny) : TupAt ny a o :=
  let ⟨t0, t1, t2, t3, n, hm⟩ := h
  ⟨t0, t1, t2, t3, n, hs _ hm ⟨_, _, rfl⟩⟩
theorem OrdersAt.seq {nx ny : Led} {a : Addr} {os : List (Fin 4 → Fin 4)} (H : OrdersAt nx a os) (h : SeqSub nx ny) : OrdersAt ny a os :=
  let ⟨vs, n, hm, hl, hv⟩ := H
  ⟨vs, n, h _ hm ⟨_, _, rfl⟩, hl, fun i v hi => let ⟨b, o, e, ho, ht⟩ := hv i v hi; ⟨b, o, e, ho, ht.seq h⟩⟩
theorem StrsAt.seq {nx ny : Led} {a : Addr} {W : Fin 4 → Str} (H : StrsAt nx a W) (h : SeqSub nx ny) : StrsAt ny a W :=
  let ⟨l, n, hm, hv⟩ := H
  ⟨l, n, h _ hm ⟨_, _, rfl⟩, hv⟩
theorem NumsAt.seq {nx ny : Led} {a : Addr} {W : Fin 4 → Int} (H : NumsAt nx a W) (h : SeqSub nx ny) : NumsAt ny a W :=
  let ⟨l, n, hm, hv⟩ := H
  ⟨l, n, h _ hm ⟨_, _, rfl⟩, hv⟩
theorem IntsL.seq {nx ny : Led} {a : Addr} {ns : List Int} (H : IntsL nx a ns) (h : SeqSub nx ny) : IntsL ny a ns :=
  let ⟨vs, n, hm, hi⟩ := H
  ⟨vs, n, h _ hm ⟨_, _, rfl⟩, hi⟩
theorem Kinds.seq {news nx : Led} {ka : Addr} {kk : Fin 4 → Addr} {K : Fin 4 → List Int} (h : Kinds news ka kk K) (k : SeqSub news nx) : Kinds nx ka kk K :=
  ⟨let ⟨n, hm⟩ := h.outer; ⟨n, k _ hm ⟨_, _, rfl⟩⟩, fun i => ⟨(h.inner i).1.seq k, (h.inner i).2⟩, h.inj, h.off⟩
theorem cell_noF {nx : Led} {c : Addr} {v : Option Value} (H : CellAt nx c v) : CellAt (Mine.noF nx) c v := let ⟨o, hm, hd⟩ := H; ⟨o, noF_mem hm fun vs q => (by rw [hd] at q; cases q), hd⟩
end Mine
namespace Mine
theorem News.of {h₀ h : Heap} {L : Addr} {nx r : Led} (N : News h₀ L h nx) (hs : ∀ p ∈ r, p ∈ nx) : News h₀ L h r := fun p hp => N p (hs p hp)
end Mine
end
section
open PySem PySem.W PyProof.Rows PyProof.Rows.LCg
set_option maxRecDepth 100000
namespace Mine
theorem set_cell_other {h₀ h : Heap} {L : Addr} {nx ny : Led} {c : Addr} {v : Option Value} (N : News h₀ L h nx) (H : CellAt nx c v) (S : SetAt c nx ny) {p : Addr × Obj} (hp : p ∈ nx) (hd : ∀ v, p.2.data ≠ .cell v) : p ∈ ny := S p hp fun q => by
  obtain ⟨o, hm, ho⟩ := H
  subst q
  have := News.agree N hp hm
  exact hd v (by rw [this]; exact ho)
section
variable {prog : Program} {w : World} {A : Around} {E : Value → Shared → Prop} {s : Shared} {h₀ : Heap} {L : Addr} {m : Str → Option Value} {nx : Led}
theorem adjust_upto (b n : Nat) (hb : b ≤ n) : Builtin.Slice.sliceAdjust none (some (b : Int)) 1 (n : Int) = (0, (b : Int)) := by
  unfold Builtin.Slice.sliceAdjust
  have h1 : ¬ ((1 : Int) < 0) := by omega
  have h2 : ¬ ((b : Int) < 0) := by omega
  simp only [h1, h2, if_false]
  congr 1
  omega
theorem places_upto (b : Nat) : Builtin.Slice.slicePlaces 0 (b : Int) 1 = b := by
  unfold Builtin.Slice.slicePlaces
  have h1 : (1 : Int) > 0 := by omega
  simp only [h1, if_true, Int.ediv_one]
  split <;> omega
theorem applied_upto {sl : Addr} {b n : Nat} {u : Tok} {Q : Int × Int × Nat → Shared → Prop} (hs : s.heap.IsSliceOf sl .none (.int b u) .none) (hb : b ≤ n) (h : Q (0, 1, b) s) :
    wpAny (model prog w) A (Builtin.Slice.sliceApplied (.ref sl) (pure (n : Int))) Q E s := by
  obtain ⟨os, hos, hcs, hds⟩ := id hs
  unfold Builtin.Slice.sliceApplied Builtin.Slice.sliceFields
  refine wpAny_bind (wpAny_bind (wpAny_field hos hds (x := .none) rfl (wpAny_bind (wpAny_field hos hds (x := .int b u) rfl (wpAny_bind (wpAny_field hos hds (x := .none) rfl (wpAny_pure ?_)))))))
  refine wpAny_bind (slicePart_none ?_)
  show wpAny _ _ (if ((1 : Int) == 0) = true then _ else _) _ _ s
  rw [if_neg (by decide)]
  refine wpAny_bind (slicePart_none (wpAny_bind (slicePart_int (wpAny_bind (wpAny_pure ?_)))))
  show wpAny _ _ (match Builtin.Slice.sliceAdjust none (some (b : Int)) 1 (n : Int) with | (lo, hi) => pure (lo, (1 : Int), Builtin.Slice.slicePlaces lo hi 1)) _ _ s
  rw [adjust_upto b n hb]
  show wpAny _ _ (pure ((0 : Int), (1 : Int), Builtin.Slice.slicePlaces 0 (b : Int) 1)) _ _ s
  rw [places_upto b]
  exact wpAny_pure h
theorem pick_upto (xs : Array Value) (b : Nat) : ((List.range b).filterMap fun (k : Nat) => xs[((0 : Int) + (k : Int) * 1).toNat]?).toArray = (xs.toList.take b).toArray := by
  have e : (fun (k : Nat) => xs[((0 : Int) + (k : Int) * 1).toNat]?) = fun k => xs[k]? := by
    funext k
    have : ((0 : Int) + (k : Int) * 1).toNat = k := by omega
    rw [this]
  rw [e]
  have := pick_run xs 0 b
  rw [List.filterMap_map] at this
  have e2 : ((fun x => xs[x]?) ∘ fun x => 0 + x) = fun k => xs[k]? := by funext k; simp
  rw [e2] at this
  rw [this, List.drop_zero]
theorem getItem_upto {t sl : Addr} {items : Array Value} {b : Nat} {u : Tok} {Q : Value → Shared → Prop} (ht : IsTup s.heap t items) (hs : s.heap.IsSliceOf sl .none (.int b u) .none) (hb : b ≤ items.size)
    (h1 : Q (.ref s.heap.objs.size) { s with heap := s.heap.push { cls := .type "tuple", data := .seq (items.toList.take b).toArray } }) (h2 : b = items.size → Q (.ref t) s)
    (hsz : items.size ≤ sizeLine) : wpAny (model prog w) A (getItem (.ref t) (.ref sl)) Q E s := by
  have hdrop : sizeOk (.seq (items.toList.take b).toArray) := by
    show (items.toList.take b).toArray.size ≤ sizeLine
    rw [List.size_toArray, List.length_take, Array.length_toList]
    omega
  obtain ⟨os, hos, hcs, hds⟩ := id hs
  have hTs : s.TypeIs (.ref sl) "slice" := ⟨os, hos, hcs⟩
  unfold getItem
  try with_reducible refine wpAny_holding ?_
  first | refine wpAny_bind (wpAny_pure ?_) | skip
  refine wpAny_bind (wpAny_sequenceKey ht.typeIs (by decide) ?_)
  refine wpAny_bind (wpAny_callSpecial?_slot (name := Str.ofString "__getitem__") ht.typeIs slot_tuple_getitem
    (wpAny_call_entry slot_tuple_getitem ht.typeIs entry_tuple_getitem ?_ (args_tuple_getitem _ _)))
  show wpAny _ _ (Builtin.Tuple.tupleItemsOf (.ref t) >>= _) _ _ s
  refine wpAny_bind (tupleItemsOf_ ht ?_)
  refine wpAny_bind (wpAny_typeOf hTs ?_)
  rw [if_pos (by decide)]
  refine wpAny_bind (applied_upto hs hb ?_)
  by_cases e : b = items.size
  · have hyes : ((0 : Int) == 0 && (1 : Int) == 1 && b == items.size) = true := by simp [e]
    show wpAny _ _ (if ((0 : Int) == 0 && (1 : Int) == 1 && b == items.size) = true then _ else _) _ _ s
    rw [if_pos hyes]
    have hx : (Value.type "tuple" == Value.type "tuple") = true := by decide
    unfold Builtin.Tuple.tupleIsExact
    first
      | refine wpAny_bind (wpAny_bind (wpAny_typeOf ht.typeIs (wpAny_pure ?_)))
      | refine wpAny_bind (wpAny_bind (wpAny_bind (wpAny_typeOf ht.typeIs (wpAny_pure ?_))))
    rw [if_pos hx]
    exact wpAny_bind (wpAny_rule (wpAny_pure ⟨_, rfl, wpAny_pure (h2 e)⟩))
  · have hno : ¬ (((0 : Int) == 0 && (1 : Int) == 1 && b == items.size) = true) := by simp [e]
    show wpAny _ _ (if ((0 : Int) == 0 && (1 : Int) == 1 && b == items.size) = true then _ else _) _ _ s
    rw [if_neg hno, pick_upto items b]
    first
      | exact wpAny_bind (m := Builtin.Tuple.tupleExact _) (wpAny_newObj_type (wpAny_pure ⟨_, rfl, wpAny_pure h1⟩) hdrop)
      | exact wpAny_bind (m := Builtin.Tuple.tupleExact _) (wpAny_newObj_type (wpAny_bind (wpAny_pure (wpAny_pure ⟨_, rfl, wpAny_pure h1⟩))) hdrop)
      | exact wpAny_bind (wpAny_bind (m := Builtin.Tuple.tupleExact _) (wpAny_newObj_type (wpAny_pure (wpAny_pure ⟨_, rfl, wpAny_pure h1⟩)) hdrop))
      | exact wpAny_bind (wpAny_bind (m := Builtin.Tuple.tupleExact _) (wpAny_newObj_type (wpAny_pure ⟨_, rfl, wpAny_pure h1⟩) hdrop))
/-- a tuple cut at its end -/
theorem slice_upto {value slice : Expr} {t : Addr} {vs : List Value} {n b : Nat} {y : Int} {u : Tok} {Q : Value → Shared → Prop}
    (F : Fr h₀ L s.heap m) (N : News h₀ L s.heap nx) (hm : (t, tupO vs n) ∈ nx) (hy : y = (b : Int)) (hb : b ≤ vs.length) (hsz : vs.length ≤ 1000)
    (h : ∀ c h' nz n', Fr h₀ L h' m → News h₀ L h' nz → (∀ p ∈ nx, p ∈ nz) → (c, tupO (vs.take b) n') ∈ nz → Q (.ref c) { s with heap := h' })
    (hs : subscripted slice false (.ref t) (.ref s.heap.objs.size) = operate [.ref s.heap.objs.size, .ref t] (getItem (.ref t) (.ref s.heap.objs.size)) := by with_unfolding_all rfl)
    (hg : ∀ r, letTemporaryGo value (.ref t) r = pure () := by intro _; with_unfolding_all rfl) :
    wpAny (model prog w) A (subscriptTail value slice (.ref t) (.ref s.heap.objs.size)) Q E { s with heap := s.heap.push { cls := .type "slice", data := .fields #[.none, .int y u, .none] } } := by
  subst hy
  have ht : IsTup s.heap t vs.toArray := ⟨_, (N _ hm).1, rfl, n, rfl⟩
  have ht' : IsTup (s.heap.push { cls := .type "slice", data := .fields #[.none, .int b u, .none] }) t vs.toArray := ht.keeps fun _ _ e => Heap.get?_push_of_some _ e
  refine subscriptTail_ops (s := { s with heap := s.heap.push { cls := .type "slice", data := .fields #[.none, .int b u, .none] } }) ht'.typeIs slot_tuple_getitem.lookup
    (getItem_upto ht' (Heap.IsSliceOf.new ..) (by simpa using hb) ?_ (fun e => ?_) (by rw [sizeLine_eq, List.size_toArray]; omega)) hs hg
  · have N1 := News.push (F.push { cls := .type "slice", data := .fields #[.none, .int b u, .none] }) (N.grown fun _ _ e => Heap.get?_push_of_some _ e) { cls := .type "tuple", data := .seq (vs.take b).toArray }
    show Q (.ref (s.heap.push _).objs.size) _
    exact h _ _ _ 0 ((F.push _).push _) N1 (fun p hp => .tail _ hp) (.head _)
  · have e2 : vs.take b = vs := List.take_of_length_le (by simp at e; omega)
    exact h t _ nx n (F.push _) (N.grown fun _ _ e => Heap.get?_push_of_some _ e) (fun p hp => hp) (by rw [e2]; exact hm)
theorem tup4_sub {value slice : Expr} {a : Addr} {o : Fin 4 → Fin 4} {i : Fin 4} {k : Int} {u : Tok} {Q : Value → Shared → Prop} (N : News h₀ L s.heap nx) (H : TupAt nx a o) (hk : k = (i.val : Int))
    (h : ∀ t, Q (.int ((o i).val : Int) t) s)
    (hsub : subscripted slice false (.ref a) (.int k u) = operate [.ref a, .int k u] (getItem (.ref a) (.int k u)) := by with_unfolding_all rfl)
    (hg : ∀ r, letTemporaryGo value (.ref a) r = pure () := by intro _; with_unfolding_all rfl) :
    wpAny (model prog w) A (subscriptTail value slice (.ref a) (.int k u)) Q E s := by
  obtain ⟨t0, t1, t2, t3, n, hm⟩ := H
  have hT : IsTup s.heap a ([.int ((o 0).val : Int) t0, .int ((o 1).val : Int) t1, .int ((o 2).val : Int) t2, .int ((o 3).val : Int) t3] : List Value).toArray := ⟨_, (N _ hm).1, rfl, n, rfl⟩
  have h0 : -(2 ^ 63) ≤ k := by omega
  have h1 : k < 2 ^ 63 := by have := i.isLt; omega
  match i, hk with
  | 0, hk => exact item_tupleL (j := 0) hT h0 h1 (by subst hk; rfl) rfl (h t0) hsub hg
  | 1, hk => exact item_tupleL (j := 1) hT h0 h1 (by subst hk; rfl) rfl (h t1) hsub hg
  | 2, hk => exact item_tupleL (j := 2) hT h0 h1 (by subst hk; rfl) rfl (h t2) hsub hg
  | 3, hk => exact item_tupleL (j := 3) hT h0 h1 (by subst hk; rfl) rfl (h t3) hsub hg
end
/-- how many of the row's first words stand at or below the last -/
noncomputable def cntF (row : Fin 4 → Fin 4) (i : Fin 4) (j : Nat) : Nat := ((List.range j).filter (fun a => decide ((row (Fin.ofNat 4 a)).val ≤ (row i).val))).length
theorem cntF_zero (row : Fin 4 → Fin 4) (i : Fin 4) : cntF row i 0 = 0 := rfl
theorem cntF_hit {row : Fin 4 → Fin 4} {i j : Fin 4} (h : (row j).val ≤ (row i).val) : cntF row i (j.val + 1) = cntF row i j.val + 1 := by
  unfold cntF
  have e : Fin.ofNat 4 j.val = j := by simp
  rw [List.range_succ, List.filter_append, List.length_append]
  simp [e, h]
theorem cntF_miss {row : Fin 4 → Fin 4} {i j : Fin 4} (h : ¬ (row j).val ≤ (row i).val) : cntF row i (j.val + 1) = cntF row i j.val := by
  unfold cntF
  have e : Fin.ofNat 4 j.val = j := by simp
  rw [List.range_succ, List.filter_append, List.length_append]
  have h2 : (row i).val < (row j).val := by omega
  simp [e]
  exact h2
theorem cntF_le (row : Fin 4 → Fin 4) (i : Fin 4) (j : Nat) : cntF row i j ≤ j := by
  unfold cntF
  exact Nat.le_trans (List.length_filter_le _ _) (by simp)
theorem cntF_pos (row : Fin 4 → Fin 4) (i : Fin 4) : 1 ≤ cntF row i (i.val + 1) := by
  rw [cntF_hit (Nat.le_refl _)]; omega
end Mine
namespace Mine
theorem tup4_take {o : Fin 4 → Fin 4} {t0 t1 t2 t3 : Tok} {b j : Nat} {v : Value} (h : (([.int ((o 0).val : Int) t0, .int ((o 1).val : Int) t1, .int ((o 2).val : Int) t2, .int ((o 3).val : Int) t3] : List Value).take b)[j]? = some v) : j < b ∧ ∃ (hi : j < 4) (t : Tok), v = .int ((o ⟨j, hi⟩).val : Int) t := by
  rw [List.getElem?_take] at h
  split at h
  · exact ⟨by assumption, tup4_get h⟩
  · cases h
theorem tup4_takelen {o : Fin 4 → Fin 4} {t0 t1 t2 t3 : Tok} {b : Nat} (h : b ≤ 4) : (([.int ((o 0).val : Int) t0, .int ((o 1).val : Int) t1, .int ((o 2).val : Int) t2, .int ((o 3).val : Int) t3] : List Value).take b).length = b := by
  rw [List.length_take]
  simp only [List.length_cons, List.length_nil]
  omega
end Mine
end
section
open PySem PySem.W PyProof.Rows PyProof.Rows.LCg
set_option maxRecDepth 100000
namespace Mine
section
variable {w : World} {A : Around} {s : Shared} {env : Env} {h₀ : Heap} {L : Addr} {m : Str → Option Value} {E : Value → Shared → Prop}
/-- the state at the head of a dict comprehension's turn -/
noncomputable def DHead (w : World) (h₀ : Heap) (L : Addr) (m : Str → Option Value) (s : Shared) (SI : Nat → Led → Prop) (Cf : Nat → List (Str × Int)) (nx₀ : Led) (C D : Addr) (n : Nat) (k : Nat) (s' : Shared) : Prop :=
  ∃ h' tk ny i oC m₂, s' = { s with heap := h', toks := tk } ∧ Fr h₀ L h' m ∧ News h₀ L h' ny ∧ SI i ny ∧ DictL w ny D (Cf i) ∧ (∀ p ∈ nx₀, p ∈ ny) ∧ (C, oC) ∈ ny ∧ NsObj oC m₂ ∧ i ≤ n ∧ k = n + 1 - i
theorem dcomp_loop {x : Str} {px : Pos} {kx vx iter : Expr} {scope : Scope} {cl : List (Str × Addr)} {pos : Pos} {I C D : Addr} {n : Nat} {icl : List Value} {P : Nat → Value → Prop} {SI : Nat → Led → Prop} {src : List Addr} {R : Result → Shared → Prop} {nx₀ nx : Led}
    (T : IterS w A I n icl P SI src) (Cf : Nat → List (Str × Int)) (kf : Nat → Str) (vf : Nat → Int) (hCs : ∀ i, i < n → Cf (i + 1) = kdpPut (Cf i) (kf i) (vf i)) (hlen : ∀ i, (Cf i).length ≤ 1000)
    (hkind : scope.kind = .function) (hx : scope.names.lookup x = some .local)
    (hCD : C ≠ D) (hsrc : C ∉ src ∧ D ∉ src) (hold : ∀ p ∈ nx₀, p.1 ≠ C ∧ p.1 ≠ D ∧ p.1 ≠ I)
    (key : ∀ i v nx oC m₂ h tk, i < n → P i v → (∀ p ∈ nx₀, p ∈ nx) → (C, oC) ∈ nx → NsObj oC m₂ → m₂ x = some v → Fr h₀ L h m → News h₀ L h nx →
      wpAny (model PG w) A (eval kx (compEnvC scope cl C env)) (ElV h₀ L m { s with heap := h, toks := tk } nx (fun y => ∃ t, y = .str (kf i) t)) noE { s with heap := h, toks := tk })
    (val : ∀ i v nx oC m₂ h tk, i < n → P i v → (∀ p ∈ nx₀, p ∈ nx) → (C, oC) ∈ nx → NsObj oC m₂ → m₂ x = some v → Fr h₀ L h m → News h₀ L h nx →
      wpAny (model PG w) A (eval vx (compEnvC scope cl C env)) (ElV h₀ L m { s with heap := h, toks := tk } nx (fun y => ∃ t, y = .int (vf i) t)) noE { s with heap := h, toks := tk })
    (done : ∀ nx oC m₂ h tk, DictL w nx D (Cf n) → (∀ p ∈ nx₀, p ∈ nx) → (C, oC) ∈ nx → NsObj oC m₂ → Fr h₀ L h m → News h₀ L h nx → R (.ok .next) { s with heap := h, toks := tk })
    (F : Fr h₀ L s.heap m) (N : News h₀ L s.heap nx) (hSI : SI 0 nx) (hD0 : DictL w nx D (Cf 0)) (h0 : ∀ p ∈ nx₀, p ∈ nx) {oC : Obj} {m₂ : Str → Option Value} (hCm : (C, oC) ∈ nx) (hCo : NsObj oC m₂)
    (hCI : C ≠ I) (hDI : D ≠ I) :
    codeAny (model PG w) A (.compLoop (.DictComp kx vx [⟨.Name x px, iter, [], 0⟩] scope pos) 0 (.ref I) (.ref D) (compEnvC scope cl C env)) R s := by
  refine codeAny_compLoop_testsD (DHead w h₀ L m s SI Cf nx₀ C D n) ?_ (n + 1)
    ⟨s.heap, s.toks, nx, 0, oC, m₂, rfl, F, N, hSI, hD0, h0, hCm, hCo, Nat.zero_le _, rfl⟩
  rintro k s' ⟨h', tk, ny, i, oC, m₂, rfl, F', N', hS', hD', h0', hCm', hCo', hi, rfl⟩
  by_cases hlt : i < n
  · refine T.next i { s with heap := h', toks := tk } _ h₀ L m ny _ hlt hS' F' N' fun v h₁ tk₁ nz hP hS₁ F₁ N₁ hK hA => ?_
    have hC₁ := hA _ hCm' (by simpa using hCI)
    have zC := N₁ _ hC₁
    refine wpAny_assign_Name (wpAny_storeName_local (lookup_relabel_local hx) (hCo'.ns zC.1) (fun h₂ hn₂ hs₂ => ?_) (by simp [compEnvC, relabel, hkind]))
    obtain ⟨oC₂, heC₂, hoC₂⟩ := ns_obj hn₂
    have hs₂' : Heap.SameBut C h₁ h₂ := hs₂
    obtain ⟨F₂, N₂⟩ := led_set F₁ N₁ hC₁ hs₂' heC₂
    have up : ∀ p ∈ nz, p.1 ≠ C → p ∈ (C, oC₂) :: nz.filter (fun p => p.1 != C) := fun p hp hne => .tail _ (List.mem_filter.mpr ⟨hp, by simpa using hne⟩)
    have hS₂ : SI (i + 1) ((C, oC₂) :: nz.filter (fun p => p.1 != C)) := T.stab _ _ _ hS₁ fun p hp hs => up p hp fun e => hsrc.1 (e ▸ hs)
    have hD₁ : DictL w nz D (Cf i) := hD'.keep hK
    have hD₂ : DictL w ((C, oC₂) :: nz.filter (fun p => p.1 != C)) D (Cf i) :=
      let ⟨h1, o, kvs, hm, h2, h3⟩ := hD₁
      ⟨h1, o, kvs, up _ hm (Ne.symm hCD), h2, h3⟩
    have h0₂ : ∀ p ∈ nx₀, p ∈ (C, oC₂) :: nz.filter (fun p => p.1 != C) := fun p hp => up p (hA p (h0' p hp) (by simpa using (hold p hp).2.2)) (hold p hp).1
    have hC₂ : (C, oC₂) ∈ (C, oC₂) :: nz.filter (fun p => p.1 != C) := .head _
    generalize (C, oC₂) :: nz.filter (fun p => p.1 != C) = nw at N₂ hS₂ h0₂ hD₂ hC₂
    refine wpAny_tests_nil ?_
    rw [if_pos rfl]
    refine wpAny_mono (key i v nw oC₂ _ h₂ _ hlt hP h0₂ hC₂ hoC₂ (by simp) F₂ N₂) (fun kv s₃ h₃ => ?_) fun _ _ e => e.elim
    obtain ⟨h₃, tk₃, n₃, rfl, F₃, N₃, sub₃, t₃, rfl⟩ := h₃
    refine wpAny_mono (val i v n₃ oC₂ _ h₃ _ hlt hP (fun p hp => sub₃ p (h0₂ p hp)) (sub₃ _ hC₂) hoC₂ (by simp) F₃ N₃) (fun vv s₄ h₄ => ?_) fun _ _ e => e.elim
    obtain ⟨h₄, tk₄, n₄, rfl, F₄, N₄, sub₄, t₄, rfl⟩ := h₄
    have hD₄ : DictL w n₄ D (Cf i) := hD₂.mono fun p hp => sub₄ p (sub₃ p hp)
    obtain ⟨hmod, o, kvs, hm, hd, hf⟩ := hD₄
    have hsz : kvs.length ≤ sizeLine := by
      have e1 := hf.length
      rw [kdpD_length] at e1
      rw [sizeLine_eq]
      have e2 := hlen i
      omega
    refine wpAny_dictSet_pairs (hsz := hsz) (PySem.strKind_is PG w _ _) (Heap.dictOf_iff.mpr ⟨o, (N₄ _ hm).1, hd⟩) fun h₅ hl₅ hs₅ => ?_
    obtain ⟨o₅, ho₅, hd₅⟩ := Heap.dictOf_iff.mp hl₅
    obtain ⟨F₅, N₅⟩ := led_set F₄ N₄ hm hs₅ ho₅
    have up₅ : ∀ p ∈ n₄, p.1 ≠ D → p ∈ (D, o₅) :: n₄.filter (fun p => p.1 != D) := fun p hp hne => .tail _ (List.mem_filter.mpr ⟨hp, by simpa using hne⟩)
    have hD₅ : DictL w ((D, o₅) :: n₄.filter (fun p => p.1 != D)) D (Cf (i + 1)) := ⟨hmod, o₅, _, .head _, hd₅, by
      rw [hCs i hlt, ← kdpD_put]
      exact PyProof.V.FlatPairs.stored PyProof.V.same_str hf _ (PyProof.V.Flat.int _ _)⟩
    exact ⟨n + 1 - (i + 1), by omega, h₅, _, _, i + 1, oC₂, _, rfl, F₅, N₅, T.stab _ _ _ (T.stab _ _ _ hS₂ fun p hp _ => sub₄ p (sub₃ p hp)) fun p hp hs => up₅ p hp fun e => hsrc.2 (e ▸ hs),
      hD₅, fun p hp => up₅ p (sub₄ p (sub₃ p (h0₂ p hp))) (hold p hp).2.1, up₅ _ (sub₄ _ (sub₃ _ hC₂)) hCD, hoC₂, hlt, rfl⟩
  · have hin : i = n := by omega
    subst hin
    refine T.done { s with heap := h', toks := tk } _ h₀ L m ny _ hS' F' N' fun h₁ tk₁ nz F₁ N₁ hK hA => ?_
    exact done nz oC m₂ h₁ tk₁ (hD'.keep hK) (fun p hp => hA p (h0' p hp) (by simpa using (hold p hp).2.2)) (hA _ hCm' (by simpa using hCI)) hCo' F₁ N₁
/-- what is to be shown when a dict comprehension has its iterator -/
noncomputable def DCompAt (w : World) (A : Around) (E : Value → Shared → Prop) (env : Env) (kx vx : Expr) (x : Str) (px : Pos) (iter : Expr) (scope : Scope) (pos : Pos) (cl : List (Str × Addr)) (RR : Value → Addr → Result → Shared → Prop) (it : Value) (s₂ : Shared) : Prop :=
  wpAny (model PG w) A newDict (fun acc s₃ => wpAny (model PG w) A (newFunctionEnv scope env.globals cl [] env.qual none .none (some env)) (fun cenv s₄ =>
      codeAny (model PG w) A (.compStart (.DictComp kx vx [⟨.Name x px, iter, [], 0⟩] scope pos) 0 it acc { cenv with scope := relabel scope env }) (RR acc cenv.locals) s₄) E s₃) E s₂
theorem evalDComp {kx vx iter : Expr} {x : Str} {px : Pos} {scope : Scope} {cl : List (Str × Addr)} {pos : Pos} {Q : Value → Shared → Prop}
    (hclos : closureFor scope env = pure cl) (hkind : scope.kind = .function) (hnames : ∀ y ∈ scope.names, y.2 = .local → scope.names.lookup y.1 = some .local)
    (h : wpAny (model PG w) A (eval iter env) (fun xv s₁ => wpAny (model PG w) A (pyIter xv) (fun it s₂ => DCompAt w A E env kx vx x px iter scope pos cl (compPost (model PG w) A E none Q) it s₂) E s₁) E s)
    (hs : ∀ x, foldedSetIterable iter env x = pure x := by intro _; rfl) :
    wpAny (model PG w) A (eval (.DictComp kx vx [⟨.Name x px, iter, [], 0⟩] scope pos) env) Q E s := by
  rw [arm_eval_DictComp]
  exact wpAny_comprehension_free (use := none) rfl hs hclos hkind hnames h
theorem dcomp_range {kx vx iter : Expr} {x : Str} {px : Pos} {scope : Scope} {cl : List (Str × Addr)} {pos : Pos} {nx : Led} {r : Addr} {a b : Int} {t₀ u₀ v₀ : Tok} {n : Nat} {Q : Value → Shared → Prop}
    (Cf : Nat → List (Str × Int)) (kf : Nat → Str) (vf : Nat → Int) (hC0 : Cf 0 = []) (hCs : ∀ i, i < n → Cf (i + 1) = kdpPut (Cf i) (kf i) (vf i)) (hlen : ∀ i, (Cf i).length ≤ 1000)
    (hcell : ∀ y ∈ scope.names, y.2 ≠ .cell) (hkind : scope.kind = .function) (hx : scope.names.lookup x = some .local) (hh : A.handled = none) (hbig : sysModules < h₀.objs.size)
    (F : Fr h₀ L s.heap m) (N : News h₀ L s.heap nx) (hr : IsRange s.heap r a b 1 t₀ u₀ v₀) (hsmall : Builtin.Range.small a b 1 = true) (hn : Builtin.Range.rangeSize a b 1 = (n : Int))
    (key : ∀ C i t ny oC m₂ h tk, i < n → (∀ p ∈ nx, p ∈ ny) → (C, oC) ∈ ny → NsObj oC m₂ → m₂ x = some (.int (a + (i : Nat)) t) → Fr h₀ L h m → News h₀ L h ny →
      wpAny (model PG w) A (eval kx (compEnvC scope cl C env)) (ElV h₀ L m { s with heap := h, toks := tk } ny (fun y => ∃ t, y = .str (kf i) t)) noE { s with heap := h, toks := tk })
    (val : ∀ C i t ny oC m₂ h tk, i < n → (∀ p ∈ nx, p ∈ ny) → (C, oC) ∈ ny → NsObj oC m₂ → m₂ x = some (.int (a + (i : Nat)) t) → Fr h₀ L h m → News h₀ L h ny →
      wpAny (model PG w) A (eval vx (compEnvC scope cl C env)) (ElV h₀ L m { s with heap := h, toks := tk } ny (fun y => ∃ t, y = .int (vf i) t)) noE { s with heap := h, toks := tk })
    (fin : ∀ D h tk ny, DictL w ny D (Cf n) → (∀ p ∈ nx, p ∈ ny) → Fr h₀ L h m → News h₀ L h ny → Q (.ref D) { s with heap := h, toks := tk }) :
    wpAny (model PG w) A (pyIter (.ref r)) (fun it s₂ => DCompAt w A E env kx vx x px iter scope pos cl (compPost (model PG w) A E none Q) it s₂) E s := by
  refine iter_range_start (n := n) F N hr hsmall hn ?_
  intro I oI hp F0 N0 hSI hnI
  have T := iterS_range (w := w) (A := A) (I := I) (a := a) (n := n) hh
  unfold DCompAt
  refine wpAny_newObj_type (wpAny_newFunctionEnv hcell (by intro y hy; simp at hy) (fun h₁ hns₁ hsb₁ => ?_) hkind)
  dsimp only at hns₁ hsb₁ ⊢
  obtain ⟨oD, hoD, hdD⟩ := Heap.dictOf_iff.mp (Heap.DictOf.new (knd := PySem.strKind PG w) hp)
  generalize hH2 : hp.push { cls := .type "dict", dict := none, data := .dict #[] } = H2 at hns₁ hsb₁ hoD ⊢
  have hC : H2.objs.size = hp.objs.size + 1 := by rw [← hH2, Heap.size_push]
  have up : ∀ b o, hp.get? b = some o → H2.get? b = some o := fun b o e => hH2 ▸ Heap.get?_push_of_some _ e
  have FD : Fr h₀ L H2 m := F0.keeps up
  have lt : ∀ p ∈ (I, oI) :: nx, p.1 < hp.objs.size := fun p hp' => Heap.lt_size (N0 p hp').1
  have hCL : H2.objs.size ≠ L := by rw [hC]; exact Nat.ne_of_gt (Nat.lt_succ_of_lt F0.ns.lt)
  have hDL : hp.objs.size ≠ L := Nat.ne_of_gt F0.ns.lt
  have hCD : H2.objs.size ≠ hp.objs.size := by rw [hC]; exact Nat.succ_ne_self _
  have none_at : ∀ c, hp.objs.size ≤ c → h₀.get? c = none := fun c hc => by
    cases q : h₀.get? c with
    | none => rfl
    | some o => exact absurd (Heap.lt_size (F0.keep _ _ q)) (Nat.not_lt.mpr hc)
  obtain ⟨oC, heC, hoC⟩ := ns_obj hns₁
  have old : ∀ b o, H2.get? b = some o → h₁.get? b = some o := fun b o e => hsb₁.extBut b o (Nat.ne_of_lt (Heap.lt_size e)) (Heap.get?_push_of_some _ e)
  have F₁ : Fr h₀ L h₁ m := FD.keeps old
  have N₁ : News h₀ L h₁ ((H2.objs.size, oC) :: (hp.objs.size, oD) :: (I, oI) :: nx) := fun p hp' => by
    rcases List.mem_cons.mp hp' with rfl | hp'
    · exact ⟨heC, hCL, none_at _ (by rw [hC]; exact Nat.le_succ _)⟩
    · rcases List.mem_cons.mp hp' with rfl | hp'
      · exact ⟨old _ _ hoD, hDL, none_at _ (Nat.le_refl _)⟩
      · exact ⟨old _ _ (up _ _ (N0 p hp').1), (N0 p hp').2⟩
  have hS₁ : SIRange I a n 0 ((H2.objs.size, oC) :: (hp.objs.size, oD) :: (I, oI) :: nx) := T.stab _ _ _ hSI fun p hp' _ => .tail _ (.tail _ hp')
  have hD₁ : DictL w ((H2.objs.size, oC) :: (hp.objs.size, oD) :: (I, oI) :: nx) hp.objs.size (Cf 0) := ⟨F0.notModules hbig, oD, [], .tail _ (.head _), hdD, by rw [hC0]; exact .nil⟩
  have offC : ∀ p ∈ (I, oI) :: nx, p.1 ≠ H2.objs.size := fun p hp' => by rw [hC]; exact Nat.ne_of_lt (Nat.lt_succ_of_lt (lt p hp'))
  have offD : ∀ p ∈ (I, oI) :: nx, p.1 ≠ hp.objs.size := fun p hp' => Nat.ne_of_lt (lt p hp')
  have loop : ∀ s₃ : Shared, s₃ = { s with heap := h₁, toks := s.toks + ([] : List (Str × Value)).length } →
      codeAny (model PG w) A (.compLoop (.DictComp kx vx [⟨.Name x px, iter, [], 0⟩] scope pos) 0 (.ref I) (.ref hp.objs.size) (compEnvC scope cl H2.objs.size env))
        (compPost (model PG w) A E none Q (.ref hp.objs.size) H2.objs.size) s₃ := by
    rintro s₃ rfl
    refine dcomp_loop (s := { s with heap := h₁, toks := _ }) (nx₀ := nx) T Cf kf vf hCs hlen hkind hx hCD ⟨?_, ?_⟩ (fun p hp' => ⟨offC p (.tail _ hp'), offD p (.tail _ hp'), hnI p hp'⟩)
      (fun i v ny oC m₂ h tk hi hP => ?_) (fun i v ny oC m₂ h tk hi hP => ?_) ?_ F₁ N₁ hS₁ hD₁ (fun p hp' => .tail _ (.tail _ (.tail _ hp'))) (.head _) hoC ?_ ?_
    · rw [List.mem_singleton]; exact Ne.symm (offC _ (.head _))
    · rw [List.mem_singleton]; exact Ne.symm (offD _ (.head _))
    · obtain ⟨t, rfl⟩ := hP
      exact key _ i t ny oC m₂ h tk hi
    · obtain ⟨t, rfl⟩ := hP
      exact val _ i t ny oC m₂ h tk hi
    · intro ny oC m₂ h tk hD sub hCm hNs F' N'
      refine post_none (s := { s with heap := _ }) hCm hNs F' N' fun h' nz F₂ N₂ k => fin _ h' tk nz ?_ (fun p hp' => k p (sub p hp') (offC p (.tail _ hp'))) F₂ N₂
      obtain ⟨h1, o, kvs, hm, h2, h3⟩ := hD
      exact ⟨h1, o, kvs, k _ hm (Ne.symm hCD), h2, h3⟩
    · exact Ne.symm (offC _ (.head _))
    · exact Ne.symm (offD _ (.head _))
  exact codeAny_compStart_dict (loop _ rfl) (T.self 0 _ _ _ h₀ L _ hS₁ N₁ (loop _ rfl))
end
/-- two tables of the ledger that hold the same -/
theorem kdp_find : ∀ {c : List (Str × Int)} {k : Str} {v : Int}, (c.map (·.1)).Nodup → (k, v) ∈ c → PySem.Spec.lookup (PyData.str k) (kdpD c) = some (PyData.int v)
  | [], _, _, _, h => nomatch h
  | (i, x) :: c, k, v, nd, h => by
    rw [kdpD_lookup, List.find?_cons]
    rw [List.map_cons, List.nodup_cons] at nd
    rcases List.mem_cons.mp h with e | h
    · cases e; simp
    · have hk : k ∈ c.map (·.1) := List.mem_map_of_mem (f := Prod.fst) h
      have hne : i ≠ k := fun e => nd.1 (by show i ∈ _; rw [e]; exact hk)
      have ih := kdp_find nd.2 h
      rw [kdpD_lookup] at ih
      simp only [decide_eq_false hne]
      exact ih
theorem keq_rows {c : List (Str × Int)} (nd : (c.map (·.1)).Nodup) : ∀ r : List (Str × Int), (∀ p ∈ r, p ∈ c) → KeqRows (kdpD c) (kdpD r) true
  | [], _ => .nil
  | (k, v) :: r, h => by
    have ih := keq_rows nd r fun p hp => h p (.tail _ hp)
    have q := KeqRows.hit (v := PyData.int v) (kdp_find nd (h _ (.head _))) ih
    have e : (PyData.eqv (PyData.int v) (PyData.int v) && true) = true := by simp [PyData.eqv]
    rw [e] at q
    exact q
theorem ne_dicts_same {w : World} {A : Around} {E : Value → Shared → Prop} {s : Shared} {h₀ : Heap} {L : Addr} {nx : Led} {Q : Value → Shared → Prop} {a b : Addr} {c : List (Str × Int)} (N : News h₀ L s.heap nx)
    (H1 : DictL w nx a c) (H2 : DictL w nx b c) (nd : (c.map (·.1)).Nodup) (hu : A.units < cLine) (h : Q (.bool false) s) : wpAny (model PG w) A (compareOp .NotEq (.ref a) (.ref b)) Q E s :=
  kne_tabs PyProof.V.same_str (H1.tab (fun _ h => h) N) (H2.tab (fun _ h => h) N) rfl hu (keq_rows nd c fun _ h => h) h
end Mine
end
section
open PySem PySem.W PyProof.Rows PyProof.Rows.LCg
namespace Mine
set_option maxRecDepth 100000
set_option maxHeartbeats 2000000
variable (w : World) (p : Program) (loose : List Str) (mean : ExcName → Option Value) (mg mb : Str → Option Value)
local macro_rules | `(tactic| k_mem) => `(tactic| first | assumption | exact List.Mem.head _ | (refine List.mem_cons_of_mem _ ?_; k_mem) | (refine mem_grow (by assumption) ?_; k_mem))
local macro_rules | `(tactic| ktd_sub) => `(tactic| first | assumption | exact fun _ h => h | (refine sub_cons ?_; ktd_sub) | (refine sub_grow (by assumption) ?_; ktd_sub))
local macro_rules | `(tactic| ktn_ord) => `(tactic| first | assumption | exact Grow.refl _ | (refine Grow.cons ?_ (by ktn_lt); ktn_ord) | (refine Grow.trans ?_ (by assumption); ktn_ord))
local macro_rules | `(tactic| ktr_rel) => `(tactic| first | assumption | exact TrIn.leaf (by k_mem) | exact TrIn.node (by k_mem) (by ktr_rel) (by ktr_rel) | exact TrIn.mono (by assumption) (by ktd_sub))
local macro_rules | `(tactic| walk_at "compareOp Eq ref ref") => `(tactic| (k_here; (with_reducible show wpAny _ _ (compareOp CmpOp.Eq (Value.ref _) (Value.ref _)) _ _ _); k_dflt (refine' eq_leaf ?k1 ?k2 ?k3 ?k4 ?k5 ?k6 ?_; (case k1 => k_asm); (case k2 => assumption); (case k3 => assumption); (case k4 => ktd_sub); (case k5 => k_mem); (case k6 => ktr_units); k_whole); (try dsimp only [Tr.isLeaf])))
local macro_rules | `(tactic| walk_at "subscriptTail") => `(tactic| (k_here; (with_reducible show wpAny _ _ (subscriptTail _ _ (Value.ref _) (Value.int ((Fin.val _ : Nat) : Int) _)) _ _ _); k_dflt (refine' str_item ?k1 ?k2 ?k3 ?_ ?k4 ?k5; (case k1 => k_asm); (case k2 => assumption); (case k3 => ktd_sub); (case k4 => with_unfolding_all rfl); (case k5 => (intro _; with_unfolding_all rfl)); k_whole); intro _))
local macro_rules | `(tactic| walk_at "subscriptTail") => `(tactic| (k_here; (with_reducible show wpAny _ _ (subscriptTail _ _ (Value.ref _) (Value.int ((Fin.val _ : Nat) : Int) _)) _ _ _); k_dflt (refine' num_item ?k1 ?k2 ?k3 ?_ ?k4 ?k5; (case k1 => k_asm); (case k2 => assumption); (case k3 => ktd_sub); (case k4 => with_unfolding_all rfl); (case k5 => (intro _; with_unfolding_all rfl)); k_whole); intro _))
local macro_rules | `(tactic| walk_at "exec For") => `(tactic| (k_here; refine wpAny_For ?forE (by intro _; rfl)))
local macro_rules | `(tactic| walk_at "exec For Name Name") => `(tactic| (k_here; refine wpAny_For ?forE (by intro _; rfl)))
local macro_rules | `(tactic| walk_at "exec For Name Call") => `(tactic| (k_here; refine wpAny_For ?forE (by intro _; rfl)))
local macro_rules | `(tactic| walk_at "exec For Tuple Call") => `(tactic| (k_here; refine wpAny_For ?forE (by intro _; rfl)))
local macro_rules | `(tactic| walk_at "exec For Name Name cons nil") => `(tactic| (k_here; refine wpAny_For ?forE (by intro _; rfl)))
local macro_rules | `(tactic| walk_at "exec For Name Call cons nil") => `(tactic| (k_here; refine wpAny_For ?forE (by intro _; rfl)))
local macro_rules | `(tactic| walk_at "exec For Tuple Call cons nil") => `(tactic| (k_here; refine wpAny_For ?forE (by intro _; rfl)))
local macro_rules | `(tactic| walk_at "exec For Name Subscript") => `(tactic| (k_here; refine wpAny_For ?forE (by intro _; rfl)))
local macro_rules | `(tactic| walk_at "exec For Name Subscript cons nil") => `(tactic| (k_here; refine wpAny_For ?forE (by intro _; rfl)))
local macro_rules | `(tactic| walk_at "exec Assign cons ListComp") => `(tactic| (k_here; k_dflt (refine' assignComp ?k1 ?k2 ?k3 ?k4 ?_ ?k5; (case k1 => with_unfolding_all rfl); (case k2 => rfl); (case k3 => rfl); (case k4 => decide); (case k5 => (intro _; rfl)))))
local macro_rules | `(tactic| walk_at "eval ListComp") => `(tactic| (k_here; k_dflt (refine' evalComp ?k2 ?k3 ?k4 ?_ ?k5; (case k2 => rfl); (case k3 => rfl); (case k4 => decide); (case k5 => (intro _; rfl)))))
local macro_rules | `(tactic| walk_at "binaryOp Mult ref int") => `(tactic| (k_here; (with_reducible show wpAny _ _ (binaryOp Operator.Mult (Value.ref _) (Value.int 16 _)) _ _ _); k_dflt (refine' mul16 ?k1 ?k2 ?k3 ?_; (case k1 => k_asm); (case k2 => k_asm); (case k3 => k_mem)); intro h6 D6 o6 F6 N6 l6 I6))
local macro_rules | `(tactic| walk_at "call ref") => `(tactic| (k_here; refine Held.out ?_))
set_option maxHeartbeats 0 in
theorem seg6 {base h₀ : Heap} {L fa : Addr} {fv : Value} {m : Str → Option Value} {s : Shared} {Q : Flow → Shared → Prop} {E : Value → Shared → Prop} {nx : Led}
    (B : Below callerA base [] h₀) (X : (KG w.params).In h₀) (T : Top p loose mean mg mb h₀) (F : Fr h₀ L s.heap m) (N : News h₀ L s.heap nx)
    (k : ∀ h tk pa ys ny, Fr h₀ L h (fun z => if z = Str.ofString "pairs" then some (.ref pa) else m z) → News h₀ L h ny → (pa, lst ys) ∈ ny → (∃ nx₀ C D, TupsAt nx₀ C D ys (pairsTo 4 0) ny) → (∀ p ∈ nx, p ∈ ny ∧ p.1 ≠ pa) →
      wpAny (model PG w) (callerA.deeper (lawEnv L fa fv)) (execs (lawStmts.drop 7) (lawEnv L fa fv)) Q E { s with heap := h, toks := tk }) :
    wpAny (model PG w) (callerA.deeper (lawEnv L fa fv)) (execs (lawStmts.drop 6) (lawEnv L fa fv)) Q E s := by
  unfold lawEnv
  conv in (occs := *) lawScope => all_goals whnf
  conv in List.drop _ _ => whnf
  walk_at "execs cons"
  k_dflt (refine' assignComp2 ?k1 ?k2 ?k3 ?k4 ?_ ?k5; (case k1 => with_unfolding_all rfl); (case k2 => rfl); (case k3 => rfl); (case k4 => decide); (case k5 => (intro _; rfl)))
  k_steps
  rename IsRange _ _ _ _ _ _ _ _ => hr
  k_dflt (refine iter_range_start (n := 4) (by k_asm) (by k_asm) hr (by decide) (by decide) ?_)
  intro I o h' F1 N1 hS hI
  k_dflt (refine' comp2_assign (n1 := 4) (nx₀ := nx) (iterS_range rfl) (List.mem_singleton.mpr rfl) (fun i mm => ∃ t, mm (Str.ofString "one") = some (.int (i : Int) t)) ?hM (fun C D i j ys ny => TupsAt nx C D ys (pairsTo i j) ny ∧ ys.length ≤ 4 * i + j ∧ j ≤ 4 ∧ i ≤ 4) ?stable ?len ?hcell ?hkind ?hx ?hh ?hn1 ?hsmall ?hsize ?F ?N hS ?hnx ?start ?asg ?ev ?next ?turn ?hL ?hy ?hp ?fin ?hs; (case hcell => decide); (case hkind => rfl); (case hx => rfl); (case hh => rfl); (case hn1 => decide); (case hsmall => decide); (case hsize => decide); (case F => k_asm); (case N => k_asm); (case hL => rfl); (case hy => rfl); (case hp => rfl); (case hs => (intro _ _; rfl)))
  (case hM => exact fun i m₂ v ⟨t, ht⟩ => ⟨t, ht⟩)
  (case stable => exact fun C D i j ys nx ny ⟨h1, h2⟩ h => ⟨h1.stable h, h2⟩)
  (case len => intro C D i j ys nx ⟨_, h2, h3, h4⟩; omega)
  (case hnx => exact fun p hp => ⟨.tail _ hp, hI p hp⟩)
  (case start => exact fun C D ny => ⟨TupsAt.nil, Nat.le_refl _, by decide, by decide⟩)
  (case asg =>
    intro C i v ny oC m₂ h tk hi ⟨t, hv⟩ hCL hC hNs sub off F2 N2
    subst hv
    exact asg_name (s := { s with heap := _, toks := _ }) rfl rfl F2 N2 hC hNs (M := fun mm => ∃ t, mm (Str.ofString "one") = some (.int (i : Int) t)) ⟨t, by simp⟩)
  (case next =>
    intro C D i ys nx hi ⟨h1, h2, h3, h4⟩
    exact ⟨by rw [← pairsTo_next]; exact h1, by omega, by omega, by omega⟩)
  (case fin =>
    intro C D ys h tk ny hCD off ⟨h1, _⟩ sub hD F2 N2
    exact k _ _ _ _ _ F2 N2 hD ⟨_, _, _, h1⟩ fun p hp => ⟨sub p hp, (off p hp).2⟩)
  (case ev =>
    intro C ny h tk sub F2 N2
    dsimp only
    k_steps
    exact ⟨_, _, _, _, _, _, _, rfl, rfl, by k_asm, by k_asm, fun p h => h, by assumption⟩)
  (case turn =>
    intro C D i j t ys ny oC m₂ h tk off hi hj ⟨hT, hl, hj4, hi4⟩ sub hC hNs hx ⟨u, hM⟩ hD F2 N2
    dsimp only
    k_steps
    · rename (_ : Int) ≠ _ => hne
      rename (∀ p ∈ ny, p.1 < _) => lt1
      have e : pr i j = [(i : Int), 0 + (j : Int)] := by simp [pr]
      refine ⟨_, _, _, rfl, by k_asm, by k_asm, fun p hp => .tail _ hp, ?_, by rw [List.length_append]; simp only [List.length_cons, List.length_nil]; omega, by omega, by omega⟩
      rw [pairsTo_hit (by omega)]
      exact hT.snoc (fun p hp => .tail _ hp) (.head _) (by rw [e]; exact .cons _ _ (.cons _ _ .nil)) lt1 hC hD sub
    · rename (_ : Int) = _ => he
      refine ⟨_, _, _, rfl, by k_asm, by k_asm, fun p hp => hp, ?_, by omega, by omega, by omega⟩
      rw [pairsTo_miss (by omega)]
      exact hT)

end Mine
end
section
open PySem PySem.W PyProof.Rows PyProof.Rows.LCg
namespace Mine
set_option maxRecDepth 100000
set_option maxHeartbeats 2000000
variable (w : World) (p : Program) (loose : List Str) (mean : ExcName → Option Value) (mg mb : Str → Option Value)
local macro_rules | `(tactic| k_mem) => `(tactic| first | assumption | exact List.Mem.head _ | (refine List.mem_cons_of_mem _ ?_; k_mem) | (refine mem_grow (by assumption) ?_; k_mem))
local macro_rules | `(tactic| ktd_sub) => `(tactic| first | assumption | exact fun _ h => h | (refine sub_cons ?_; ktd_sub) | (refine sub_grow (by assumption) ?_; ktd_sub))
local macro_rules | `(tactic| ktn_ord) => `(tactic| first | assumption | exact Grow.refl _ | (refine Grow.cons ?_ (by ktn_lt); ktn_ord) | (refine Grow.trans ?_ (by assumption); ktn_ord))
local macro_rules | `(tactic| ktr_rel) => `(tactic| first | assumption | exact TrIn.leaf (by k_mem) | exact TrIn.node (by k_mem) (by ktr_rel) (by ktr_rel) | exact TrIn.mono (by assumption) (by ktd_sub))
local macro_rules | `(tactic| walk_at "compareOp Eq ref ref") => `(tactic| (k_here; (with_reducible show wpAny _ _ (compareOp CmpOp.Eq (Value.ref _) (Value.ref _)) _ _ _); k_dflt (refine' eq_leaf ?k1 ?k2 ?k3 ?k4 ?k5 ?k6 ?_; (case k1 => k_asm); (case k2 => assumption); (case k3 => assumption); (case k4 => ktd_sub); (case k5 => k_mem); (case k6 => ktr_units); k_whole); (try dsimp only [Tr.isLeaf])))
local macro_rules | `(tactic| walk_at "subscriptTail") => `(tactic| (k_here; (with_reducible show wpAny _ _ (subscriptTail _ _ (Value.ref _) (Value.int ((Fin.val _ : Nat) : Int) _)) _ _ _); k_dflt (refine' str_item ?k1 ?k2 ?k3 ?_ ?k4 ?k5; (case k1 => k_asm); (case k2 => assumption); (case k3 => ktd_sub); (case k4 => with_unfolding_all rfl); (case k5 => (intro _; with_unfolding_all rfl)); k_whole); intro _))
local macro_rules | `(tactic| walk_at "subscriptTail") => `(tactic| (k_here; (with_reducible show wpAny _ _ (subscriptTail _ _ (Value.ref _) (Value.int ((Fin.val _ : Nat) : Int) _)) _ _ _); k_dflt (refine' num_item ?k1 ?k2 ?k3 ?_ ?k4 ?k5; (case k1 => k_asm); (case k2 => assumption); (case k3 => ktd_sub); (case k4 => with_unfolding_all rfl); (case k5 => (intro _; with_unfolding_all rfl)); k_whole); intro _))
local macro_rules | `(tactic| walk_at "exec For") => `(tactic| (k_here; refine wpAny_For ?forE (by intro _; rfl)))
local macro_rules | `(tactic| walk_at "exec For Name Name") => `(tactic| (k_here; refine wpAny_For ?forE (by intro _; rfl)))
local macro_rules | `(tactic| walk_at "exec For Name Call") => `(tactic| (k_here; refine wpAny_For ?forE (by intro _; rfl)))
local macro_rules | `(tactic| walk_at "exec For Tuple Call") => `(tactic| (k_here; refine wpAny_For ?forE (by intro _; rfl)))
local macro_rules | `(tactic| walk_at "exec For Name Name cons nil") => `(tactic| (k_here; refine wpAny_For ?forE (by intro _; rfl)))
local macro_rules | `(tactic| walk_at "exec For Name Call cons nil") => `(tactic| (k_here; refine wpAny_For ?forE (by intro _; rfl)))
local macro_rules | `(tactic| walk_at "exec For Tuple Call cons nil") => `(tactic| (k_here; refine wpAny_For ?forE (by intro _; rfl)))
local macro_rules | `(tactic| walk_at "exec For Name Subscript") => `(tactic| (k_here; refine wpAny_For ?forE (by intro _; rfl)))
local macro_rules | `(tactic| walk_at "exec For Name Subscript cons nil") => `(tactic| (k_here; refine wpAny_For ?forE (by intro _; rfl)))
local macro_rules | `(tactic| walk_at "exec Assign cons ListComp") => `(tactic| (k_here; k_dflt (refine' assignComp ?k1 ?k2 ?k3 ?k4 ?_ ?k5; (case k1 => with_unfolding_all rfl); (case k2 => rfl); (case k3 => rfl); (case k4 => decide); (case k5 => (intro _; rfl)))))
local macro_rules | `(tactic| walk_at "eval ListComp") => `(tactic| (k_here; k_dflt (refine' evalComp ?k2 ?k3 ?k4 ?_ ?k5; (case k2 => rfl); (case k3 => rfl); (case k4 => decide); (case k5 => (intro _; rfl)))))
local macro_rules | `(tactic| walk_at "binaryOp Mult ref int") => `(tactic| (k_here; (with_reducible show wpAny _ _ (binaryOp Operator.Mult (Value.ref _) (Value.int 16 _)) _ _ _); k_dflt (refine' mul16 ?k1 ?k2 ?k3 ?_; (case k1 => k_asm); (case k2 => k_asm); (case k3 => k_mem)); intro h6 D6 o6 F6 N6 l6 I6))
local macro_rules | `(tactic| walk_at "call ref") => `(tactic| (k_here; refine Held.out ?_))
set_option maxHeartbeats 0 in
theorem seg7 {base h₀ : Heap} {L fa : Addr} {fv : Value} {m : Str → Option Value} {s : Shared} {Q : Flow → Shared → Prop} {E : Value → Shared → Prop} {nx : Led} {pa : Addr} {ys : List Value}
    (B : Below callerA base [] h₀) (X : (KG w.params).In h₀) (T : Top p loose mean mg mb h₀) (F : Fr h₀ L s.heap (fun z => if z = Str.ofString "pairs" then some (.ref pa) else m z)) (N : News h₀ L s.heap nx)
    (hpa : (pa, lst ys) ∈ nx) (hP : ∃ nx₀ C D, TupsAt nx₀ C D ys (pairsTo 4 0) nx)
    (k : ∀ h tk oa ny, Fr h₀ L h (fun z => if z = Str.ofString "orders" then some (.ref oa) else if z = Str.ofString "pairs" then some (.ref pa) else m z) → News h₀ L h ny → OrdersAt ny oa ordersL → (∀ p ∈ nx, p ∈ ny ∧ p.1 ≠ oa) →
      wpAny (model PG w) (callerA.deeper (lawEnv L fa fv)) (execs (lawStmts.drop 8) (lawEnv L fa fv)) Q E { s with heap := h, toks := tk }) :
    wpAny (model PG w) (callerA.deeper (lawEnv L fa fv)) (execs (lawStmts.drop 7) (lawEnv L fa fv)) Q E s := by
  obtain ⟨nx₁, C₁, D₁, hPl, hP⟩ := hP
  rw [pairs_eq] at hPl hP
  have hlen : ys.length = 12 := by rw [hPl]; rfl
  have hys : ∀ (i : Nat) (v : Value), ys[i]? = some v → ∃ (a : Addr) (q : Nat × Nat) (t u : Tok) (n : Nat), v = Value.ref a ∧ pairsL[i]? = some q ∧ (a, tupO [.int (q.1 : Int) t, .int (q.2 : Int) u] n) ∈ nx := by
    intro i v hv
    obtain ⟨a, vs, n, t, e, ht, hm, hi, _⟩ := hP i v hv
    rw [List.getElem?_map] at ht
    cases hq : pairsL[i]? with
    | none => rw [hq] at ht; cases ht
    | some q =>
      rw [hq] at ht
      cases ht
      obtain ⟨t0, t1, rfl⟩ := ints2_inv hi
      exact ⟨a, q, t0, t1, n, e, rfl, hm⟩
  clear hP hPl
  unfold lawEnv
  conv in (occs := *) lawScope => all_goals whnf
  conv in List.drop _ _ => whnf
  walk_at "execs cons"
  k_dflt (refine' assignComp2 ?k1 ?k2 ?k3 ?k4 ?_ ?k5; (case k1 => with_unfolding_all rfl); (case k2 => rfl); (case k3 => rfl); (case k4 => decide); (case k5 => (intro _; rfl)))
  k_steps
  k_dflt (refine iter_list_start (by k_asm) (by k_asm) hpa ?_)
  intro I o h' F1 N1 hS hI
  k_dflt (refine' comp2_assign (n1 := 4) (nx₀ := nx) (iterS_list rfl) (List.Mem.head _) (fun i mm => ∃ q t u, pairsL[i]? = some q ∧ mm (Str.ofString "one") = some (.int (q.1 : Int) t) ∧ mm (Str.ofString "two") = some (.int (q.2 : Int) u)) ?hM (fun C D i j zs ny => TupsAt nx C D zs (ordersTo i j) ny ∧ zs.length ≤ 4 * i + j ∧ j ≤ 4 ∧ i ≤ 12) ?stable ?len ?hcell ?hkind ?hx ?hh ?hn1 ?hsmall ?hsize ?F ?N hS ?hnx ?start ?asg ?ev ?next ?turn ?hL ?hy ?hp ?fin ?hs; (case hcell => decide); (case hkind => rfl); (case hx => rfl); (case hh => rfl); (case hn1 => decide); (case hsmall => decide); (case hsize => decide); (case F => k_asm); (case N => k_asm); (case hL => rfl); (case hy => rfl); (case hp => rfl); (case hs => (intro _ _; rfl)))
  (case hM => exact fun i m₂ v ⟨q, t, u, h1, h2, h3⟩ => ⟨q, t, u, h1, h2, h3⟩)
  (case stable => exact fun C D i j ys nx ny ⟨h1, h2⟩ h => ⟨h1.stable h, h2⟩)
  (case len => intro C D i j ys nx ⟨_, h2, h3, h4⟩; omega)
  (case hnx => exact fun p hp => ⟨.tail _ hp, hI p hp⟩)
  (case start => exact fun C D ny => ⟨TupsAt.nil, Nat.le_refl _, by decide, by decide⟩)
  (case asg =>
    intro C i v ny oC m₂ h tk hi hv hCL hC hNs sub off F2 N2
    obtain ⟨a, q, t, u, n, rfl, hq, hm⟩ := hys i v hv
    exact asg_pair (s := { s with heap := _, toks := _ }) rfl rfl rfl rfl F2 N2 hC hNs (sub _ hm) (M := fun mm => ∃ q t u, pairsL[i]? = some q ∧ mm (Str.ofString "one") = some (.int (q.1 : Int) t) ∧ mm (Str.ofString "two") = some (.int (q.2 : Int) u)) ⟨q, t, u, hq, by dsimp only; rw [if_neg (by decide), if_pos rfl], by dsimp only; rw [if_pos rfl]⟩)
  (case next =>
    intro C D i ys nx hi ⟨h1, h2, h3, h4⟩
    exact ⟨by rw [← ordersTo_next i (by omega)]; exact h1, by omega, by omega, by omega⟩)
  (case fin =>
    intro C D ys h tk ny hCD off ⟨h1, _⟩ sub hD F2 N2
    rw [hlen] at h1
    exact k _ _ _ _ F2 N2 (orders_at h1 hD) fun p hp => ⟨sub p hp, (off p hp).2⟩)
  (case ev =>
    intro C ny h tk sub F2 N2
    dsimp only
    k_steps
    exact ⟨_, _, _, _, _, _, _, rfl, rfl, by k_asm, by k_asm, fun p h => h, by assumption⟩)
  (case turn =>
    intro C D i j t ys ny oC m₂ h tk off hi hj ⟨hT, hl, hj4, hi4⟩ sub hC hNs hx ⟨q, u1, u2, hq, hM1, hM2⟩ hD F2 N2
    dsimp only
    k_steps
    · rename (0 + (j : Int)) ≠ (q.1 : Int) => hne1
      rename (0 + (j : Int)) ≠ (q.2 : Int) => hne2
      rename (∀ p ∈ ny, p.1 < _) => lt1
      have e : od q j = [(q.1 : Int), (q.2 : Int), 0 + (j : Int), 6 - (q.1 : Int) - (q.2 : Int) - (0 + (j : Int))] := by simp [od]
      refine ⟨_, _, _, rfl, by k_asm, by k_asm, fun p hp => .tail _ hp, ?_, by rw [List.length_append]; simp only [List.length_cons, List.length_nil]; omega, by omega, by omega⟩
      rw [ordersTo_hit hq (by omega) (by omega)]
      exact hT.snoc (fun p hp => .tail _ hp) (.head _) (by rw [e]; exact .cons _ _ (.cons _ _ (.cons _ _ (.cons _ _ .nil)))) lt1 hC hD sub
    · rename (0 + (j : Int)) = (q.2 : Int) => he
      refine ⟨_, _, _, rfl, by k_asm, by k_asm, fun p hp => hp, ?_, by omega, by omega, by omega⟩
      rw [ordersTo_miss hq (by omega)]
      exact hT
    · rename (0 + (j : Int)) = (q.1 : Int) => he
      refine ⟨_, _, _, rfl, by k_asm, by k_asm, fun p hp => hp, ?_, by omega, by omega, by omega⟩
      rw [ordersTo_miss hq (by omega)]
      exact hT)

end Mine
end
section
open PySem PySem.W PyProof.Rows PyProof.Rows.LCg
namespace Mine
set_option maxRecDepth 100000
set_option maxHeartbeats 2000000
variable (w : World) (p : Program) (loose : List Str) (mean : ExcName → Option Value) (mg mb : Str → Option Value)
local macro_rules | `(tactic| k_mem) => `(tactic| first | assumption | exact List.Mem.head _ | (refine List.mem_cons_of_mem _ ?_; k_mem) | (refine mem_grow (by assumption) ?_; k_mem))
local macro_rules | `(tactic| ktd_sub) => `(tactic| first | assumption | exact fun _ h => h | (refine sub_cons ?_; ktd_sub) | (refine sub_grow (by assumption) ?_; ktd_sub))
local macro_rules | `(tactic| ktn_ord) => `(tactic| first | assumption | exact Grow.refl _ | (refine Grow.cons ?_ (by ktn_lt); ktn_ord) | (refine Grow.trans ?_ (by assumption); ktn_ord))
local macro_rules | `(tactic| ktr_rel) => `(tactic| first | assumption | exact TrIn.leaf (by k_mem) | exact TrIn.node (by k_mem) (by ktr_rel) (by ktr_rel) | exact TrIn.mono (by assumption) (by ktd_sub))
local macro_rules | `(tactic| walk_at "compareOp Eq ref ref") => `(tactic| (k_here; (with_reducible show wpAny _ _ (compareOp CmpOp.Eq (Value.ref _) (Value.ref _)) _ _ _); k_dflt (refine' eq_leaf ?k1 ?k2 ?k3 ?k4 ?k5 ?k6 ?_; (case k1 => k_asm); (case k2 => assumption); (case k3 => assumption); (case k4 => ktd_sub); (case k5 => k_mem); (case k6 => ktr_units); k_whole); (try dsimp only [Tr.isLeaf])))
local macro_rules | `(tactic| walk_at "subscriptTail") => `(tactic| (k_here; (with_reducible show wpAny _ _ (subscriptTail _ _ (Value.ref _) (Value.int ((Fin.val _ : Nat) : Int) _)) _ _ _); k_dflt (refine' str_item ?k1 ?k2 ?k3 ?_ ?k4 ?k5; (case k1 => k_asm); (case k2 => assumption); (case k3 => ktd_sub); (case k4 => with_unfolding_all rfl); (case k5 => (intro _; with_unfolding_all rfl)); k_whole); intro _))
local macro_rules | `(tactic| walk_at "subscriptTail") => `(tactic| (k_here; (with_reducible show wpAny _ _ (subscriptTail _ _ (Value.ref _) (Value.int ((Fin.val _ : Nat) : Int) _)) _ _ _); k_dflt (refine' num_item ?k1 ?k2 ?k3 ?_ ?k4 ?k5; (case k1 => k_asm); (case k2 => assumption); (case k3 => ktd_sub); (case k4 => with_unfolding_all rfl); (case k5 => (intro _; with_unfolding_all rfl)); k_whole); intro _))
local macro_rules | `(tactic| walk_at "exec For") => `(tactic| (k_here; refine wpAny_For ?forE (by intro _; rfl)))
local macro_rules | `(tactic| walk_at "exec For Name Name") => `(tactic| (k_here; refine wpAny_For ?forE (by intro _; rfl)))
local macro_rules | `(tactic| walk_at "exec For Name Call") => `(tactic| (k_here; refine wpAny_For ?forE (by intro _; rfl)))
local macro_rules | `(tactic| walk_at "exec For Tuple Call") => `(tactic| (k_here; refine wpAny_For ?forE (by intro _; rfl)))
local macro_rules | `(tactic| walk_at "exec For Name Name cons nil") => `(tactic| (k_here; refine wpAny_For ?forE (by intro _; rfl)))
local macro_rules | `(tactic| walk_at "exec For Name Call cons nil") => `(tactic| (k_here; refine wpAny_For ?forE (by intro _; rfl)))
local macro_rules | `(tactic| walk_at "exec For Tuple Call cons nil") => `(tactic| (k_here; refine wpAny_For ?forE (by intro _; rfl)))
local macro_rules | `(tactic| walk_at "exec For Name Subscript") => `(tactic| (k_here; refine wpAny_For ?forE (by intro _; rfl)))
local macro_rules | `(tactic| walk_at "exec For Name Subscript cons nil") => `(tactic| (k_here; refine wpAny_For ?forE (by intro _; rfl)))
local macro_rules | `(tactic| walk_at "exec Assign cons ListComp") => `(tactic| (k_here; k_dflt (refine' assignComp ?k1 ?k2 ?k3 ?k4 ?_ ?k5; (case k1 => with_unfolding_all rfl); (case k2 => rfl); (case k3 => rfl); (case k4 => decide); (case k5 => (intro _; rfl)))))
local macro_rules | `(tactic| walk_at "eval ListComp") => `(tactic| (k_here; k_dflt (refine' evalComp ?k2 ?k3 ?k4 ?_ ?k5; (case k2 => rfl); (case k3 => rfl); (case k4 => decide); (case k5 => (intro _; rfl)))))
local macro_rules | `(tactic| walk_at "binaryOp Mult ref int") => `(tactic| (k_here; (with_reducible show wpAny _ _ (binaryOp Operator.Mult (Value.ref _) (Value.int 16 _)) _ _ _); k_dflt (refine' mul16 ?k1 ?k2 ?k3 ?_; (case k1 => k_asm); (case k2 => k_asm); (case k3 => k_mem)); intro h6 D6 o6 F6 N6 l6 I6))
local macro_rules | `(tactic| walk_at "call ref") => `(tactic| (k_here; refine Held.out ?_))
local macro_rules | `(tactic| walk_at "execs cons") => `(tactic| (k_here; refine Held.out ?_))
set_option maxHeartbeats 0 in
theorem seg8 {base h₀ : Heap} {L fa : Addr} {fv : Value} {m : Str → Option Value} {s : Shared} {Q : Flow → Shared → Prop} {E : Value → Shared → Prop} {nx : Led} {pa oa la wa D : Addr} {d : List Int} {Lt : Fin 4 → Int} {W : Fin 4 → Str} {v₀ : Option Value}
    (B : Below callerA base [] h₀) (X : (KG w.params).In h₀) (T : Top p loose mean mg mb h₀) (F : Fr h₀ L s.heap (fun z => if z = Str.ofString "orders" then some (.ref oa) else if z = Str.ofString "pairs" then some (.ref pa) else if z = Str.ofString "lights" then some (.ref la) else if z = Str.ofString "words" then some (.ref wa) else m z)) (N : News h₀ L s.heap nx)
    (hO : OrdersAt nx oa ordersL) (hG : NumsAt nx la Lt) (hW : StrsAt nx wa W) (hI : IntsL nx D d) (hl : d.length = 6) (hcD : CellAt nx (L + 1) (some (.ref D))) (hcR : CellAt nx (L + 1 + 1 + 1) v₀)
    (ok : ∀ row ∈ ordersL, ∀ o ∈ ordersL, ∀ T K, okF (runH (gtF fun i => Lt (o i)) (ltF W) row T 4).1 0 = true ∧ (seenF (fun i => Lt (o i)) (runH (gtF fun i => Lt (o i)) (ltF W) row T 4).1 99999 0 K).1 = [0, 1, 2, 3])
    (k : ∀ h tk ka ta ra row kk ny, Fr h₀ L h (fun z => if z = Str.ofString "turned" then some (.ref ta) else if z = Str.ofString "kinds" then some (.ref ka) else if z = Str.ofString "orders" then some (.ref oa) else if z = Str.ofString "pairs" then some (.ref pa) else if z = Str.ofString "lights" then some (.ref la) else if z = Str.ofString "words" then some (.ref wa) else m z) → News h₀ L h ny → row ∈ ordersL → TupAt ny ra row → CellAt ny (L + 1 + 1 + 1) (some (.ref ra)) →
      Kinds ny ka kk (allF Lt W row ordersL).1 → IntsL ny ta (allF Lt W row ordersL).2 → (∀ p ∈ nx, (∀ vs, p.2.data ≠ .fields vs) → p.1 ≠ L + 1 + 1 + 1 → p ∈ ny) →
      wpAny (model PG w) (callerA.deeper (lawEnv L fa fv)) (execs (lawStmts.drop 10) (lawEnv L fa fv)) Q E { s with heap := h, toks := tk }) :
    wpAny (model PG w) (callerA.deeper (lawEnv L fa fv)) (execs (lawStmts.drop 8) (lawEnv L fa fv)) Q E s := by
  obtain ⟨od, hodm, hod⟩ := hcD
  unfold lawEnv
  conv in (occs := *) lawScope => all_goals whnf
  conv in List.drop _ _ => whnf
  have hk0 : 0 ≤ Int.fmod (d.getD (Int.toNat 4) 0) 24 := Int.fmod_nonneg_of_pos _ (by decide)
  have hk1 : Int.fmod (d.getD (Int.toNat 4) 0) 24 < (ordersL.length : Int) := by
    rw [ordersL_len]
    exact Int.fmod_lt_of_pos _ (by decide)
  have hk2 : Int.fmod (d.getD (Int.toNat 4) 0) 24 < 2 ^ 63 := by
    have : Int.fmod (d.getD (Int.toNat 4) 0) 24 < 24 := Int.fmod_lt_of_pos _ (by decide)
    omega
  refine wpAny_execs_cons ?_
  (try dsimp only)
  k_steps
  k_dflt (refine' intsL_sub ?g1 hI ?g2 (by omega) (by omega) (by omega) ?_ ?g3; (case g1 => k_asm); (case g2 => exact fun _ h => h); (case g3 => with_unfolding_all rfl))
  intro t1
  k_steps
  k_dflt (refine' orders_sub ?o1 hO hk0 hk1 hk2 ?_ ?o3 ?o4; (case o1 => k_asm); (case o3 => with_unfolding_all rfl); (case o4 => (intro _; with_unfolding_all rfl)))
  intro ra row hrow hrm
  k_dflt (refine' store_cell ?c1 ?c2 ?c3 hcR ?_ ?c4 ?c5; (case c1 => k_asm); (case c2 => k_asm); (case c3 => rfl); (case c4 => rfl); (case c5 => rfl))
  intro h2 n2 F2 N2 hc2 S2
  obtain ⟨orr, horm, hor⟩ := id hc2
  clear hk0 hk1 hk2 hl hod
  replace ok := Hid.mk ok
  replace k := Hid.mk k
  refine wpAny_execs_cons ?_
  (try dsimp only)
  k_steps
  (try unfold Held)
  have sq : SeqSub nx (noF n2) := (SeqSub.set N hcR S2).trans .noF
  have okr := fun o ho T K => ok.out row hrow o ho T K
  k_dflt (refine' Fun.use ?sk1 ?sk2 ?sk3 ?sk4 ?sk5 ?sk6 (all_fun w p loose mean mg mb oa ra la wa Lt W ordersL (noF n2) row (noF_nf n2) (hG.seq sq) (hW.seq sq) (hrm.seq sq) (hO.seq sq) okr) ?skd ?sku ?_; (case sk1 => k_asm); (case sk2 => k_asm); (case sk3 => k_asm); (case sk4 => exact News.of N2 noF_sub); (case sk5 => k_asm); (case sk6 => first | exact rfl | assumption); (case skd => ktr_room); (case sku => ktr_units))
  intro r9 nx9 h9 tk9 F9 N9 P9
  obtain ⟨r0, ka, ta, n9, kk, rfl, hr0, hK9, hI9, sub9⟩ := P9.out
  dsimp only
  clear F N F2 N2 horm hor orr okr ok
  k_steps
  unfold Held
  exact k.out _ _ _ _ _ _ _ _ (by k_asm) (by k_asm) hrow ((hrm.seq sq).mono sub9) ((cell_noF hc2).mono sub9) hK9 hI9 (fun q hq hf hne => sub9 _ (noF_mem (S2 _ hq hne) hf))

end Mine
end
section
open PySem PySem.W PyProof.Rows PyProof.Rows.LCg
namespace Mine
set_option maxRecDepth 100000
set_option maxHeartbeats 2000000
variable (w : World) (p : Program) (loose : List Str) (mean : ExcName → Option Value) (mg mb : Str → Option Value)
local macro_rules | `(tactic| k_mem) => `(tactic| first | assumption | exact List.Mem.head _ | (refine List.mem_cons_of_mem _ ?_; k_mem) | (refine mem_grow (by assumption) ?_; k_mem))
local macro_rules | `(tactic| ktd_sub) => `(tactic| first | assumption | exact fun _ h => h | (refine sub_cons ?_; ktd_sub) | (refine sub_grow (by assumption) ?_; ktd_sub))
local macro_rules | `(tactic| ktn_ord) => `(tactic| first | assumption | exact Grow.refl _ | (refine Grow.cons ?_ (by ktn_lt); ktn_ord) | (refine Grow.trans ?_ (by assumption); ktn_ord))
local macro_rules | `(tactic| ktr_rel) => `(tactic| first | assumption | exact TrIn.leaf (by k_mem) | exact TrIn.node (by k_mem) (by ktr_rel) (by ktr_rel) | exact TrIn.mono (by assumption) (by ktd_sub))
local macro_rules | `(tactic| walk_at "compareOp Eq ref ref") => `(tactic| (k_here; (with_reducible show wpAny _ _ (compareOp CmpOp.Eq (Value.ref _) (Value.ref _)) _ _ _); k_dflt (refine' eq_leaf ?k1 ?k2 ?k3 ?k4 ?k5 ?k6 ?_; (case k1 => k_asm); (case k2 => assumption); (case k3 => assumption); (case k4 => ktd_sub); (case k5 => k_mem); (case k6 => ktr_units); k_whole); (try dsimp only [Tr.isLeaf])))
local macro_rules | `(tactic| walk_at "subscriptTail") => `(tactic| (k_here; (with_reducible show wpAny _ _ (subscriptTail _ _ (Value.ref _) (Value.int ((Fin.val _ : Nat) : Int) _)) _ _ _); k_dflt (refine' str_item ?k1 ?k2 ?k3 ?_ ?k4 ?k5; (case k1 => k_asm); (case k2 => assumption); (case k3 => ktd_sub); (case k4 => with_unfolding_all rfl); (case k5 => (intro _; with_unfolding_all rfl)); k_whole); intro _))
local macro_rules | `(tactic| walk_at "subscriptTail") => `(tactic| (k_here; (with_reducible show wpAny _ _ (subscriptTail _ _ (Value.ref _) (Value.int ((Fin.val _ : Nat) : Int) _)) _ _ _); k_dflt (refine' num_item ?k1 ?k2 ?k3 ?_ ?k4 ?k5; (case k1 => k_asm); (case k2 => assumption); (case k3 => ktd_sub); (case k4 => with_unfolding_all rfl); (case k5 => (intro _; with_unfolding_all rfl)); k_whole); intro _))
local macro_rules | `(tactic| walk_at "exec For") => `(tactic| (k_here; refine wpAny_For ?forE (by intro _; rfl)))
local macro_rules | `(tactic| walk_at "exec For Name Name") => `(tactic| (k_here; refine wpAny_For ?forE (by intro _; rfl)))
local macro_rules | `(tactic| walk_at "exec For Name Call") => `(tactic| (k_here; refine wpAny_For ?forE (by intro _; rfl)))
local macro_rules | `(tactic| walk_at "exec For Tuple Call") => `(tactic| (k_here; refine wpAny_For ?forE (by intro _; rfl)))
local macro_rules | `(tactic| walk_at "exec For Name Name cons nil") => `(tactic| (k_here; refine wpAny_For ?forE (by intro _; rfl)))
local macro_rules | `(tactic| walk_at "exec For Name Call cons nil") => `(tactic| (k_here; refine wpAny_For ?forE (by intro _; rfl)))
local macro_rules | `(tactic| walk_at "exec For Tuple Call cons nil") => `(tactic| (k_here; refine wpAny_For ?forE (by intro _; rfl)))
local macro_rules | `(tactic| walk_at "exec For Name Subscript") => `(tactic| (k_here; refine wpAny_For ?forE (by intro _; rfl)))
local macro_rules | `(tactic| walk_at "exec For Name Subscript cons nil") => `(tactic| (k_here; refine wpAny_For ?forE (by intro _; rfl)))
local macro_rules | `(tactic| walk_at "exec Assign cons ListComp") => `(tactic| (k_here; k_dflt (refine' assignComp ?k1 ?k2 ?k3 ?k4 ?_ ?k5; (case k1 => with_unfolding_all rfl); (case k2 => rfl); (case k3 => rfl); (case k4 => decide); (case k5 => (intro _; rfl)))))
local macro_rules | `(tactic| walk_at "eval ListComp") => `(tactic| (k_here; k_dflt (refine' evalComp ?k2 ?k3 ?k4 ?_ ?k5; (case k2 => rfl); (case k3 => rfl); (case k4 => decide); (case k5 => (intro _; rfl)))))
local macro_rules | `(tactic| walk_at "binaryOp Mult ref int") => `(tactic| (k_here; (with_reducible show wpAny _ _ (binaryOp Operator.Mult (Value.ref _) (Value.int 16 _)) _ _ _); k_dflt (refine' mul16 ?k1 ?k2 ?k3 ?_; (case k1 => k_asm); (case k2 => k_asm); (case k3 => k_mem)); intro h6 D6 o6 F6 N6 l6 I6))
local macro_rules | `(tactic| walk_at "call ref") => `(tactic| (k_here; refine Held.out ?_))
local macro_rules | `(tactic| walk_at "execs cons") => `(tactic| (k_here; refine Held.out ?_))
set_option maxHeartbeats 0 in
theorem seg10 {base h₀ : Heap} {L fa : Addr} {fv : Value} {m : Str → Option Value} {s : Shared} {Q : Flow → Shared → Prop} {E : Value → Shared → Prop} {nx bs : Led} {ta ra : Addr} {row : Fin 4 → Fin 4} {TT : List Int} {v4 : Option Value}
    (B : Below callerA base [] h₀) (X : (KG w.params).In h₀) (T : Top p loose mean mg mb h₀) (F : Fr h₀ L s.heap (fun z => if z = Str.ofString "turned" then some (.ref ta) else m z)) (N : News h₀ L s.heap nx)
    (hbs : ∀ p ∈ bs, p ∈ nx) (hnf : NoFields bs) (hoff : ∀ p ∈ bs, p.1 ≠ L + 1 + 1 + 1 + 1) (hrow : TupAt bs ra row) (hcR : CellAt bs (L + 1 + 1 + 1) (some (.ref ra))) (hT : IntsL bs ta TT) (hTl : TT.length = 4) (hc4 : CellAt nx (L + 1 + 1 + 1 + 1) v4)
    (ok : ∀ (i : Nat) (hi : i < 4), (TT.drop i).take 1 = [48 - Int.fdiv 24 ((cntF row ⟨i, hi⟩ (i + 1) : Nat) : Int) - Int.fdiv 24 ((i : Int) + 2 - ((cntF row ⟨i, hi⟩ (i + 1) : Nat) : Int))])
    (k : ∀ h tk (u : Str → Option Value) ny v4, Fr h₀ L h (fun z => if [Str.ofString "rank"].contains z then u z else if z = Str.ofString "turned" then some (.ref ta) else m z) → News h₀ L h ny → (∀ p ∈ bs, p ∈ ny) → CellAt ny (L + 1 + 1 + 1 + 1) v4 →
      wpAny (model PG w) (callerA.deeper (lawEnv L fa fv)) (execs (lawStmts.drop 11) (lawEnv L fa fv)) Q E { s with heap := h, toks := tk }) :
    wpAny (model PG w) (callerA.deeper (lawEnv L fa fv)) (execs (lawStmts.drop 10) (lawEnv L fa fv)) Q E s := by
  replace k := Hid.mk k
  unfold lawEnv
  conv in (occs := *) lawScope => all_goals whnf
  conv in List.drop _ _ => whnf
  refine wpAny_execs_cons ?_
  (try dsimp only)
  refine wpAny_For ?forX (by intro _; rfl)
  k_steps
  rename IsRange _ _ _ _ _ _ _ _ => hr
  rename News _ _ _ nx => N4
  k_dflt (refine' for_rangeT (n := 4) [Str.ofString "rank"] (fun i nx => (∀ p ∈ bs, p ∈ nx) ∧ ∃ v, CellAt nx (L + 1 + 1 + 1 + 1) v) ?rhh ?rF N4 hr ?rs ?rn ?rI ?rstab ?rturn ?rdone; (case rhh => rfl); (case rF => k_asm); (case rs => decide); (case rn => decide))
  (case rI => exact ⟨hbs, _, hc4⟩)
  (case rstab => exact fun i nx ny ⟨h1, v, h2⟩ k => ⟨hnf.keep h1 k, v, h2.keep k⟩)
  (case rdone =>
    intro u n5 h5 tk5 ⟨J1, v, J2⟩ F5 N5
    k_steps
    exact k.out _ _ u _ _ F5 N5 J1 J2)
  (case rturn =>
    intro I i t5 u n5 h5 tk5 hi hS ⟨J1, v, J2⟩ F5 N5
    dsimp only
    walk_at "assign Name"
    k_dflt (refine' store_cell ?c1 ?c2 ?c3 J2 ?_ ?c4 ?c5; (case c1 => k_asm); (case c2 => k_asm); (case c3 => rfl); (case c4 => rfl); (case c5 => rfl))
    intro h6 n6 F6 N6 hc6 S6
    obtain ⟨o6, ho6, hd6⟩ := hc6
    have hR6 : TupAt n6 ra row := hrow.mono fun p hp => S6 p (J1 p hp) (hoff p hp)
    obtain ⟨oR, hoR, hdR⟩ : CellAt n6 (L + 1 + 1 + 1) (some (.ref ra)) := hcR.mono fun p hp => S6 p (J1 p hp) (hoff p hp)
    refine wpAny_execs_cons ?_
    (try dsimp only)
    have hS6 : SIRange I 0 4 (i + 1) n6 := set_cell_other N5 J2 S6 hS (fun v q => nomatch q)
    clear F5 N5 N4
    obtain ⟨t0, t1, t2, t3, n7, hm7⟩ := id hR6
    k_steps
    k_dflt (refine' slice_upto (b := i + 1) ?a1 ?a2 hm7 ?a3 ?a4 ?a5 ?_ ?a6 ?a7; (case a1 => k_asm); (case a2 => k_asm); (case a3 => (push_cast; omega)); (case a4 => (simp only [List.length_cons, List.length_nil]; omega)); (case a5 => (simp only [List.length_cons, List.length_nil]; omega)); (case a6 => with_unfolding_all rfl); (case a7 => (intro _; with_unfolding_all rfl)))
    intro c h8 n8 n8' F8 N8 sub8 hc8
    dsimp only
    k_steps
    k_dflt (refine' comp_tup_none (fun C D j ys nx => ys.length = cntF row ⟨i, hi⟩ j) ?qhcell ?qhsz ?qhkind ?qhx ?qhh ?qst ?qF ?qN hc8 ?qstart ?qturn ?qfin; (case qhcell => decide); (case qhkind => rfl); (case qhx => rfl); (case qhh => rfl); (case qF => k_asm); (case qN => k_asm); (case qhsz => (rw [sizeLine_eq, List.length_take]; simp only [List.length_cons, List.length_nil]; omega)))
    (case qst => exact fun C D j ys nx ny h _ => h)
    (case qstart => exact fun C D ny _ _ => rfl)
    (case qfin =>
      intro C D ys h9 tk9 n9 hCD off9 hy9 sub9 hD9 F9 N9
      rw [tup4_takelen (by omega)] at hy9
      have ho9 := sub9 _ (sub8 _ ho6)
      have hT9 : IntsL n9 ta TT := hT.mono fun p hp => sub9 _ (sub8 _ (S6 p (J1 p hp) (hoff p hp)))
      have hS9 : SIRange I 0 4 (i + 1) n9 := sub9 _ (sub8 _ hS6)
      have hb9 : ∀ p ∈ bs, p ∈ n9 := fun p hp => sub9 _ (sub8 _ (S6 p (J1 p hp) (hoff p hp)))
      have hr1 : 1 ≤ cntF row ⟨i, hi⟩ (i + 1) := cntF_pos row ⟨i, hi⟩
      have hr2 : cntF row ⟨i, hi⟩ (i + 1) ≤ i + 1 := cntF_le _ _ _
      obtain ⟨tvs, tn, htm, hti⟩ := id hT9
      have hok := ok i hi
      generalize hrk : cntF row ⟨i, hi⟩ (i + 1) = rk at hy9 hr1 hr2 hok
      have hokk : Hid ((TT.drop (0 + (i : Int)).toNat).take (min (0 + (i : Int) + 1).toNat TT.length - (0 + (i : Int)).toNat) = [48 - Int.fdiv 24 (rk : Int) - Int.fdiv 24 (0 + (i : Int) + 2 - (rk : Int))]) := by
        show _ = _
        rw [show (0 + (i : Int)).toNat = i by omega, show (0 + (i : Int) + 1).toNat = i + 1 by omega, hTl, show min (i + 1) 4 - i = 1 by omega, hok, Int.zero_add]
      clear hok
      clear F8 N8 hc8 hm7 ho6 hoR F6 N6 hR6
      dsimp only
      k_steps
      have hD9' : (D, listOf ys.toArray ys.length) ∈ n9 := hD9
      have hDl := PySem.IsL.isList (n := ys.length) (N9 _ hD9').1
      k_dflt (refine' PySem.Calls.call_len_list (items := ys.toArray) ?l1 ?l2 ?_; (case l1 => exact hDl); (case l2 => (rw [List.size_toArray]; omega)))
      rw [List.size_toArray, hy9]
      dsimp only
      k_steps
      unfold Held
      refine wpAny_execs_cons ?_
      (try dsimp only)
      k_steps
      · refine ⟨_, _, _, _, rfl, by k_asm, by k_asm, .tail _ (.tail _ hS9), ⟨?tm, fun p hp => .tail _ (.tail _ (hb9 p hp)), _, o6, .tail _ (.tail _ ho9), hd6⟩⟩
        (case tm => repeat (first | exact Tmp.mid | refine Tmp.step ?_ (by decide +kernel)))
      all_goals (rename ¬ (_ : List Int) = _ => hbad; exact absurd hokk.out hbad))
    (case qturn =>
      intro C D j v ys n9 oC m₂ h9 tk9 off9 hj hyl hI9 sub9 hC9 hNs9 hx9 hD9 F9 N9
      dsimp only
      obtain ⟨hji, hj4, t9, rfl⟩ := tup4_take hj
      have ho9 := sub9 _ (sub8 _ ho6)
      have hoR9 := sub9 _ (sub8 _ hoR)
      have hR9 : TupAt n9 ra row := hR6.mono fun p hp => sub9 _ (sub8 _ hp)
      clear F8 N8 hc8 hm7 ho6 hoR F6 N6 hR6
      k_steps
      k_dflt (refine' tup4_sub (i := ⟨i, hi⟩) ?b1 hR9 ?b2 ?_ ?b3 ?b4; (case b1 => k_asm); (case b2 => simp); (case b3 => with_unfolding_all rfl); (case b4 => (intro _; with_unfolding_all rfl)))
      intro t10
      k_steps
      · rename ((row ⟨j, hj4⟩).val : Int) ≤ ((row ⟨i, hi⟩).val : Int) => hle
        refine ⟨_, _, _, rfl, by k_asm, by k_asm, fun p hp => hp, ?_⟩
        rw [List.length_append, hI9]
        exact (cntF_hit (i := ⟨i, hi⟩) (j := ⟨j, hj4⟩) (by omega)).symm
      · rename ¬ ((row ⟨j, hj4⟩).val : Int) ≤ ((row ⟨i, hi⟩).val : Int) => hle
        refine ⟨_, _, _, rfl, by k_asm, by k_asm, fun p hp => hp, ?_⟩
        rw [hI9]
        exact (cntF_miss (i := ⟨i, hi⟩) (j := ⟨j, hj4⟩) (by omega)).symm))

end Mine
end
section
open PySem PySem.W PyProof.Rows PyProof.Rows.LCg
namespace Mine
set_option maxRecDepth 100000
set_option maxHeartbeats 2000000
variable (w : World) (p : Program) (loose : List Str) (mean : ExcName → Option Value) (mg mb : Str → Option Value)
local macro_rules | `(tactic| k_mem) => `(tactic| first | assumption | exact List.Mem.head _ | (refine List.mem_cons_of_mem _ ?_; k_mem) | (refine mem_grow (by assumption) ?_; k_mem))
local macro_rules | `(tactic| ktd_sub) => `(tactic| first | assumption | exact fun _ h => h | (refine sub_cons ?_; ktd_sub) | (refine sub_grow (by assumption) ?_; ktd_sub))
local macro_rules | `(tactic| ktn_ord) => `(tactic| first | assumption | exact Grow.refl _ | (refine Grow.cons ?_ (by ktn_lt); ktn_ord) | (refine Grow.trans ?_ (by assumption); ktn_ord))
local macro_rules | `(tactic| ktr_rel) => `(tactic| first | assumption | exact TrIn.leaf (by k_mem) | exact TrIn.node (by k_mem) (by ktr_rel) (by ktr_rel) | exact TrIn.mono (by assumption) (by ktd_sub))
local macro_rules | `(tactic| walk_at "compareOp Eq ref ref") => `(tactic| (k_here; (with_reducible show wpAny _ _ (compareOp CmpOp.Eq (Value.ref _) (Value.ref _)) _ _ _); k_dflt (refine' eq_leaf ?k1 ?k2 ?k3 ?k4 ?k5 ?k6 ?_; (case k1 => k_asm); (case k2 => assumption); (case k3 => assumption); (case k4 => ktd_sub); (case k5 => k_mem); (case k6 => ktr_units); k_whole); (try dsimp only [Tr.isLeaf])))
local macro_rules | `(tactic| walk_at "subscriptTail") => `(tactic| (k_here; (with_reducible show wpAny _ _ (subscriptTail _ _ (Value.ref _) (Value.int ((Fin.val _ : Nat) : Int) _)) _ _ _); k_dflt (refine' str_item ?k1 ?k2 ?k3 ?_ ?k4 ?k5; (case k1 => k_asm); (case k2 => assumption); (case k3 => ktd_sub); (case k4 => with_unfolding_all rfl); (case k5 => (intro _; with_unfolding_all rfl)); k_whole); intro _))
local macro_rules | `(tactic| walk_at "subscriptTail") => `(tactic| (k_here; (with_reducible show wpAny _ _ (subscriptTail _ _ (Value.ref _) (Value.int ((Fin.val _ : Nat) : Int) _)) _ _ _); k_dflt (refine' num_item ?k1 ?k2 ?k3 ?_ ?k4 ?k5; (case k1 => k_asm); (case k2 => assumption); (case k3 => ktd_sub); (case k4 => with_unfolding_all rfl); (case k5 => (intro _; with_unfolding_all rfl)); k_whole); intro _))
local macro_rules | `(tactic| walk_at "exec For") => `(tactic| (k_here; refine wpAny_For ?forE (by intro _; rfl)))
local macro_rules | `(tactic| walk_at "exec For Name Name") => `(tactic| (k_here; refine wpAny_For ?forE (by intro _; rfl)))
local macro_rules | `(tactic| walk_at "exec For Name Call") => `(tactic| (k_here; refine wpAny_For ?forE (by intro _; rfl)))
local macro_rules | `(tactic| walk_at "exec For Tuple Call") => `(tactic| (k_here; refine wpAny_For ?forE (by intro _; rfl)))
local macro_rules | `(tactic| walk_at "exec For Name Name cons nil") => `(tactic| (k_here; refine wpAny_For ?forE (by intro _; rfl)))
local macro_rules | `(tactic| walk_at "exec For Name Call cons nil") => `(tactic| (k_here; refine wpAny_For ?forE (by intro _; rfl)))
local macro_rules | `(tactic| walk_at "exec For Tuple Call cons nil") => `(tactic| (k_here; refine wpAny_For ?forE (by intro _; rfl)))
local macro_rules | `(tactic| walk_at "exec For Name Subscript") => `(tactic| (k_here; refine wpAny_For ?forE (by intro _; rfl)))
local macro_rules | `(tactic| walk_at "exec For Name Subscript cons nil") => `(tactic| (k_here; refine wpAny_For ?forE (by intro _; rfl)))
local macro_rules | `(tactic| walk_at "exec Assign cons ListComp") => `(tactic| (k_here; k_dflt (refine' assignComp ?k1 ?k2 ?k3 ?k4 ?_ ?k5; (case k1 => with_unfolding_all rfl); (case k2 => rfl); (case k3 => rfl); (case k4 => decide); (case k5 => (intro _; rfl)))))
local macro_rules | `(tactic| walk_at "eval ListComp") => `(tactic| (k_here; k_dflt (refine' evalComp ?k2 ?k3 ?k4 ?_ ?k5; (case k2 => rfl); (case k3 => rfl); (case k4 => decide); (case k5 => (intro _; rfl)))))
local macro_rules | `(tactic| walk_at "binaryOp Mult ref int") => `(tactic| (k_here; (with_reducible show wpAny _ _ (binaryOp Operator.Mult (Value.ref _) (Value.int 16 _)) _ _ _); k_dflt (refine' mul16 ?k1 ?k2 ?k3 ?_; (case k1 => k_asm); (case k2 => k_asm); (case k3 => k_mem)); intro h6 D6 o6 F6 N6 l6 I6))
local macro_rules | `(tactic| walk_at "call ref") => `(tactic| (k_here; refine Held.out ?_))
local macro_rules | `(tactic| walk_at "execs cons") => `(tactic| (k_here; refine Held.out ?_))
noncomputable def txtS (sn i : Nat) : Str := txtF ((1 + (i : Int)) * 2 ^ (Int.toNat (sn : Int)))
noncomputable def okT (sn : Nat) : Prop := ∀ i : Nat, i < 15 → (1 + (i : Int)) * 2 ^ (Int.toNat (sn : Int)) ≠ 0 ∧ (pfRun ((1 + (i : Int)) * 2 ^ (Int.toNat (sn : Int))) 13).1 = 0 ∧ ((pfRun ((1 + (i : Int)) * 2 ^ (Int.toNat (sn : Int))) 13).2.map (·.length)).sum + (pfRun ((1 + (i : Int)) * 2 ^ (Int.toNat (sn : Int))) 13).2.length ≤ 1048576
set_option maxHeartbeats 0 in
theorem seg11 {base h₀ : Heap} {L fa : Addr} {fv : Value} {m : Str → Option Value} {s : Shared} {Q : Flow → Shared → Prop} {E : Value → Shared → Prop} {nx : Led} {D : Addr} {d : List Int} {v5 : Option Value}
    (B : Below callerA base [] h₀) (X : (KG w.params).In h₀) (T : Top p loose mean mg mb h₀) (F : Fr h₀ L s.heap m) (N : News h₀ L s.heap nx)
    (hI : IntsL nx D d) (hl : d.length = 6) (hcD : CellAt nx (L + 1) (some (.ref D))) (hc5 : CellAt nx (L + 1 + 1 + 1 + 1 + 1) v5)
    (ok : ∀ sn, sn < 10 → okT sn)
    (k : ∀ h tk sn t xa xys ny, sn < 10 → Fr h₀ L h (fun z => if z = Str.ofString "texts" then some (.ref xa) else m z) → News h₀ L h ny → CellAt ny (L + 1 + 1 + 1 + 1 + 1) (some (.int ((sn : Nat) : Int) t)) → (xa, lst xys) ∈ ny → StrsAre xys ((List.range 15).map (txtS sn)) →
      (∀ p ∈ nx, p.1 ≠ L + 1 + 1 + 1 + 1 + 1 → p ∈ ny ∧ p.1 ≠ xa) →
      wpAny (model PG w) (callerA.deeper (lawEnv L fa fv)) (execs (lawStmts.drop 13) (lawEnv L fa fv)) Q E { s with heap := h, toks := tk }) :
    wpAny (model PG w) (callerA.deeper (lawEnv L fa fv)) (execs (lawStmts.drop 11) (lawEnv L fa fv)) Q E s := by
  obtain ⟨od, hodm, hod⟩ := hcD
  replace k := Hid.mk k
  replace ok := Hid.mk ok
  have hk0 : 0 ≤ Int.fmod (d.getD (Int.toNat 5) 0) 10 := Int.fmod_nonneg_of_pos _ (by decide)
  have hk1 : Int.fmod (d.getD (Int.toNat 5) 0) 10 < 10 := Int.fmod_lt_of_pos _ (by decide)
  unfold lawEnv
  conv in (occs := *) lawScope => all_goals whnf
  conv in List.drop _ _ => whnf
  refine wpAny_execs_cons ?_
  (try dsimp only)
  k_steps
  k_dflt (refine' intsL_sub ?g1 hI ?g2 (by omega) (by omega) (by omega) ?_ ?g3; (case g1 => k_asm); (case g2 => exact fun _ h => h); (case g3 => with_unfolding_all rfl))
  intro t1
  dsimp only
  k_steps
  obtain ⟨sn, hsn⟩ : ∃ sn : Nat, Int.fmod (d.getD (Int.toNat 5) 0) 10 = (sn : Int) := ⟨_, (Int.toNat_of_nonneg hk0).symm⟩
  rw [hsn] at hk1 ⊢
  have hs10 : sn < 10 := by omega
  k_dflt (refine' store_cell ?c1 ?c2 ?c3 hc5 ?_ ?c4 ?c5; (case c1 => k_asm); (case c2 => k_asm); (case c3 => rfl); (case c4 => rfl); (case c5 => rfl))
  intro h2 n2 F2 N2 hc2 S2
  obtain ⟨o5, ho5, hd5⟩ := id hc2
  clear F N hod hodm hk0 hsn
  dsimp only
  k_steps
  unfold Held
  refine wpAny_execs_cons ?_
  (try dsimp only)
  k_steps
  k_dflt (refine' comp_range_assign_pure (n := 15) (fun i y => ∃ t, y = .str (txtS sn i) t) ?whcell ?whsz ?whkind ?whx ?whh ?wF ?wN (by assumption) ?wsm ?wcnt ?wturn ?whL ?why ?whp ?wfin; (case whcell => decide); (case whsz => (rw [sizeLine_eq]; omega)); (case whkind => rfl); (case whx => rfl); (case whh => rfl); (case wF => k_asm); (case wN => k_asm); (case wsm => rfl); (case wcnt => rfl); (case whL => rfl); (case why => rfl); (case whp => rfl))
  (case wturn =>
    intro C i t ny oC m₂ h tk hi hC hNs hx F1 N1 sub
    have ho6 := sub _ ho5
    dsimp only
    k_steps
    (try unfold Held)
    obtain ⟨q1, q2, q3⟩ := ok.out sn hs10 i hi
    k_dflt (refine' Fun.use ?uk1 ?uk2 ?uk3 ?uk4 ?uk5 ?uk6 (flags_fun w p loose mean mg mb ny _ _ q1 q2 q3) ?ukd ?uku ?_; (case uk1 => k_asm); (case uk2 => k_asm); (case uk3 => k_asm); (case uk4 => k_asm); (case uk5 => k_asm); (case uk6 => first | exact rfl | assumption); (case ukd => ktr_room); (case uku => ktr_units))
    intro r8 nx8 h8 tk8 F8 N8 P8
    obtain ⟨⟨t8, rfl⟩, s8⟩ := P8
    (try dsimp only)
    exact ⟨_, _, _, rfl, by k_asm, by k_asm, s8, _, rfl⟩)
  intro xa xys h tk ny xl xY xm sub F8 N8
  dsimp only
  k_steps
  unfold Held
  have st := strsAre_of xY
  rw [xl] at st
  exact k.out _ _ sn _ _ _ _ hs10 (by k_asm) (by k_asm) (hc2.mono fun p hp => (sub p hp).1) xm st fun q hq hne => sub q (S2 q hq hne)

end Mine
end
section
open PySem PySem.W PyProof.Rows PyProof.Rows.LCg
namespace Mine
set_option maxRecDepth 100000
set_option maxHeartbeats 2000000
variable (w : World) (p : Program) (loose : List Str) (mean : ExcName → Option Value) (mg mb : Str → Option Value)
local macro_rules | `(tactic| k_mem) => `(tactic| first | assumption | exact List.Mem.head _ | (refine List.mem_cons_of_mem _ ?_; k_mem) | (refine mem_grow (by assumption) ?_; k_mem))
local macro_rules | `(tactic| ktd_sub) => `(tactic| first | assumption | exact fun _ h => h | (refine sub_cons ?_; ktd_sub) | (refine sub_grow (by assumption) ?_; ktd_sub))
local macro_rules | `(tactic| ktn_ord) => `(tactic| first | assumption | exact Grow.refl _ | (refine Grow.cons ?_ (by ktn_lt); ktn_ord) | (refine Grow.trans ?_ (by assumption); ktn_ord))
local macro_rules | `(tactic| ktr_rel) => `(tactic| first | assumption | exact TrIn.leaf (by k_mem) | exact TrIn.node (by k_mem) (by ktr_rel) (by ktr_rel) | exact TrIn.mono (by assumption) (by ktd_sub))
local macro_rules | `(tactic| walk_at "compareOp Eq ref ref") => `(tactic| (k_here; (with_reducible show wpAny _ _ (compareOp CmpOp.Eq (Value.ref _) (Value.ref _)) _ _ _); k_dflt (refine' eq_leaf ?k1 ?k2 ?k3 ?k4 ?k5 ?k6 ?_; (case k1 => k_asm); (case k2 => assumption); (case k3 => assumption); (case k4 => ktd_sub); (case k5 => k_mem); (case k6 => ktr_units); k_whole); (try dsimp only [Tr.isLeaf])))
local macro_rules | `(tactic| walk_at "subscriptTail") => `(tactic| (k_here; (with_reducible show wpAny _ _ (subscriptTail _ _ (Value.ref _) (Value.int ((Fin.val _ : Nat) : Int) _)) _ _ _); k_dflt (refine' str_item ?k1 ?k2 ?k3 ?_ ?k4 ?k5; (case k1 => k_asm); (case k2 => assumption); (case k3 => ktd_sub); (case k4 => with_unfolding_all rfl); (case k5 => (intro _; with_unfolding_all rfl)); k_whole); intro _))
local macro_rules | `(tactic| walk_at "subscriptTail") => `(tactic| (k_here; (with_reducible show wpAny _ _ (subscriptTail _ _ (Value.ref _) (Value.int ((Fin.val _ : Nat) : Int) _)) _ _ _); k_dflt (refine' num_item ?k1 ?k2 ?k3 ?_ ?k4 ?k5; (case k1 => k_asm); (case k2 => assumption); (case k3 => ktd_sub); (case k4 => with_unfolding_all rfl); (case k5 => (intro _; with_unfolding_all rfl)); k_whole); intro _))
local macro_rules | `(tactic| walk_at "exec For") => `(tactic| (k_here; refine wpAny_For ?forE (by intro _; rfl)))
local macro_rules | `(tactic| walk_at "exec For Name Name") => `(tactic| (k_here; refine wpAny_For ?forE (by intro _; rfl)))
local macro_rules | `(tactic| walk_at "exec For Name Call") => `(tactic| (k_here; refine wpAny_For ?forE (by intro _; rfl)))
local macro_rules | `(tactic| walk_at "exec For Tuple Call") => `(tactic| (k_here; refine wpAny_For ?forE (by intro _; rfl)))
local macro_rules | `(tactic| walk_at "exec For Name Name cons nil") => `(tactic| (k_here; refine wpAny_For ?forE (by intro _; rfl)))
local macro_rules | `(tactic| walk_at "exec For Name Call cons nil") => `(tactic| (k_here; refine wpAny_For ?forE (by intro _; rfl)))
local macro_rules | `(tactic| walk_at "exec For Tuple Call cons nil") => `(tactic| (k_here; refine wpAny_For ?forE (by intro _; rfl)))
local macro_rules | `(tactic| walk_at "exec For Name Subscript") => `(tactic| (k_here; refine wpAny_For ?forE (by intro _; rfl)))
local macro_rules | `(tactic| walk_at "exec For Name Subscript cons nil") => `(tactic| (k_here; refine wpAny_For ?forE (by intro _; rfl)))
local macro_rules | `(tactic| walk_at "exec Assign cons ListComp") => `(tactic| (k_here; k_dflt (refine' assignComp ?k1 ?k2 ?k3 ?k4 ?_ ?k5; (case k1 => with_unfolding_all rfl); (case k2 => rfl); (case k3 => rfl); (case k4 => decide); (case k5 => (intro _; rfl)))))
local macro_rules | `(tactic| walk_at "eval ListComp") => `(tactic| (k_here; k_dflt (refine' evalComp ?k2 ?k3 ?k4 ?_ ?k5; (case k2 => rfl); (case k3 => rfl); (case k4 => decide); (case k5 => (intro _; rfl)))))
local macro_rules | `(tactic| walk_at "binaryOp Mult ref int") => `(tactic| (k_here; (with_reducible show wpAny _ _ (binaryOp Operator.Mult (Value.ref _) (Value.int 16 _)) _ _ _); k_dflt (refine' mul16 ?k1 ?k2 ?k3 ?_; (case k1 => k_asm); (case k2 => k_asm); (case k3 => k_mem)); intro h6 D6 o6 F6 N6 l6 I6))
local macro_rules | `(tactic| walk_at "call ref") => `(tactic| (k_here; refine Held.out ?_))
local macro_rules | `(tactic| walk_at "execs cons") => `(tactic| (k_here; refine Held.out ?_))
noncomputable def FlagsAt (nx : Led) (a : Addr) : Prop := ∃ vs n, (a, tupO vs n) ∈ nx ∧ StrsAre vs ((List.range 13).map nmF)
theorem FlagsAt.mono {nx ny : Led} {a : Addr} (H : FlagsAt nx a) (h : ∀ p ∈ nx, p ∈ ny) : FlagsAt ny a := let ⟨vs, n, hm, hi⟩ := H; ⟨vs, n, h _ hm, hi⟩
theorem flags_sub {prog : Program} {w : World} {A : Around} {E : Value → Shared → Prop} {s : Shared} {h₀ : Heap} {L : Addr} {nx : Led} {value slice : Expr} {a : Addr} {j : Nat} {k : Int} {u : Tok} {Q : Value → Shared → Prop} (N : News h₀ L s.heap nx) (H : FlagsAt nx a) (hk : k = (j : Int)) (hj : j < 13)
    (h : ∀ t, Q (.str (nmF j) t) s)
    (hsub : subscripted slice false (.ref a) (.int k u) = operate [.ref a, .int k u] (getItem (.ref a) (.int k u)) := by with_unfolding_all rfl)
    (hg : ∀ r, letTemporaryGo value (.ref a) r = pure () := by intro _; with_unfolding_all rfl) :
    wpAny (model prog w) A (subscriptTail value slice (.ref a) (.int k u)) Q E s := by
  obtain ⟨vs, n, hm, hi⟩ := H
  have hl : vs.length = 13 := by rw [hi.length]; rfl
  obtain ⟨t, ht⟩ := hi.get j (nmF j) (by simp [hj])
  subst hk
  have hs : seqIndex? (j : Int) vs.length = some j := by
    unfold seqIndex?
    rw [hl]
    simp
    omega
  exact item_tupleL (j := j) ⟨_, (N _ hm).1, rfl, n, rfl⟩ (by omega) (by omega) hs ht (h t) hsub hg
/-- the names of the mask's bits below j -/
noncomputable def bitP (i p : Nat) : Bool := (i + 1) / 2 ^ p % 2 == 1
noncomputable def flP (sn i j : Nat) : List Str := ((List.range j).filter (bitP i)).map fun p => nmF (sn + p)
theorem flP_hit {sn i j : Nat} (h : bitP i j = true) : flP sn i (j + 1) = flP sn i j ++ [nmF (sn + j)] := by
  unfold flP
  rw [List.range_succ, List.filter_append, List.map_append]
  simp [h]
theorem flP_miss {sn i j : Nat} (h : bitP i j = false) : flP sn i (j + 1) = flP sn i j := by
  unfold flP
  rw [List.range_succ, List.filter_append, List.map_append]
  simp [h]
theorem bit_dec : ∀ i : Fin 15, ∀ j : Fin 4, (Spec.bitAnd (Int.fdiv (1 + (i.val : Int)) (2 ^ (Int.toNat (0 + (j.val : Int))))) 1 == 0) = !bitP i.val j.val := by decide +kernel
set_option maxHeartbeats 0 in
theorem seg13 {base h₀ : Heap} {L fa : Addr} {fv : Value} {m : Str → Option Value} {s : Shared} {Q : Flow → Shared → Prop} {E : Value → Shared → Prop} {nx bs : Led} {xa ft : Addr} {xys : List Value} {sn : Nat} {st : Tok} {v6 : Option Value}
    (B : Below callerA base [] h₀) (X : (KG w.params).In h₀) (T : Top p loose mean mg mb h₀) (F : Fr h₀ L s.heap (fun z => if z = Str.ofString "texts" then some (.ref xa) else m z)) (N : News h₀ L s.heap nx)
    (hbs : ∀ p ∈ bs, p ∈ nx) (hnf : NoFields bs) (hoff : ∀ p ∈ bs, p.1 ≠ L + 1 + 1 + 1 + 1 + 1 + 1) (hs10 : sn < 10) (hcS : CellAt bs (L + 1 + 1 + 1 + 1 + 1) (some (.int ((sn : Nat) : Int) st))) (hcF : CellAt bs (L + 1 + 1) (some (.ref ft))) (hF : FlagsAt bs ft)
    (hxm : (xa, lst xys) ∈ bs) (hx : StrsAre xys ((List.range 15).map (txtS sn))) (hc6 : CellAt nx (L + 1 + 1 + 1 + 1 + 1 + 1) v6)
    (ok : ∀ i, i < 15 → txtS sn i = Txt.join (Str.ofString ", ") (flP sn i 4) ∧ ((flP sn i 4).map (·.length)).sum + (flP sn i 4).length ≤ 1048576)
    (k : ∀ h tk ny v6, Fr h₀ L h (fun z => if z = Str.ofString "texts" then some (.ref xa) else m z) → News h₀ L h ny → (∀ p ∈ bs, p ∈ ny) → CellAt ny (L + 1 + 1 + 1 + 1 + 1 + 1) v6 →
      wpAny (model PG w) (callerA.deeper (lawEnv L fa fv)) (execs (lawStmts.drop 14) (lawEnv L fa fv)) Q E { s with heap := h, toks := tk }) :
    wpAny (model PG w) (callerA.deeper (lawEnv L fa fv)) (execs (lawStmts.drop 13) (lawEnv L fa fv)) Q E s := by
  replace k := Hid.mk k
  replace ok := Hid.mk ok
  unfold lawEnv
  conv in (occs := *) lawScope => all_goals whnf
  conv in List.drop _ _ => whnf
  refine wpAny_execs_cons ?_
  (try dsimp only)
  refine wpAny_For ?forX (by intro _; rfl)
  k_steps
  rename IsRange _ _ _ _ _ _ _ _ => hr
  rename News _ _ _ nx => N4
  k_dflt (refine' for_rangeT (n := 15) [] (fun i nx => (∀ p ∈ bs, p ∈ nx) ∧ ∃ v, CellAt nx (L + 1 + 1 + 1 + 1 + 1 + 1) v) ?rhh ?rF N4 hr ?rs ?rn ?rI ?rstab ?rturn ?rdone; (case rhh => rfl); (case rF => k_asm); (case rs => decide); (case rn => decide))
  (case rI => exact ⟨hbs, _, hc6⟩)
  (case rstab => exact fun i nx ny ⟨h1, v, h2⟩ k => ⟨hnf.keep h1 k, v, h2.keep k⟩)
  (case rdone =>
    intro u n5 h5 tk5 ⟨J1, v, J2⟩ F5 N5
    k_steps
    exact k.out _ _ _ _ F5 N5 J1 J2)
  (case rturn =>
    intro I i t5 u n5 h5 tk5 hi hS ⟨J1, v, J2⟩ F5 N5
    dsimp only
    walk_at "assign Name"
    k_dflt (refine' store_cell ?c1 ?c2 ?c3 J2 ?_ ?c4 ?c5; (case c1 => k_asm); (case c2 => k_asm); (case c3 => rfl); (case c4 => rfl); (case c5 => rfl))
    intro h6 n6 F6 N6 hc6 S6
    obtain ⟨o6, ho6, hd6⟩ := hc6
    have hb6 : ∀ p ∈ bs, p ∈ n6 := fun p hp => S6 p (J1 p hp) (hoff p hp)
    obtain ⟨oS, hoS, hdS⟩ := hcS.mono hb6
    obtain ⟨oF, hoF, hdF⟩ := hcF.mono hb6
    have hF6 := hF.mono hb6
    refine wpAny_execs_cons ?_
    (try dsimp only)
    have hS6 : SIRange I 1 15 (i + 1) n6 := set_cell_other N5 J2 S6 hS (fun v q => nomatch q)
    clear F5 N5 N4
    have hx6 : ((List.range 15).map (txtS sn))[((1 : Int) + (i : Int) - 1).toNat]? = some (txtS sn i) := by
      rw [show ((1 : Int) + (i : Int) - 1).toNat = i by omega]
      simp [hi]
    k_steps
    have hxm6 : (xa, listOf xys.toArray xys.length) ∈ n6 := hb6 _ hxm
    k_dflt (refine' strsL_sub ?q1 hxm6 hx ?q2 ?q3 hx6 ?q5 ?q6 ?q7; (case q1 => k_asm); (case q2 => omega); (case q3 => omega); (case q6 => with_unfolding_all rfl); (case q7 => (intro _; with_unfolding_all rfl)))
    intro t6
    dsimp only
    clear hx6
    k_steps
    rename IsRange _ _ _ 4 _ _ _ _ => hr4
    rename News _ _ _ n6 => N7
    k_dflt (refine' comp_range_none (n := 4) (fun C D j ys nx => StrsAre ys (flP sn i j) ∧ j ≤ 4) ?qhcell ?qhsz ?qhkind ?qhx ?qhh ?qst ?qF N7 hr4 ?qsm ?qcnt ?qstart ?qturn ?qfin; (case qhcell => decide); (case qhkind => rfl); (case qhx => rfl); (case qhh => rfl); (case qF => k_asm); (case qsm => rfl); (case qcnt => rfl); (case qhsz => (rw [sizeLine_eq]; omega)))
    (case qst => exact fun C D j ys nx ny h _ => h)
    (case qstart => exact fun C D ny _ _ => ⟨.nil, by decide⟩)
    (case qfin =>
      intro C D ys h9 tk9 n9 hCD off9 hy9 sub9 hD9 F9 N9
      dsimp only
      k_steps
      obtain ⟨ok1, ok2⟩ := ok.out i hi
      have hD9' : (D, listOf ys.toArray ys.length) ∈ n9 := hD9
      have hDl := PySem.IsL.isList (n := ys.length) (N9 _ hD9').1
      k_dflt (refine' join_listW ?jp1 ?jp2 ?jp3 ok2 ?_; (case jp1 => exact hDl); (case jp2 => exact hy9.1); (case jp3 => decide))
      intro t9 k9
      rw [ok1]
      have hS9 : SIRange I 1 15 (i + 1) n9 := sub9 _ hS6
      have ho9 := sub9 _ ho6
      have hb9 : ∀ p ∈ bs, p ∈ n9 := fun p hp => sub9 _ (hb6 p hp)
      clear ok1 ok2 hDl
      dsimp only
      k_steps
      · rename (_ != _) = true => hbad
        simp at hbad
      · refine ⟨_, _, _, _, rfl, by k_asm, by k_asm, hS9, ⟨?tm, hb9, _, o6, ho9, hd6⟩⟩
        (case tm => repeat (first | exact Tmp.mid | refine Tmp.step ?_ (by decide +kernel))))
    (case qturn =>
      intro C D j t ys n9 oC m₂ h9 tk9 off9 hj hyl hI9 sub9 hC9 hNs9 hx9 hD9 F9 N9
      have ho9 := sub9 _ ho6
      have hoS9 := sub9 _ hoS
      have hoF9 := sub9 _ hoF
      have hF9 := hF6.mono sub9
      dsimp only
      k_steps
      · rename Spec.bitAnd _ 1 ≠ 0 => hbit
        replace hbit : Spec.bitAnd (Int.fdiv (1 + (i : Int)) (2 ^ (Int.toNat (0 + (j : Int))))) 1 ≠ 0 := hbit
        have hb : bitP i j = true := by
          have q := bit_dec ⟨i, hi⟩ ⟨j, hj⟩
          rw [beq_eq_false_iff_ne.mpr hbit] at q
          simpa using q.symm
        k_dflt (refine' flags_sub (j := sn + j) ?b1 hF9 ?b2 ?b5 ?_ ?b3 ?b4; (case b1 => k_asm); (case b2 => (push_cast; omega)); (case b5 => omega); (case b3 => with_unfolding_all rfl); (case b4 => (intro _; with_unfolding_all rfl)))
        intro t11
        refine ⟨_, _, _, rfl, by k_asm, by k_asm, fun p hp => hp, ?_, by omega⟩
        rw [flP_hit hb]
        exact strs_snoc hI9.1 _ _
      · rename Spec.bitAnd _ 1 = 0 => hbit
        replace hbit : Spec.bitAnd (Int.fdiv (1 + (i : Int)) (2 ^ (Int.toNat (0 + (j : Int))))) 1 = 0 := hbit
        have hb : bitP i j = false := by
          have q := bit_dec ⟨i, hi⟩ ⟨j, hj⟩
          rw [beq_iff_eq.mpr hbit] at q
          simpa using q.symm
        refine ⟨_, _, _, rfl, by k_asm, by k_asm, fun p hp => hp, ?_, by omega⟩
        rw [flP_miss hb]
        exact hI9.1))

end Mine
end
section
open PySem PySem.W PyProof.Rows PyProof.Rows.LCg
namespace Mine
set_option maxRecDepth 100000
set_option maxHeartbeats 2000000
variable (w : World) (p : Program) (loose : List Str) (mean : ExcName → Option Value) (mg mb : Str → Option Value)
local macro_rules | `(tactic| k_mem) => `(tactic| first | assumption | exact List.Mem.head _ | (refine List.mem_cons_of_mem _ ?_; k_mem) | (refine mem_grow (by assumption) ?_; k_mem))
local macro_rules | `(tactic| ktd_sub) => `(tactic| first | assumption | exact fun _ h => h | (refine sub_cons ?_; ktd_sub) | (refine sub_grow (by assumption) ?_; ktd_sub))
local macro_rules | `(tactic| ktn_ord) => `(tactic| first | assumption | exact Grow.refl _ | (refine Grow.cons ?_ (by ktn_lt); ktn_ord) | (refine Grow.trans ?_ (by assumption); ktn_ord))
local macro_rules | `(tactic| ktr_rel) => `(tactic| first | assumption | exact TrIn.leaf (by k_mem) | exact TrIn.node (by k_mem) (by ktr_rel) (by ktr_rel) | exact TrIn.mono (by assumption) (by ktd_sub))
local macro_rules | `(tactic| walk_at "compareOp Eq ref ref") => `(tactic| (k_here; (with_reducible show wpAny _ _ (compareOp CmpOp.Eq (Value.ref _) (Value.ref _)) _ _ _); k_dflt (refine' eq_leaf ?k1 ?k2 ?k3 ?k4 ?k5 ?k6 ?_; (case k1 => k_asm); (case k2 => assumption); (case k3 => assumption); (case k4 => ktd_sub); (case k5 => k_mem); (case k6 => ktr_units); k_whole); (try dsimp only [Tr.isLeaf])))
local macro_rules | `(tactic| walk_at "subscriptTail") => `(tactic| (k_here; (with_reducible show wpAny _ _ (subscriptTail _ _ (Value.ref _) (Value.int ((Fin.val _ : Nat) : Int) _)) _ _ _); k_dflt (refine' str_item ?k1 ?k2 ?k3 ?_ ?k4 ?k5; (case k1 => k_asm); (case k2 => assumption); (case k3 => ktd_sub); (case k4 => with_unfolding_all rfl); (case k5 => (intro _; with_unfolding_all rfl)); k_whole); intro _))
local macro_rules | `(tactic| walk_at "subscriptTail") => `(tactic| (k_here; (with_reducible show wpAny _ _ (subscriptTail _ _ (Value.ref _) (Value.int ((Fin.val _ : Nat) : Int) _)) _ _ _); k_dflt (refine' num_item ?k1 ?k2 ?k3 ?_ ?k4 ?k5; (case k1 => k_asm); (case k2 => assumption); (case k3 => ktd_sub); (case k4 => with_unfolding_all rfl); (case k5 => (intro _; with_unfolding_all rfl)); k_whole); intro _))
local macro_rules | `(tactic| walk_at "exec For") => `(tactic| (k_here; refine wpAny_For ?forE (by intro _; rfl)))
local macro_rules | `(tactic| walk_at "exec For Name Name") => `(tactic| (k_here; refine wpAny_For ?forE (by intro _; rfl)))
local macro_rules | `(tactic| walk_at "exec For Name Call") => `(tactic| (k_here; refine wpAny_For ?forE (by intro _; rfl)))
local macro_rules | `(tactic| walk_at "exec For Tuple Call") => `(tactic| (k_here; refine wpAny_For ?forE (by intro _; rfl)))
local macro_rules | `(tactic| walk_at "exec For Name Name cons nil") => `(tactic| (k_here; refine wpAny_For ?forE (by intro _; rfl)))
local macro_rules | `(tactic| walk_at "exec For Name Call cons nil") => `(tactic| (k_here; refine wpAny_For ?forE (by intro _; rfl)))
local macro_rules | `(tactic| walk_at "exec For Tuple Call cons nil") => `(tactic| (k_here; refine wpAny_For ?forE (by intro _; rfl)))
local macro_rules | `(tactic| walk_at "exec For Name Subscript") => `(tactic| (k_here; refine wpAny_For ?forE (by intro _; rfl)))
local macro_rules | `(tactic| walk_at "exec For Name Subscript cons nil") => `(tactic| (k_here; refine wpAny_For ?forE (by intro _; rfl)))
local macro_rules | `(tactic| walk_at "exec Assign cons ListComp") => `(tactic| (k_here; k_dflt (refine' assignComp ?k1 ?k2 ?k3 ?k4 ?_ ?k5; (case k1 => with_unfolding_all rfl); (case k2 => rfl); (case k3 => rfl); (case k4 => decide); (case k5 => (intro _; rfl)))))
local macro_rules | `(tactic| walk_at "eval ListComp") => `(tactic| (k_here; k_dflt (refine' evalComp ?k2 ?k3 ?k4 ?_ ?k5; (case k2 => rfl); (case k3 => rfl); (case k4 => decide); (case k5 => (intro _; rfl)))))
local macro_rules | `(tactic| walk_at "binaryOp Mult ref int") => `(tactic| (k_here; (with_reducible show wpAny _ _ (binaryOp Operator.Mult (Value.ref _) (Value.int 16 _)) _ _ _); k_dflt (refine' mul16 ?k1 ?k2 ?k3 ?_; (case k1 => k_asm); (case k2 => k_asm); (case k3 => k_mem)); intro h6 D6 o6 F6 N6 l6 I6))
local macro_rules | `(tactic| walk_at "call ref") => `(tactic| (k_here; refine Held.out ?_))
local macro_rules | `(tactic| walk_at "execs cons") => `(tactic| (k_here; refine Held.out ?_))
theorem DictL.subC {w : World} {news nx : Led} {d : Addr} {c : List (Str × Int)} (H : DictL w news d c) (h : ∀ p ∈ news, (∀ vs, p.2.data ≠ .fields vs) → (∀ v, p.2.data ≠ .cell v) → p ∈ nx) : DictL w nx d c := by
  obtain ⟨h1, o, kvs, hm, h2, h3⟩ := H
  obtain ⟨es, ep, hq, hd, hr⟩ := id h2
  exact ⟨h1, o, kvs, h _ hm (fun vs e => by rw [hd] at e; cases e) (fun v e => by rw [hd] at e; cases e), h2, h3⟩
theorem Cnts.subC {w : World} {news nx : Led} {ka : Addr} {kk : Fin 4 → Addr} {K : Fin 4 → List (Str × Int)} (h : Cnts w news ka kk K) (k : ∀ p ∈ news, (∀ vs, p.2.data ≠ .fields vs) → (∀ v, p.2.data ≠ .cell v) → p ∈ nx) : Cnts w nx ka kk K :=
  ⟨let ⟨n, hm⟩ := h.outer; ⟨n, k _ hm (fun _ e => nomatch e) (fun _ e => nomatch e)⟩, fun i => (h.inner i).subC k, h.inj, h.off⟩
theorem cnts_sub2 {prog : Program} {w : World} {A : Around} {E : Value → Shared → Prop} {s : Shared} {h₀ : Heap} {L : Addr} {nx : Led} {value slice : Expr} {a : Addr} {kk : Fin 4 → Addr} {K : Fin 4 → List (Str × Int)} {i : Fin 4} {k : Int} {u : Tok} {Q : Value → Shared → Prop} (N : News h₀ L s.heap nx) (H : Cnts w nx a kk K) (hk : k = (i.val : Int))
    (h : Q (.ref (kk i)) s)
    (hsub : subscripted slice false (.ref a) (.int k u) = operate [.ref a, .int k u] (getItem (.ref a) (.int k u)) := by with_unfolding_all rfl)
    (hg : ∀ r, letTemporaryGo value (.ref a) r = pure () := by intro _; with_unfolding_all rfl) :
    wpAny (model prog w) A (subscriptTail value slice (.ref a) (.int k u)) Q E s := by
  subst hk
  exact cnts_sub N H (fun _ h => h) h hsub hg
/-- the ledger without its records and one cell -/
noncomputable def noFC (c : Addr) (nx : Led) : Led := (noF nx).filter fun p => p.1 != c
theorem noFC_nf (c : Addr) (nx : Led) : NoFields (noFC c nx) := fun p hp => noF_nf nx p (List.mem_filter.mp hp).1
theorem noFC_sub {c : Addr} {nx : Led} : ∀ p ∈ noFC c nx, p ∈ nx := fun p hp => noF_sub p (List.mem_filter.mp hp).1
theorem noFC_off {c : Addr} {nx : Led} : ∀ p ∈ noFC c nx, p.1 ≠ c := fun p hp => by simpa using (List.mem_filter.mp hp).2
theorem noFC_mem {c : Addr} {nx : Led} {p : Addr × Obj} (hp : p ∈ nx) (h : ∀ vs, p.2.data ≠ .fields vs) (hc : p.1 ≠ c) : p ∈ noFC c nx := List.mem_filter.mpr ⟨noF_mem hp h, by simpa using hc⟩
/-- what is to be counted of each word -/
noncomputable def dueC (sn : Nat) (j : Fin 4) : List (Str × Int) := (List.range 4).map fun p => (nmF (sn + p), Int.fdiv 24 (((((j.val : Int) - (p : Int)).natAbs : Nat) : Int) + 1))
theorem take_put {c : List (Str × Int)} (nd : (c.map (·.1)).Nodup) {i : Nat} {k : Str} {v : Int} (h : c[i]? = some (k, v)) : c.take (i + 1) = kdpPut (c.take i) k v := by
  have e : c.take (i + 1) = c.take i ++ [(k, v)] := by rw [List.take_add_one, h]; rfl
  have nd2 : ((c.take i ++ [(k, v)]).map (·.1)).Nodup := by
    rw [← e, List.map_take]
    exact nd.sublist (List.take_sublist _ _)
  rw [List.map_append, List.nodup_append] at nd2
  unfold kdpPut
  rw [if_neg, e]
  intro hany
  obtain ⟨p, hp, hk⟩ := List.any_eq_true.mp hany
  exact nd2.2.2 p.1 (List.mem_map_of_mem hp) k (by simp) (of_decide_eq_true hk)
theorem dueC_keys (sn : Nat) (j : Fin 4) : (dueC sn j).map (·.1) = (dueC sn 0).map (·.1) := by
  unfold dueC
  rw [List.map_map, List.map_map]
  rfl
theorem dueC_at (sn : Nat) (j : Fin 4) {i : Nat} (h : i < 4) : (dueC sn j)[i]? = some (nmF (sn + i), Int.fdiv 24 (((((j.val : Int) - (i : Int)).natAbs : Nat) : Int) + 1)) := by
  unfold dueC
  simp [h]
theorem dueC_len (sn : Nat) (j : Fin 4) : (dueC sn j).length = 4 := by simp [dueC]
set_option maxHeartbeats 0 in
theorem seg14 {base h₀ : Heap} {L fa : Addr} {fv : Value} {m : Str → Option Value} {s : Shared} {Q : Flow → Shared → Prop} {E : Value → Shared → Prop} {nx bs : Led} {xa ft ka : Addr} {kk : Fin 4 → Addr} {K : Fin 4 → List Int} {xys : List Value} {sn : Nat} {st : Tok} {v7 : Option Value}
    (B : Below callerA base [] h₀) (X : (KG w.params).In h₀) (T : Top p loose mean mg mb h₀) (F : Fr h₀ L s.heap (fun z => if z = Str.ofString "texts" then some (.ref xa) else if z = Str.ofString "kinds" then some (.ref ka) else m z)) (N : News h₀ L s.heap nx)
    (hbs : ∀ p ∈ bs, p ∈ nx) (hnf : NoFields bs) (hoff : ∀ p ∈ bs, p.1 ≠ L + 1 + 1 + 1 + 1 + 1 + 1 + 1) (hs10 : sn < 10) (hcS : CellAt bs (L + 1 + 1 + 1 + 1 + 1) (some (.int ((sn : Nat) : Int) st))) (hcF : CellAt bs (L + 1 + 1) (some (.ref ft))) (hF : FlagsAt bs ft)
    (hxm : (xa, lst xys) ∈ bs) (hx : StrsAre xys ((List.range 15).map (txtS sn))) (hK : Kinds bs ka kk K) (hc7 : CellAt nx (L + 1 + 1 + 1 + 1 + 1 + 1 + 1) v7)
    (ok : ∀ i, i < 15 → Txt.split (txtS sn i) (Str.ofString ", ") = flP sn i 4 ∧ (flP sn i 4).length ≤ 4 ∧ (txtS sn i).length ≤ 1000)
    (okC : ∀ j, cntC K (fun i => flP sn i 4) 15 j = dueC sn j) (nd : ((dueC sn 0).map (·.1)).Nodup)
    (k : ∀ h tk m' ny, Fr h₀ L h m' → News h₀ L h ny → Q (.ret (.bool true)) { s with heap := h, toks := tk }) :
    wpAny (model PG w) (callerA.deeper (lawEnv L fa fv)) (execs (lawStmts.drop 14) (lawEnv L fa fv)) Q E s := by
  replace k := Hid.mk k
  replace ok := Hid.mk ok
  replace okC := Hid.mk okC
  replace nd := Hid.mk nd
  have hxm6 : (xa, listOf xys.toArray xys.length) ∈ bs := hxm
  have hcF' := id hcF
  unfold lawEnv
  conv in (occs := *) lawScope => all_goals whnf
  conv in List.drop _ _ => whnf
  refine wpAny_execs_cons ?_
  (try dsimp only)
  k_steps
  (try unfold Held)
  have hFL : ∀ i, i < 15 → ∃ x, ((List.range 15).map (txtS sn))[i]? = some x ∧ Txt.split x (Str.ofString ", ") = flP sn i 4 ∧ (flP sn i 4).length ≤ 4 ∧ x.length ≤ 1000 := fun i hi => ⟨txtS sn i, by simp [hi], ok.out i hi⟩
  obtain ⟨o7, ho7, hd7⟩ := id hc7
  k_dflt (refine' Fun.use ?uk1 ?uk2 ?uk3 ?uk4 ?uk5 ?uk6 (counts_fun w p loose mean mg mb (noF nx) ka xa kk K (hK.mono fun p hp => noF_mem (hbs p hp) (hnf p hp)) xys xys.length _ (noF_mem (hbs _ hxm6) (hnf _ hxm6)) hx _ hFL (noF_nf nx)) ?ukd ?uku ?_; (case uk1 => k_asm); (case uk2 => k_asm); (case uk3 => k_asm); (case uk4 => exact News.of N noF_sub); (case uk5 => k_asm); (case uk6 => first | exact rfl | assumption); (case ukd => ktr_room); (case uku => ktr_units))
  intro r9 nx9 h9 tk9 F9 N9 P9
  obtain ⟨D, cc, rfl, hCn⟩ := P9.out
  have sub9 := P9.sub
  have e15 : (fun j => cntC K (fun i => flP sn i 4) 15 j) = dueC sn := funext okC.out
  have hCn : Cnts w nx9 D cc (dueC sn) := by rw [← e15]; exact hCn
  have hb9 : ∀ p ∈ bs, p ∈ nx9 := fun p hp => sub9 p (noF_mem (hbs p hp) (hnf p hp))
  have hc79 : CellAt nx9 (L + 1 + 1 + 1 + 1 + 1 + 1 + 1) v7 := (cell_noF hc7).mono sub9
  clear F N ho7 hd7 P9 hFL
  (try dsimp only)
  k_steps
  unfold Held
  refine wpAny_execs_cons ?_
  (try dsimp only)
  refine wpAny_For ?forX (by intro _; rfl)
  k_steps
  rename IsRange _ _ _ _ _ _ _ _ => hr
  rename News _ _ _ nx9 => N4
  have hcn2 : Cnts w (noFC (L + 1 + 1 + 1 + 1 + 1 + 1 + 1) nx9) D cc (dueC sn) := hCn.subC fun q hq hf hc => noFC_mem hq hf fun e => by
    obtain ⟨o7, ho7, hd7⟩ := hc79
    have := News.agree N4 (a := q.1) (o := q.2) (o' := o7) hq (by rw [e]; exact ho7)
    exact hc _ (by rw [this]; exact hd7)
  k_dflt (refine' for_rangeT (n := 4) [] (fun i nx => (∀ p ∈ noFC (L + 1 + 1 + 1 + 1 + 1 + 1 + 1) nx9, p ∈ nx) ∧ ∃ v, CellAt nx (L + 1 + 1 + 1 + 1 + 1 + 1 + 1) v) ?rhh ?rF N4 hr ?rs ?rn ?rI ?rstab ?rturn ?rdone; (case rhh => rfl); (case rF => k_asm); (case rs => decide); (case rn => decide))
  (case rI => exact ⟨noFC_sub, _, hc79⟩)
  (case rstab => exact fun i nx ny ⟨h1, v, h2⟩ k => ⟨(noFC_nf _ _).keep h1 k, v, h2.keep k⟩)
  (case rdone =>
    intro u n5 h5 tk5 ⟨J1, v, J2⟩ F5 N5
    (try dsimp only)
    k_steps
    show wpAny _ _ (execs _ _) _ _ _
    refine wpAny_execs_cons ?_
    (try dsimp only)
    k_steps
    exact k.out _ _ _ _ (by k_asm) (by k_asm))
  (case rturn =>
    intro I i t5 u n5 h5 tk5 hi hS ⟨J1, v, J2⟩ F5 N5
    (try dsimp only)
    walk_at "assign Name"
    k_dflt (refine' store_cell ?c1 ?c2 ?c3 J2 ?_ ?c4 ?c5; (case c1 => k_asm); (case c2 => k_asm); (case c3 => rfl); (case c4 => rfl); (case c5 => rfl))
    intro h6 n6 F6 N6 hc6 S6
    obtain ⟨o6, ho6, hd6⟩ := hc6
    have hq6 : ∀ p ∈ noFC (L + 1 + 1 + 1 + 1 + 1 + 1 + 1) nx9, p ∈ n6 := fun p hp => S6 p (J1 p hp) (noFC_off p hp)
    have hb6 : ∀ p ∈ bs, p ∈ n6 := fun p hp => hq6 p (noFC_mem (hb9 p hp) (hnf p hp) (hoff p hp))
    have hcn6 : Cnts w n6 D cc (dueC sn) := hcn2.mono hq6
    obtain ⟨oS, hoS, hdS⟩ := hcS.mono hb6
    obtain ⟨oF, hoF, hdF⟩ := hcF.mono hb6
    have hF6 := hF.mono hb6
    refine wpAny_execs_cons ?_
    (try dsimp only)
    have hS6 : SIRange I 0 4 (i + 1) n6 := set_cell_other N5 J2 S6 hS (fun v q => nomatch q)
    clear F5 N5 N4
    k_steps
    k_dflt (refine' cnts_sub2 (i := ⟨i, hi⟩) ?d1 hcn6 ?d2 ?_ ?d3 ?d4; (case d1 => k_asm); (case d2 => simp); (case d3 => with_unfolding_all rfl); (case d4 => (intro _; with_unfolding_all rfl)))
    k_dflt (refine' evalDComp ?k2 ?k3 ?k4 ?_ ?k5; (case k2 => rfl); (case k3 => rfl); (case k4 => decide); (case k5 => (intro _; rfl)))
    k_steps
    rename IsRange _ _ _ 4 _ _ _ _ => hr4
    rename News _ _ _ n6 => N7
    k_dflt (refine' dcomp_range (n := 4) (fun i' => (dueC sn ⟨i, hi⟩).take i') (fun p => nmF (sn + p)) (fun p => Int.fdiv 24 (((((i : Int) - (p : Int)).natAbs : Nat) : Int) + 1)) rfl ?zC ?zl ?zcell ?zkind ?zx ?zh ?zbig ?zF N7 hr4 ?zs ?zn ?zkey ?zval ?zfin; (case zcell => decide); (case zkind => rfl); (case zx => rfl); (case zh => rfl); (case zbig => exact modules_low (Top.nolimit T)); (case zF => k_asm); (case zs => rfl); (case zn => rfl))
    (case zC => exact fun i' hi' => take_put (by rw [dueC_keys]; exact nd.out) (dueC_at sn ⟨i, hi⟩ hi'))
    (case zl => intro i'; rw [List.length_take]; unfold dueC; simp; omega)
    (case zkey =>
      intro C j t ny oC m₂ h tk hj sub hC hNs hx F1 N1
      have ho9 := sub _ ho6
      have hoS9 := sub _ hoS
      have hoF9 := sub _ hoF
      have hF9 := hF6.mono sub
      (try dsimp only)
      k_steps
      k_dflt (refine' flags_sub (j := sn + j) ?b1 hF9 ?b2 ?b5 ?_ ?b3 ?b4; (case b1 => k_asm); (case b2 => (push_cast; omega)); (case b5 => omega); (case b3 => with_unfolding_all rfl); (case b4 => (intro _; with_unfolding_all rfl)))
      intro t11
      exact ⟨_, _, _, rfl, by k_asm, by k_asm, fun p hp => hp, _, rfl⟩)
    (case zval =>
      intro C j t ny oC m₂ h tk hj sub hC hNs hx F1 N1
      have ho9 := sub _ ho6
      (try dsimp only)
      k_steps
      have ev : (if (0 + (i : Int)) - (0 + (j : Int)) < 0 then -((0 + (i : Int)) - (0 + (j : Int))) else (0 + (i : Int)) - (0 + (j : Int))) = ((((i : Int) - (j : Int)).natAbs : Nat) : Int) := by split <;> omega
      rw [ev]
      exact ⟨_, _, _, rfl, by k_asm, by k_asm, fun p hp => hp, _, rfl⟩)
    (case zfin =>
      intro D8 h8 tk8 n8 hD8 sub8 F8 N8
      (try dsimp only)
      k_steps
      rw [List.take_of_length_le (by rw [dueC_len]; exact Nat.le_refl _)] at hD8
      have hcn8 := (hcn6.mono sub8).inner ⟨i, hi⟩
      k_dflt (refine' ne_dicts_same ?e1 hcn8 hD8 ?e2 ?e3 ?_; (case e1 => k_asm); (case e2 => (rw [dueC_keys]; exact nd.out)); (case e3 => first | ktr_units | (show (_ : Nat) < _; decide) | decide))
      k_steps
      refine ⟨_, _, _, _, rfl, by k_asm, by k_asm, sub8 _ hS6, ⟨?tm, fun p hp => sub8 _ (hq6 p hp), _, o6, sub8 _ ho6, hd6⟩⟩
      (case tm => repeat (first | exact Tmp.mid | refine Tmp.step ?_ (by decide +kernel)))))

end Mine
end
section
open PySem PySem.W PyProof.Rows
set_option maxRecDepth 100000
namespace Mine
theorem words_dec : ∀ a b : Fin 4, ∀ ca cb : Fin 2, (a = b → ca = cb) → decide (sc (wordS a.val ca.val) (wordS b.val cb.val) < 0) = decide (a.val < b.val) := by decide +kernel
theorem ltF_words {c : Nat → Nat} (hc : ∀ i, c i < 2) : ltF (fun i : Fin 4 => wordS i.val (c i.val)) = fun a b => decide (a.val < b.val) := by
  funext a b
  exact words_dec a b ⟨c a.val, hc _⟩ ⟨c b.val, hc _⟩ fun e => by subst e; rfl
theorem light_bounds : ∀ k : Fin 8, ∀ i : Fin 4, 2800 * ((i.val : Int) + 1) ≤ lightS k.val i.val ∧ lightS k.val i.val ≤ 3200 * ((i.val : Int) + 1) := by decide +kernel
theorem light_gt {k : Nat → Nat} (hk : ∀ i, k i < 8) (a b : Fin 4) : (lightS (k a.val) a.val > lightS (k b.val) b.val) ↔ b.val < a.val := by
  have ha := light_bounds ⟨k a.val, hk _⟩ a
  have hb := light_bounds ⟨k b.val, hk _⟩ b
  dsimp only at ha hb
  have h1 := a.isLt
  have h2 := b.isLt
  constructor
  · intro h
    rcases Nat.lt_or_ge b.val a.val with q | q
    · exact q
    · rcases Nat.lt_or_ge a.val b.val with q2 | q2
      · omega
      · have e : a = b := Fin.ext (Nat.le_antisymm q q2)
        subst e; omega
  · intro h; omega
theorem light_top {k : Nat → Nat} (hk : ∀ i, k i < 8) (a : Fin 4) : lightS (k a.val) a.val < 99999 := by
  have ha := light_bounds ⟨k a.val, hk _⟩ a
  dsimp only at ha
  have h1 := a.isLt
  omega
/-- the orders' own compare -/
noncomputable def gtO (o : Fin 4 → Fin 4) (a b : Fin 4) : Bool := decide ((o b).val < (o a).val)
noncomputable def ltN (a b : Fin 4) : Bool := decide (a.val < b.val)
theorem gtF_lights {k : Nat → Nat} (hk : ∀ i, k i < 8) (o : Fin 4 → Fin 4) : gtF (fun i => lightS (k (o i).val) (o i).val) = gtO o := by
  funext a b
  unfold gtF gtO
  exact decide_eq_decide.mpr (light_gt hk (o a) (o b))
/-- the tree does not depend on what is counted -/
theorem runH_tree (gt lt : Fin 4 → Fin 4 → Bool) (row : Fin 4 → Fin 4) (T T' : List Int) : ∀ n, (runH gt lt row T n).1 = (runH gt lt row T' n).1
  | 0 => rfl
  | n + 1 => by
    have ih := runH_tree gt lt row T T' n
    unfold runH
    split
    · unfold stepH; rw [ih]
    · exact ih
noncomputable def heapB (gt : Fin 4 → Fin 4 → Bool) : Tr → Bool
  | .leaf => true
  | .node l k r => (match l with | .leaf => true | .node _ c _ => gt k c) && (match r with | .leaf => true | .node _ c _ => gt k c) && heapB gt l && heapB gt r
noncomputable def inord : Tr → List Int
  | .leaf => []
  | .node l k r => inord l ++ [(k.val : Int)] ++ inord r
noncomputable def visits : Tr → Nat → List (Fin 4 × Nat)
  | .leaf, _ => []
  | .node l k r, mask => (k, mask + 2 ^ k.val) :: (visits l (mask + 2 ^ k.val) ++ visits r (mask + 2 ^ k.val))
noncomputable def bump (K : Fin 4 → List Int) (v : Fin 4 × Nat) : Fin 4 → List Int := updK K v.1 ((K v.1).set v.2 ((K v.1).getD v.2 0 + 1))
noncomputable def topOk (G : Fin 4 → Int) (most : Int) : Tr → Prop
  | .leaf => True
  | .node _ k _ => G k < most
theorem seenF_visits {G : Fin 4 → Int} {gt : Fin 4 → Fin 4 → Bool} (hgt : ∀ a b, gt a b = true → G b < G a) : ∀ (t : Tr) (most : Int) (mask : Nat) (K : Fin 4 → List Int), heapB gt t = true → topOk G most t → seenF G t most mask K = (inord t, (visits t mask).foldl bump K)
  | .leaf, _, _, _, _, _ => rfl
  | .node l k r, most, mask, K, h, ht => by
    simp only [heapB, Bool.and_eq_true] at h
    obtain ⟨⟨⟨h1, h2⟩, h3⟩, h4⟩ := h
    have hl : topOk G (G k) l := by
      cases l with
      | leaf => trivial
      | node _ c _ => exact hgt k c h1
    have hr : topOk G (G k) r := by
      cases r with
      | leaf => trivial
      | node _ c _ => exact hgt k c h2
    have hk : ¬ most ≤ G k := by
      have : G k < most := ht
      omega
    rw [seenF_on hk rfl rfl, seenF_visits hgt l _ _ _ h3 hl, seenF_visits hgt r _ _ _ h4 hr]
    simp only [inord, visits, List.foldl_cons, List.foldl_append]
    rfl
noncomputable def ordLit : List (Fin 4 → Fin 4) := [mkO 0 1 2 3, mkO 0 1 3 2, mkO 0 2 1 3, mkO 0 2 3 1, mkO 0 3 1 2, mkO 0 3 2 1, mkO 1 0 2 3, mkO 1 0 3 2, mkO 1 2 0 3, mkO 1 2 3 0, mkO 1 3 0 2, mkO 1 3 2 0, mkO 2 0 1 3, mkO 2 0 3 1, mkO 2 1 0 3, mkO 2 1 3 0, mkO 2 3 0 1, mkO 2 3 1 0, mkO 3 0 1 2, mkO 3 0 2 1, mkO 3 1 0 2, mkO 3 1 2 0, mkO 3 2 0 1, mkO 3 2 1 0]
theorem ordersI_eq : ordersI = [[0, 1, 2, 3], [0, 1, 3, 2], [0, 2, 1, 3], [0, 2, 3, 1], [0, 3, 1, 2], [0, 3, 2, 1], [1, 0, 2, 3], [1, 0, 3, 2], [1, 2, 0, 3], [1, 2, 3, 0], [1, 3, 0, 2], [1, 3, 2, 0], [2, 0, 1, 3], [2, 0, 3, 1], [2, 1, 0, 3], [2, 1, 3, 0], [2, 3, 0, 1], [2, 3, 1, 0], [3, 0, 1, 2], [3, 0, 2, 1], [3, 1, 0, 2], [3, 1, 2, 0], [3, 2, 0, 1], [3, 2, 1, 0]] := by decide +kernel
theorem ordersL_eq : ordersL = ordLit := by
  unfold ordersL
  rw [ordersI_eq]
  rfl
noncomputable def treeF (row o : Fin 4 → Fin 4) : Tr := (runH (gtO o) ltN row [0, 0, 0, 0] 4).1
noncomputable def Tr.beq : Tr → Tr → Bool
  | .leaf, .leaf => true
  | .node a k b, .node c m d => a.beq c && k.val == m.val && b.beq d
  | _, _ => false
theorem Tr.eq_of_beq : ∀ {a b : Tr}, a.beq b = true → a = b
  | .leaf, .leaf, _ => rfl
  | .node a k b, .node c m d, h => by
    simp only [Tr.beq, Bool.and_eq_true, beq_iff_eq] at h
    rw [Tr.eq_of_beq h.1.1, Tr.eq_of_beq h.2, Fin.ext h.1.2]
  | .leaf, .node .., h => nomatch h
  | .node .., .leaf, h => nomatch h
noncomputable def idO : Fin 4 → Fin 4 := mkO 0 1 2 3
noncomputable def chk1 (o : Fin 4 → Fin 4) : Bool := okF (treeF idO o) 0 && heapB (gtO o) (treeF idO o) && (inord (treeF idO o) == [0, 1, 2, 3])
theorem chk1_all : ordLit.all chk1 = true := by decide +kernel
theorem chk2_all : (ordLit.all fun row => ordLit.all fun o => (treeF row o).beq (treeF idO o)) = true := by decide +kernel
end Mine
end
section
open PySem PySem.W PyProof.Rows
set_option maxRecDepth 100000
namespace Mine
noncomputable def tnF (row o : Fin 4 → Fin 4) (h : Fin 4) : Int := ((putF (gtO o) ltN (row h) (runH (gtO o) ltN row [0, 0, 0, 0] h.val).1).2 : Int)
theorem runH_turn (o row : Fin 4 → Fin 4) (a b c d : Int) : (runH (gtO o) ltN row [a, b, c, d] 4).2 = [a + tnF row o 0, b + tnF row o 1, c + tnF row o 2, d + tnF row o 3] := by
  have t1 := runH_tree (gtO o) ltN row [a, b, c, d] [0, 0, 0, 0] 1
  have t2 := runH_tree (gtO o) ltN row [a, b, c, d] [0, 0, 0, 0] 2
  have t3 := runH_tree (gtO o) ltN row [a, b, c, d] [0, 0, 0, 0] 3
  have s1 : (runH (gtO o) ltN row [a, b, c, d] 1).2 = [a + tnF row o 0, b, c, d] := by
    rw [runH_succ (by decide)]; rfl
  have s2 : (runH (gtO o) ltN row [a, b, c, d] 2).2 = [a + tnF row o 0, b + tnF row o 1, c, d] := by
    rw [runH_succ (by decide)]
    unfold stepH
    dsimp only
    rw [s1, t1]; rfl
  have s3 : (runH (gtO o) ltN row [a, b, c, d] 3).2 = [a + tnF row o 0, b + tnF row o 1, c + tnF row o 2, d] := by
    rw [runH_succ (by decide)]
    unfold stepH
    dsimp only
    rw [s2, t2]; rfl
  rw [runH_succ (by decide)]
  unfold stepH
  dsimp only
  rw [s3, t3]; rfl
/-- the lights and the words of the law -/
structure Lamps (Lt : Fin 4 → Int) (W : Fin 4 → Str) : Prop where
  gt : ∀ o : Fin 4 → Fin 4, gtF (fun i => Lt (o i)) = gtO o
  lt : ltF W = ltN
  top : ∀ a, Lt a < 99999
theorem lampsOf {k c : Nat → Nat} (hk : ∀ i, k i < 8) (hc : ∀ i, c i < 2) : Lamps (fun i => lightS (k i.val) i.val) (fun i => wordS i.val (c i.val)) :=
  ⟨fun o => gtF_lights hk o, ltF_words hc, fun a => light_top hk a⟩
theorem gtO_lt {Lt : Fin 4 → Int} {W : Fin 4 → Str} (H : Lamps Lt W) (o : Fin 4 → Fin 4) (a b : Fin 4) (h : gtO o a b = true) : Lt (o b) < Lt (o a) := by
  rw [← H.gt o] at h
  exact of_decide_eq_true h
theorem treeF_idO {row o : Fin 4 → Fin 4} (hr : row ∈ ordLit) (ho : o ∈ ordLit) : treeF row o = treeF idO o :=
  Tr.eq_of_beq (List.all_eq_true.mp (List.all_eq_true.mp chk2_all row hr) o ho)
theorem chk1_at {o : Fin 4 → Fin 4} (ho : o ∈ ordLit) : okF (treeF idO o) 0 = true ∧ heapB (gtO o) (treeF idO o) = true ∧ inord (treeF idO o) = [0, 1, 2, 3] := by
  have h := List.all_eq_true.mp chk1_all o ho
  unfold chk1 at h
  simp only [Bool.and_eq_true, beq_iff_eq] at h
  exact ⟨h.1.1, h.1.2, h.2⟩
theorem run_tree {Lt : Fin 4 → Int} {W : Fin 4 → Str} (H : Lamps Lt W) {row o : Fin 4 → Fin 4} (hr : row ∈ ordLit) (ho : o ∈ ordLit) (T : List Int) : (runH (gtF fun i => Lt (o i)) (ltF W) row T 4).1 = treeF idO o := by
  rw [H.gt, H.lt, runH_tree _ _ _ T [0, 0, 0, 0], ← treeF_idO hr ho]
  rfl
theorem seen_at {Lt : Fin 4 → Int} {W : Fin 4 → Str} (H : Lamps Lt W) {o : Fin 4 → Fin 4} (ho : o ∈ ordLit) (K : Fin 4 → List Int) : seenF (fun i => Lt (o i)) (treeF idO o) 99999 0 K = ([0, 1, 2, 3], (visits (treeF idO o) 0).foldl bump K) := by
  obtain ⟨h1, h2, h3⟩ := chk1_at ho
  rw [seenF_visits (gtO_lt H o) _ _ _ _ h2 ?_, h3]
  cases treeF idO o with
  | leaf => trivial
  | node _ k _ => exact H.top _
theorem okAll {Lt : Fin 4 → Int} {W : Fin 4 → Str} (H : Lamps Lt W) : ∀ row ∈ ordersL, ∀ o ∈ ordersL, ∀ T K, okF (runH (gtF fun i => Lt (o i)) (ltF W) row T 4).1 0 = true ∧ (seenF (fun i => Lt (o i)) (runH (gtF fun i => Lt (o i)) (ltF W) row T 4).1 99999 0 K).1 = [0, 1, 2, 3] := by
  intro row hr o ho T K
  rw [ordersL_eq] at hr ho
  rw [run_tree H hr ho T, seen_at H ho]
  exact ⟨(chk1_at ho).1, rfl⟩
/-- what all the orders make -/
noncomputable def visAll : List (Fin 4 → Fin 4) → List (Fin 4 × Nat) := fun os => os.flatMap fun o => visits (treeF idO o) 0
theorem all_fold {Lt : Fin 4 → Int} {W : Fin 4 → Str} (H : Lamps Lt W) {row : Fin 4 → Fin 4} (hr : row ∈ ordLit) : ∀ (os : List (Fin 4 → Fin 4)) (K : Fin 4 → List Int) (a b c d : Int), (∀ o ∈ os, o ∈ ordLit) →
    os.foldl (stO Lt W row) (K, [a, b, c, d]) = ((visAll os).foldl bump K, [a + (os.map fun o => tnF row o 0).sum, b + (os.map fun o => tnF row o 1).sum, c + (os.map fun o => tnF row o 2).sum, d + (os.map fun o => tnF row o 3).sum])
  | [], K, a, b, c, d, _ => by simp [visAll]
  | o :: r, K, a, b, c, d, h => by
    have ho := h o (.head _)
    have e : stO Lt W row (K, [a, b, c, d]) o = ((visits (treeF idO o) 0).foldl bump K, [a + tnF row o 0, b + tnF row o 1, c + tnF row o 2, d + tnF row o 3]) := by
      unfold stO
      dsimp only
      rw [run_tree H hr ho, seen_at H ho, H.gt, H.lt, runH_turn]
    rw [List.foldl_cons, e, all_fold H hr r _ _ _ _ _ fun o ho => h o (.tail _ ho)]
    simp only [visAll, List.flatMap_cons, List.foldl_append, List.map_cons, List.sum_cons, Int.add_assoc]
noncomputable def turnS (row : Fin 4 → Fin 4) (h : Fin 4) : Int := (ordLit.map fun o => tnF row o h).sum
theorem all_at {Lt : Fin 4 → Int} {W : Fin 4 → Str} (H : Lamps Lt W) {row : Fin 4 → Fin 4} (hr : row ∈ ordersL) : allF Lt W row ordersL = ((visAll ordLit).foldl bump (fun _ => List.replicate 16 0), [turnS row 0, turnS row 1, turnS row 2, turnS row 3]) := by
  rw [ordersL_eq] at hr ⊢
  unfold allF
  rw [all_fold H hr ordLit _ 0 0 0 0 fun o ho => ho]
  simp only [Int.zero_add]
  rfl
noncomputable def chk3 (row : Fin 4 → Fin 4) (h : Fin 4) : Bool := turnS row h == 48 - Int.fdiv 24 ((cntF row h (h.val + 1) : Nat) : Int) - Int.fdiv 24 ((h.val : Int) + 2 - ((cntF row h (h.val + 1) : Nat) : Int))
theorem chk3_0 : (ordLit.all fun row => chk3 row 0) = true := by decide +kernel
theorem chk3_1 : (ordLit.all fun row => chk3 row 1) = true := by decide +kernel
theorem chk3_2 : (ordLit.all fun row => chk3 row 2) = true := by decide +kernel
theorem chk3_3 : (ordLit.all fun row => chk3 row 3) = true := by decide +kernel
theorem turns_ok {Lt : Fin 4 → Int} {W : Fin 4 → Str} (H : Lamps Lt W) {row : Fin 4 → Fin 4} (hr : row ∈ ordersL) : (allF Lt W row ordersL).2.length = 4 ∧ ∀ (i : Nat) (hi : i < 4), ((allF Lt W row ordersL).2.drop i).take 1 = [48 - Int.fdiv 24 ((cntF row ⟨i, hi⟩ (i + 1) : Nat) : Int) - Int.fdiv 24 ((i : Int) + 2 - ((cntF row ⟨i, hi⟩ (i + 1) : Nat) : Int))] := by
  rw [all_at H hr]
  rw [ordersL_eq] at hr
  refine ⟨rfl, fun i hi => ?_⟩
  match i, hi with
  | 0, _ => exact congrArg (fun x => [x]) (beq_iff_eq.mp (List.all_eq_true.mp chk3_0 row hr))
  | 1, _ => exact congrArg (fun x => [x]) (beq_iff_eq.mp (List.all_eq_true.mp chk3_1 row hr))
  | 2, _ => exact congrArg (fun x => [x]) (beq_iff_eq.mp (List.all_eq_true.mp chk3_2 row hr))
  | 3, _ => exact congrArg (fun x => [x]) (beq_iff_eq.mp (List.all_eq_true.mp chk3_3 row hr))
/-- the table of kinds by counting -/
theorem incr_count : ∀ (ms : List Nat) (l : List Int), l.length = 16 → (∀ m ∈ ms, m < 16) → ms.foldl (fun l m => l.set m (l.getD m 0 + 1)) l = (List.range 16).map fun m => l.getD m 0 + ((ms.count m : Nat) : Int)
  | [], l, hl, _ => by
    refine List.ext_getElem (by simp [hl]) fun i h1 h2 => ?_
    have h3 : i < l.length := h1
    simp [List.getD, h3]
  | m :: r, l, hl, h => by
    rw [List.foldl_cons, incr_count r _ (by simp [hl]) fun x hx => h x (.tail _ hx)]
    refine List.map_congr_left fun x hx => ?_
    have hx16 : x < 16 := List.mem_range.mp hx
    have hm := h m (.head _)
    by_cases e : m = x
    · subst e
      simp [List.getD, hl, hm, Int.add_assoc, Int.add_comm]
    · simp [List.getD, e, List.count_cons, List.getElem?_set]
theorem bump_at (j : Fin 4) : ∀ (vs : List (Fin 4 × Nat)) (K : Fin 4 → List Int), (vs.foldl bump K) j = ((vs.filter fun v => v.1 == j).map (·.2)).foldl (fun l m => l.set m (l.getD m 0 + 1)) (K j)
  | [], _ => rfl
  | v :: r, K => by
    rw [List.foldl_cons, bump_at j r]
    by_cases e : v.1 = j
    · subst e
      simp [bump, updK]
    · have e2 : ¬ j = v.1 := fun q => e q.symm
      simp [bump, updK, e, e2]
noncomputable def masksOf (j : Fin 4) : List Nat := ((visAll ordLit).filter fun v => v.1 == j).map (·.2)
theorem masks_lt : ∀ j : Fin 4, ∀ m ∈ masksOf j, m < 16 := by decide +kernel
noncomputable def KC (j : Fin 4) (m : Nat) : Int := (((masksOf j).count m : Nat) : Int)
theorem kinds_at {Lt : Fin 4 → Int} {W : Fin 4 → Str} (H : Lamps Lt W) {row : Fin 4 → Fin 4} (hr : row ∈ ordersL) (j : Fin 4) : (allF Lt W row ordersL).1 j = (List.range 16).map (KC j) := by
  rw [all_at H hr]
  show ((visAll ordLit).foldl bump _) j = _
  rw [bump_at]
  show (masksOf j).foldl _ _ = _
  rw [incr_count _ _ (by simp) (masks_lt j)]
  refine List.map_congr_left fun x hx => ?_
  have hx16 : x < 16 := List.mem_range.mp hx
  have e0 : (List.replicate 16 (0 : Int)).getD x 0 = 0 := by
    rw [List.getD_eq_getElem?_getD, List.getElem?_replicate]
    split <;> rfl
  show (List.replicate 16 (0 : Int)).getD x 0 + KC j x = KC j x
  rw [e0, Int.zero_add]
end Mine
end
section
open PySem PySem.W PyProof.Rows
set_option maxRecDepth 100000
namespace Mine
noncomputable def fOf (sn i : Nat) : Int := (1 + (i : Int)) * 2 ^ (Int.toNat (sn : Int))
noncomputable def chkP (sn i : Nat) : Bool := !(fOf sn i == 0) && (pfRun (fOf sn i) 13).1 == 0 && (pfRun (fOf sn i) 13).2 == flP sn i 4
theorem chkP_all : ∀ sn : Fin 10, ∀ i : Fin 15, chkP sn.val i.val = true := by decide +kernel
noncomputable def chkS (sn i : Nat) : Bool := Txt.split (Txt.join (Str.ofString ", ") (flP sn i 4)) (Str.ofString ", ") == flP sn i 4 && decide ((flP sn i 4).length ≤ 4) && decide ((Txt.join (Str.ofString ", ") (flP sn i 4)).length ≤ 1000) && decide (((flP sn i 4).map (·.length)).sum + (flP sn i 4).length ≤ 1048576)
theorem chkS_0 : ∀ i : Fin 15, chkS 0 i.val = true := by decide +kernel
theorem chkS_1 : ∀ i : Fin 15, chkS 1 i.val = true := by decide +kernel
theorem chkS_2 : ∀ i : Fin 15, chkS 2 i.val = true := by decide +kernel
theorem chkS_3 : ∀ i : Fin 15, chkS 3 i.val = true := by decide +kernel
theorem chkS_4 : ∀ i : Fin 15, chkS 4 i.val = true := by decide +kernel
theorem chkS_5 : ∀ i : Fin 15, chkS 5 i.val = true := by decide +kernel
theorem chkS_6 : ∀ i : Fin 15, chkS 6 i.val = true := by decide +kernel
theorem chkS_7 : ∀ i : Fin 15, chkS 7 i.val = true := by decide +kernel
theorem chkS_8 : ∀ i : Fin 15, chkS 8 i.val = true := by decide +kernel
theorem chkS_9 : ∀ i : Fin 15, chkS 9 i.val = true := by decide +kernel
theorem chkS_all {sn i : Nat} (hs : sn < 10) (hi : i < 15) : chkS sn i = true := by
  match sn, hs with
  | 0, _ => exact chkS_0 ⟨i, hi⟩
  | 1, _ => exact chkS_1 ⟨i, hi⟩
  | 2, _ => exact chkS_2 ⟨i, hi⟩
  | 3, _ => exact chkS_3 ⟨i, hi⟩
  | 4, _ => exact chkS_4 ⟨i, hi⟩
  | 5, _ => exact chkS_5 ⟨i, hi⟩
  | 6, _ => exact chkS_6 ⟨i, hi⟩
  | 7, _ => exact chkS_7 ⟨i, hi⟩
  | 8, _ => exact chkS_8 ⟨i, hi⟩
  | 9, _ => exact chkS_9 ⟨i, hi⟩
theorem flags_ok {sn i : Nat} (hs : sn < 10) (hi : i < 15) : fOf sn i ≠ 0 ∧ (pfRun (fOf sn i) 13).1 = 0 ∧ (pfRun (fOf sn i) 13).2 = flP sn i 4 := by
  have h := chkP_all ⟨sn, hs⟩ ⟨i, hi⟩
  unfold chkP at h
  simp only [Bool.and_eq_true, beq_iff_eq, Bool.not_eq_true', beq_eq_false_iff_ne] at h
  exact ⟨h.1.1, h.1.2, h.2⟩
theorem texts_ok {sn i : Nat} (hs : sn < 10) (hi : i < 15) : Txt.split (Txt.join (Str.ofString ", ") (flP sn i 4)) (Str.ofString ", ") = flP sn i 4 ∧ (flP sn i 4).length ≤ 4 ∧ (Txt.join (Str.ofString ", ") (flP sn i 4)).length ≤ 1000 ∧ ((flP sn i 4).map (·.length)).sum + (flP sn i 4).length ≤ 1048576 := by
  have h := chkS_all hs hi
  unfold chkS at h
  simp only [Bool.and_eq_true, beq_iff_eq, decide_eq_true_eq] at h
  exact ⟨h.1.1.1, h.1.1.2, h.1.2, h.2⟩
theorem okT_all : ∀ sn, sn < 10 → okT sn := fun sn hs i hi => by
  obtain ⟨h1, h2, h3⟩ := flags_ok hs hi
  obtain ⟨_, _, _, h4⟩ := texts_ok hs hi
  refine ⟨h1, h2, ?_⟩
  show ((pfRun (fOf sn i) 13).2.map (·.length)).sum + (pfRun (fOf sn i) 13).2.length ≤ 1048576
  rw [h3]; exact h4
theorem txt_eq {sn i : Nat} (hs : sn < 10) (hi : i < 15) : txtS sn i = Txt.join (Str.ofString ", ") (flP sn i 4) := by
  obtain ⟨_, _, h3⟩ := flags_ok hs hi
  show Txt.join (Str.ofString ", ") (pfRun (fOf sn i) 13).2 = _
  rw [h3]
theorem ok13 {sn : Nat} (hs : sn < 10) : ∀ i, i < 15 → txtS sn i = Txt.join (Str.ofString ", ") (flP sn i 4) ∧ ((flP sn i 4).map (·.length)).sum + (flP sn i 4).length ≤ 1048576 := fun i hi => ⟨txt_eq hs hi, (texts_ok hs hi).2.2.2⟩
theorem ok14 {sn : Nat} (hs : sn < 10) : ∀ i, i < 15 → Txt.split (txtS sn i) (Str.ofString ", ") = flP sn i 4 ∧ (flP sn i 4).length ≤ 4 ∧ (txtS sn i).length ≤ 1000 := fun i hi => by
  rw [txt_eq hs hi]
  obtain ⟨h1, h2, h3, _⟩ := texts_ok hs hi
  exact ⟨h1, h2, h3⟩
theorem keys_dec : ∀ sn : Fin 10, ((dueC sn.val 0).map (·.1)).Nodup := by decide +kernel
theorem keys_nd {sn : Nat} (hs : sn < 10) : ((dueC sn 0).map (·.1)).Nodup := keys_dec ⟨sn, hs⟩
end Mine
end
section
open PySem PySem.W PyProof.Rows
set_option maxRecDepth 100000
namespace Mine
/-- counts by places in the stead of names -/
noncomputable def nPut (c : List (Nat × Int)) (k : Nat) (v : Int) : List (Nat × Int) := if c.any (fun p => p.1 == k) then c.map (fun p => if p.1 == k then (p.1, v) else p) else c ++ [(k, v)]
noncomputable def nLook (c : List (Nat × Int)) (k : Nat) : Int := ((c.find? fun p => p.1 == k).map (·.2)).getD 0
noncomputable def enc (f : Nat → Str) (c : List (Nat × Int)) : List (Str × Int) := c.map fun p => (f p.1, p.2)
noncomputable def Small (c : List (Nat × Int)) : Prop := ∀ p ∈ c, p.1 < 4
theorem enc_look {f : Nat → Str} (hf : ∀ p q, p < 4 → q < 4 → f p = f q → p = q) : ∀ {c : List (Nat × Int)} {k : Nat}, Small c → k < 4 → kdpLook (enc f c) (f k) 0 = nLook c k
  | [], _, _, _ => rfl
  | (i, x) :: c, k, hc, hk => by
    have ih := enc_look hf (c := c) (fun p hp => hc p (.tail _ hp)) hk
    have hi := hc _ (.head _)
    unfold kdpLook nLook at ih ⊢
    show (Option.map _ (List.find? _ ((f i, x) :: enc f c))).getD 0 = _
    rw [List.find?_cons, List.find?_cons]
    by_cases e : i = k
    · subst e; simp
    · have e2 : f i ≠ f k := fun q => e (hf _ _ hi hk q)
      simp only [decide_eq_false e2, beq_eq_false_iff_ne.mpr e]
      exact ih
theorem enc_any {f : Nat → Str} (hf : ∀ p q, p < 4 → q < 4 → f p = f q → p = q) : ∀ {c : List (Nat × Int)} {k : Nat}, Small c → k < 4 → ((enc f c).any fun p => decide (p.1 = f k)) = c.any fun p => p.1 == k
  | [], _, _, _ => rfl
  | (i, x) :: c, k, hc, hk => by
    have ih := enc_any hf (c := c) (fun p hp => hc p (.tail _ hp)) hk
    have hi := hc _ (.head _)
    show (decide (f i = f k) || (enc f c).any _) = ((i == k) || c.any _)
    rw [ih]
    by_cases e : i = k
    · subst e; simp
    · have e2 : f i ≠ f k := fun q => e (hf _ _ hi hk q)
      rw [decide_eq_false e2, beq_eq_false_iff_ne.mpr e]
theorem enc_put {f : Nat → Str} (hf : ∀ p q, p < 4 → q < 4 → f p = f q → p = q) {c : List (Nat × Int)} {k : Nat} {v : Int} (hc : Small c) (hk : k < 4) : kdpPut (enc f c) (f k) v = enc f (nPut c k v) := by
  unfold kdpPut nPut
  rw [enc_any hf hc hk]
  split
  · unfold enc
    rw [List.map_map, List.map_map]
    refine List.map_congr_left fun p hp => ?_
    have hi := hc p hp
    by_cases e : p.1 = k
    · simp [e]
    · have e2 : f p.1 ≠ f k := fun q => e (hf _ _ hi hk q)
      simp [e, e2]
  · unfold enc
    rw [List.map_append]; rfl
theorem small_put {c : List (Nat × Int)} {k : Nat} {v : Int} (hc : Small c) (hk : k < 4) : Small (nPut c k v) := by
  unfold nPut
  split
  · intro p hp
    obtain ⟨q, hq, rfl⟩ := List.mem_map.mp hp
    have := hc q hq
    split <;> exact this
  · intro p hp
    rcases List.mem_append.mp hp with h | h
    · exact hc p h
    · rw [List.mem_singleton.mp h]; exact hk
noncomputable def nStep (c : List (Nat × Int)) (v : Nat × Int) : List (Nat × Int) := nPut c v.1 (nLook c v.1 + v.2)
noncomputable def sStep (c : List (Str × Int)) (v : Str × Int) : List (Str × Int) := kdpPut c v.1 (kdpLook c v.1 0 + v.2)
theorem enc_fold {f : Nat → Str} (hf : ∀ p q, p < 4 → q < 4 → f p = f q → p = q) : ∀ (vs : List (Nat × Int)) (c : List (Nat × Int)), Small c → Small vs → (enc f vs).foldl sStep (enc f c) = enc f (vs.foldl nStep c)
  | [], _, _, _ => rfl
  | v :: r, c, hc, hv => by
    have h4 := hv v (.head _)
    show (enc f r).foldl sStep (sStep (enc f c) (f v.1, v.2)) = enc f (r.foldl nStep (nStep c v))
    unfold sStep nStep
    dsimp only
    rw [enc_look hf hc h4, enc_put hf hc h4]
    exact enc_fold hf r _ (small_put hc h4) fun p hp => hv p (.tail _ hp)
/-- the law's counts as one fold a word -/
theorem flags_fold (K : Fin 4 → List Int) (mask : Nat) (j : Fin 4) : ∀ (fl : List Str) (C : Fin 4 → List (Str × Int)), (fl.foldl (fun C flag => updC K mask flag C) C) j = (fl.map fun x => (x, (K j).getD mask 0)).foldl sStep (C j)
  | [], _ => rfl
  | x :: r, C => by
    rw [List.foldl_cons, flags_fold K mask j r]
    rfl
noncomputable def putsOf (K : Fin 4 → List Int) (FL : Nat → List Str) (j : Fin 4) (n : Nat) : List (Str × Int) := (List.range n).flatMap fun i => (FL i).map fun x => (x, (K j).getD (i + 1) 0)
theorem cnt_fold (K : Fin 4 → List Int) (FL : Nat → List Str) (j : Fin 4) : ∀ n, cntC K FL n j = (putsOf K FL j n).foldl sStep []
  | 0 => rfl
  | n + 1 => by
    show (maskC K FL (cntC K FL n) n) j = _
    unfold maskC putsOf
    rw [flags_fold, cnt_fold K FL j n, List.range_succ, List.flatMap_append, List.foldl_append]
    simp [putsOf]
noncomputable def bitsOf (i : Nat) : List Nat := (List.range 4).filter (bitP i)
noncomputable def nPuts (j : Fin 4) : List (Nat × Int) := (List.range 15).flatMap fun i => (bitsOf i).map fun p => (p, KC j (i + 1))
noncomputable def nDue (j : Fin 4) : List (Nat × Int) := (List.range 4).map fun p => (p, Int.fdiv 24 (((((j.val : Int) - (p : Int)).natAbs : Nat) : Int) + 1))
theorem count_dec : ∀ j : Fin 4, (nPuts j).foldl nStep [] = nDue j := by decide +kernel
theorem puts_small : ∀ j : Fin 4, ∀ p ∈ nPuts j, p.1 < 4 := by decide +kernel
theorem puts_enc (sn : Nat) (j : Fin 4) {K : Fin 4 → List Int} (hK : K j = (List.range 16).map (KC j)) : putsOf K (fun i => flP sn i 4) j 15 = enc (fun p => nmF (sn + p)) (nPuts j) := by
  unfold putsOf nPuts enc
  rw [List.map_flatMap, List.flatMap_def, List.flatMap_def]
  congr 1
  refine List.map_congr_left fun i hi => ?_
  have h15 := List.mem_range.mp hi
  have e : (K j).getD (i + 1) 0 = KC j (i + 1) := by
    rw [hK, List.getD_eq_getElem?_getD, List.getElem?_map, List.getElem?_range (by omega)]
    rfl
  rw [e]
  unfold flP bitsOf
  rw [List.map_map, List.map_map]
  rfl
theorem names_inj : ∀ sn : Fin 10, ∀ p q : Fin 4, nmF (sn.val + p.val) = nmF (sn.val + q.val) → p = q := by decide +kernel
theorem counts_ok {sn : Nat} (hs : sn < 10) {K : Fin 4 → List Int} (hK : ∀ j, K j = (List.range 16).map (KC j)) (j : Fin 4) : cntC K (fun i => flP sn i 4) 15 j = dueC sn j := by
  rw [cnt_fold, puts_enc sn j (hK j)]
  have hf : ∀ p q, p < 4 → q < 4 → nmF (sn + p) = nmF (sn + q) → p = q := fun p q hp hq h => congrArg Fin.val (names_inj ⟨sn, hs⟩ ⟨p, hp⟩ ⟨q, hq⟩ h)
  have q := enc_fold hf (nPuts j) [] (fun p hp => nomatch hp) (puts_small j)
  rw [count_dec j] at q
  refine Eq.trans q ?_
  unfold enc nDue dueC
  rw [List.map_map]
  rfl
end Mine
end
section
open PySem PySem.W PyProof.Rows PyProof.Rows.LCg
set_option maxRecDepth 100000
namespace Mine
theorem SeqSub.noFC {h₀ h : Heap} {L : Addr} {nx : Led} {c : Addr} {v : Option Value} (N : News h₀ L h nx) (H : CellAt nx c v) : SeqSub nx (Mine.noFC c nx) := fun p hp ⟨xs, n, e⟩ => noFC_mem hp (fun vs q => by rw [e] at q; cases q) fun q => by
  obtain ⟨o, hm, hd⟩ := H
  subst q
  have := News.agree N hp hm
  rw [this, hd] at e; cases e
theorem CellAt.noFC {nx : Led} {c c' : Addr} {v : Option Value} (H : CellAt nx c' v) (hne : c' ≠ c) : CellAt (Mine.noFC c nx) c' v :=
  let ⟨o, hm, hd⟩ := H
  ⟨o, noFC_mem hm (fun vs q => by rw [hd] at q; cases q) hne, hd⟩
theorem FlagsAt.seq {nx ny : Led} {a : Addr} (H : FlagsAt nx a) (h : SeqSub nx ny) : FlagsAt ny a :=
  let ⟨vs, n, hm, hi⟩ := H
  ⟨vs, n, h _ hm ⟨_, _, rfl⟩, hi⟩
theorem fr_pull {m : Str → Option Value} {x : Str} {v : Option Value} (h : m x = v) : m = fun z => if z = x then v else m z := by
  funext z
  by_cases e : z = x
  · rw [if_pos e, e, h]
  · rw [if_neg e]
theorem fr_pull2 {m : Str → Option Value} {x y : Str} {v a : Option Value} (h : m x = v) : (fun z => if z = y then a else m z) = fun z => if z = y then a else if z = x then v else m z := by
  funext z
  by_cases e : z = x
  · rw [if_pos e, e, h]
  · rw [if_neg e]
theorem Fr.pull {h₀ h : Heap} {L : Addr} {m : Str → Option Value} {x y : Str} {v a : Option Value} (F : Fr h₀ L h (fun z => if z = y then a else m z)) (e : m x = v) : Fr h₀ L h (fun z => if z = y then a else if z = x then v else m z) := by
  rw [← fr_pull2 e]; exact F
noncomputable def cF (d : List Int) (i : Nat) : Nat := (Int.fmod (Int.fdiv (d.getD i 0) 8) 2).toNat
theorem cF_lt (d : List Int) (i : Nat) : cF d i < 2 := by
  have h1 : Int.fmod (Int.fdiv (d.getD i 0) 8) 2 < 2 := Int.fmod_lt_of_pos _ (by decide)
  have h0 : 0 ≤ Int.fmod (Int.fdiv (d.getD i 0) 8) 2 := Int.fmod_nonneg_of_pos _ (by decide)
  unfold cF; omega
noncomputable def kF (d : List Int) (i : Nat) : Nat := (Int.fmod (d.getD i 0) 8).toNat
theorem kF_lt (d : List Int) (i : Nat) : kF d i < 8 := by
  have h1 : Int.fmod (d.getD i 0) 8 < 8 := Int.fmod_lt_of_pos _ (by decide)
  have h0 : 0 ≤ Int.fmod (d.getD i 0) 8 := Int.fmod_nonneg_of_pos _ (by decide)
  unfold kF; omega
variable (w : World) (p : Program) (loose : List Str) (mean : ExcName → Option Value) (mg mb : Str → Option Value)
set_option maxHeartbeats 0 in
theorem law_rest {base h₀ : Heap} {L fa : Addr} {fv : Value} {m : Str → Option Value} {s : Shared} {Q : Flow → Shared → Prop} {E : Value → Shared → Prop} {nx : Led} {la wa D ft : Addr} {d : List Int} {Lt : Fin 4 → Int} {W : Fin 4 → Str} {v3 v4 v5 v6 v7 : Option Value}
    (B : Below callerA base [] h₀) (X : (KG w.params).In h₀) (T : Top p loose mean mg mb h₀) (F : Fr h₀ L s.heap (fun z => if z = Str.ofString "lights" then some (.ref la) else if z = Str.ofString "words" then some (.ref wa) else m z)) (N : News h₀ L s.heap nx)
    (H : Lamps Lt W) (hG : NumsAt nx la Lt) (hW : StrsAt nx wa W) (hI : IntsL nx D d) (hl : d.length = 6) (hFt : FlagsAt nx ft)
    (c1 : CellAt nx (L + 1) (some (.ref D))) (c2 : CellAt nx (L + 1 + 1) (some (.ref ft))) (c3 : CellAt nx (L + 1 + 1 + 1) v3) (c4 : CellAt nx (L + 1 + 1 + 1 + 1) v4) (c5 : CellAt nx (L + 1 + 1 + 1 + 1 + 1) v5) (c6 : CellAt nx (L + 1 + 1 + 1 + 1 + 1 + 1) v6) (c7 : CellAt nx (L + 1 + 1 + 1 + 1 + 1 + 1 + 1) v7)
    (k : ∀ h tk m' ny, Fr h₀ L h m' → News h₀ L h ny → Q (.ret (.bool true)) { s with heap := h, toks := tk }) :
    wpAny (model PG w) (callerA.deeper (lawEnv L fa fv)) (execs (lawStmts.drop 6) (lawEnv L fa fv)) Q E s := by
  have ne : ∀ {a b : Nat}, a ≠ b → L + a ≠ L + b := fun h e => h (Nat.add_left_cancel e)
  refine seg6 w p loose mean mg mb B X T F N ?_
  intro h1 tk1 pa ys1 n1 F1 N1 hpa hP sub1
  refine seg7 w p loose mean mg mb (s := { s with heap := h1, toks := tk1 }) B X T F1 N1 hpa hP ?_
  intro h2 tk2 oa n2 F2 N2 hO sub2
  have s12 : ∀ q ∈ nx, q ∈ n2 := fun q hq => (sub2 q (sub1 q hq).1).1
  refine seg8 w p loose mean mg mb (s := { s with heap := h2, toks := tk2 }) B X T F2 N2 hO (hG.mono s12) (hW.mono s12) (hI.mono s12) hl (c1.mono s12) (c3.mono s12) (okAll H) ?_
  intro h3 tk3 ka ta ra row kk n3 F3 N3 hrow hrt hcR hK hT sub3
  have cell3 : ∀ {c : Addr} {v : Option Value}, CellAt nx c v → c ≠ L + 1 + 1 + 1 → CellAt n3 c v := fun ⟨o, hm, hd⟩ hne => ⟨o, sub3 _ (s12 _ hm) (fun vs e => by rw [hd] at e; cases e) hne, hd⟩
  have seq3 : SeqSub nx n3 := fun q hq ⟨xs, n, e⟩ => sub3 q (s12 q hq) (fun vs e2 => by rw [e] at e2; cases e2) fun e2 => by
    obtain ⟨o, hm, hd⟩ := c3
    have := News.agree N (a := q.1) (o := q.2) (o' := o) hq (by rw [e2]; exact hm)
    rw [this, hd] at e; cases e
  have d4 : CellAt n3 (L + 1 + 1 + 1 + 1) v4 := cell3 c4 (ne (a := 4) (b := 3) (by decide))
  have q3 := SeqSub.noFC N3 d4
  obtain ⟨tl, tok⟩ := turns_ok H hrow
  have hKk := kinds_at H hrow
  generalize hAF : allF Lt W row ordersL = AF at hK hT tl tok hKk
  refine seg10 w p loose mean mg mb (s := { s with heap := h3, toks := tk3 }) (bs := noFC (L + 1 + 1 + 1 + 1) n3) (TT := AF.2) B X T F3 N3 noFC_sub (noFC_nf _ _) noFC_off (hrt.seq q3) (hcR.noFC (ne (a := 3) (b := 4) (by decide))) (hT.seq q3) tl d4 tok ?_
  intro h4 tk4 u4 n4 w4 F4 N4 sub4 e4
  have seq4 : SeqSub nx n4 := (seq3.trans q3).trans (SeqSub.of sub4)
  have cell4 : ∀ {c : Addr} {v : Option Value}, CellAt nx c v → c ≠ L + 1 + 1 + 1 → c ≠ L + 1 + 1 + 1 + 1 → CellAt n4 c v := fun hc h3 h4 => ((cell3 hc h3).noFC h4).mono sub4
  have f5 : CellAt n4 (L + 1 + 1 + 1 + 1 + 1) v5 := cell4 c5 (ne (a := 5) (b := 3) (by decide)) (ne (a := 5) (b := 4) (by decide))
  refine seg11 w p loose mean mg mb (s := { s with heap := h4, toks := tk4 }) B X T F4 N4 (hI.seq seq4) hl (cell4 c1 (ne (a := 1) (b := 3) (by decide)) (ne (a := 1) (b := 4) (by decide))) f5 okT_all ?_
  intro h5 tk5 sn st xa xys n5 hs10 F5 N5 cS hxm hxs sub5
  have seq5 : SeqSub n4 n5 := SeqSub.trans (SeqSub.noFC N4 f5) (SeqSub.of fun q hq => (sub5 q (noFC_sub q hq) (noFC_off q hq)).1)
  have cell5 : ∀ {c : Addr} {v : Option Value}, CellAt nx c v → c ≠ L + 1 + 1 + 1 → c ≠ L + 1 + 1 + 1 + 1 → c ≠ L + 1 + 1 + 1 + 1 + 1 → CellAt n5 c v := fun hc h3 h4 h5 => ((cell4 hc h3 h4).noFC h5).mono fun q hq => (sub5 q (noFC_sub q hq) (noFC_off q hq)).1
  have g6 : CellAt n5 (L + 1 + 1 + 1 + 1 + 1 + 1) v6 := cell5 c6 (ne (a := 6) (b := 3) (by decide)) (ne (a := 6) (b := 4) (by decide)) (ne (a := 6) (b := 5) (by decide))
  have g2 : CellAt n5 (L + 1 + 1) (some (.ref ft)) := cell5 c2 (ne (a := 2) (b := 3) (by decide)) (ne (a := 2) (b := 4) (by decide)) (ne (a := 2) (b := 5) (by decide))
  have g7 : CellAt n5 (L + 1 + 1 + 1 + 1 + 1 + 1 + 1) v7 := cell5 c7 (ne (a := 7) (b := 3) (by decide)) (ne (a := 7) (b := 4) (by decide)) (ne (a := 7) (b := 5) (by decide))
  have q5 := SeqSub.noFC N5 g6
  refine seg13 w p loose mean mg mb (s := { s with heap := h5, toks := tk5 }) (bs := noFC (L + 1 + 1 + 1 + 1 + 1 + 1) n5) B X T F5 N5 noFC_sub (noFC_nf _ _) noFC_off hs10 (cS.noFC (ne (a := 5) (b := 6) (by decide))) (g2.noFC (ne (a := 2) (b := 6) (by decide))) ((hFt.seq (seq4.trans seq5)).seq q5) (q5 _ hxm ⟨_, _, rfl⟩) hxs g6 (ok13 hs10) ?_
  intro h6 tk6 n6 w6 F6 N6 sub6 e6
  have seq6 : SeqSub n5 n6 := q5.trans (SeqSub.of sub6)
  have i7 : CellAt n6 (L + 1 + 1 + 1 + 1 + 1 + 1 + 1) v7 := (g7.noFC (ne (a := 7) (b := 6) (by decide))).mono sub6
  have iS := (cS.noFC (c := L + 1 + 1 + 1 + 1 + 1 + 1) (ne (a := 5) (b := 6) (by decide))).mono sub6
  have i2 := (g2.noFC (c := L + 1 + 1 + 1 + 1 + 1 + 1) (ne (a := 2) (b := 6) (by decide))).mono sub6
  have q6 := SeqSub.noFC N6 i7
  have F6' := Mine.Fr.pull (m := fun z => if [Str.ofString "rank"].contains z then u4 z else if z = Str.ofString "turned" then some (Value.ref ta) else if z = Str.ofString "kinds" then some (Value.ref ka) else if z = Str.ofString "orders" then some (.ref oa) else if z = Str.ofString "pairs" then some (.ref pa) else if z = Str.ofString "lights" then some (.ref la) else if z = Str.ofString "words" then some (.ref wa) else m z) (x := Str.ofString "kinds") (v := some (Value.ref ka)) F6 (by
    show (if _ then _ else _) = _
    rw [if_neg (by decide), if_neg (by decide), if_pos rfl])
  have hK6 : Kinds n6 ka kk AF.1 := (((hK.seq q3).seq (SeqSub.of sub4)).seq seq5).seq seq6
  refine seg14 w p loose mean mg mb (s := { s with heap := h6, toks := tk6 }) (bs := noFC (L + 1 + 1 + 1 + 1 + 1 + 1 + 1) n6) B X T F6' N6 noFC_sub (noFC_nf _ _) noFC_off hs10 (iS.noFC (ne (a := 5) (b := 7) (by decide))) (i2.noFC (ne (a := 2) (b := 7) (by decide))) (((hFt.seq (seq4.trans seq5)).seq seq6).seq q6) (q6 _ (seq6 _ hxm ⟨_, _, rfl⟩) ⟨_, _, rfl⟩) hxs (hK6.seq q6) i7 (ok14 hs10) (counts_ok hs10 hKk) (keys_nd hs10) ?_
  exact fun h tk m' ny F N => k h tk m' ny F N
end Mine
end
section
open PySem PySem.W PyProof.Rows PyProof.Rows.LCg
namespace Mine
set_option maxRecDepth 100000
set_option maxHeartbeats 2000000
variable (w : World) (p : Program) (loose : List Str) (mean : ExcName → Option Value) (mg mb : Str → Option Value)
local macro_rules | `(tactic| k_mem) => `(tactic| first | assumption | exact List.Mem.head _ | (refine List.mem_cons_of_mem _ ?_; k_mem) | (refine mem_grow (by assumption) ?_; k_mem))
local macro_rules | `(tactic| ktd_sub) => `(tactic| first | assumption | exact fun _ h => h | (refine sub_cons ?_; ktd_sub) | (refine sub_grow (by assumption) ?_; ktd_sub))
local macro_rules | `(tactic| ktn_ord) => `(tactic| first | assumption | exact Grow.refl _ | (refine Grow.cons ?_ (by ktn_lt); ktn_ord) | (refine Grow.trans ?_ (by assumption); ktn_ord))
local macro_rules | `(tactic| ktr_rel) => `(tactic| first | assumption | exact TrIn.leaf (by k_mem) | exact TrIn.node (by k_mem) (by ktr_rel) (by ktr_rel) | exact TrIn.mono (by assumption) (by ktd_sub))
local macro_rules | `(tactic| walk_at "compareOp Eq ref ref") => `(tactic| (k_here; (with_reducible show wpAny _ _ (compareOp CmpOp.Eq (Value.ref _) (Value.ref _)) _ _ _); k_dflt (refine' eq_leaf ?k1 ?k2 ?k3 ?k4 ?k5 ?k6 ?_; (case k1 => k_asm); (case k2 => assumption); (case k3 => assumption); (case k4 => ktd_sub); (case k5 => k_mem); (case k6 => ktr_units); k_whole); (try dsimp only [Tr.isLeaf])))
local macro_rules | `(tactic| walk_at "subscriptTail") => `(tactic| (k_here; (with_reducible show wpAny _ _ (subscriptTail _ _ (Value.ref _) (Value.int ((Fin.val _ : Nat) : Int) _)) _ _ _); k_dflt (refine' str_item ?k1 ?k2 ?k3 ?_ ?k4 ?k5; (case k1 => k_asm); (case k2 => assumption); (case k3 => ktd_sub); (case k4 => with_unfolding_all rfl); (case k5 => (intro _; with_unfolding_all rfl)); k_whole); intro _))
local macro_rules | `(tactic| walk_at "subscriptTail") => `(tactic| (k_here; (with_reducible show wpAny _ _ (subscriptTail _ _ (Value.ref _) (Value.int ((Fin.val _ : Nat) : Int) _)) _ _ _); k_dflt (refine' num_item ?k1 ?k2 ?k3 ?_ ?k4 ?k5; (case k1 => k_asm); (case k2 => assumption); (case k3 => ktd_sub); (case k4 => with_unfolding_all rfl); (case k5 => (intro _; with_unfolding_all rfl)); k_whole); intro _))
local macro_rules | `(tactic| walk_at "exec For") => `(tactic| (k_here; refine wpAny_For ?forE (by intro _; rfl)))
local macro_rules | `(tactic| walk_at "exec For Name Name") => `(tactic| (k_here; refine wpAny_For ?forE (by intro _; rfl)))
local macro_rules | `(tactic| walk_at "exec For Name Call") => `(tactic| (k_here; refine wpAny_For ?forE (by intro _; rfl)))
local macro_rules | `(tactic| walk_at "exec For Tuple Call") => `(tactic| (k_here; refine wpAny_For ?forE (by intro _; rfl)))
local macro_rules | `(tactic| walk_at "exec For Name Name cons nil") => `(tactic| (k_here; refine wpAny_For ?forE (by intro _; rfl)))
local macro_rules | `(tactic| walk_at "exec For Name Call cons nil") => `(tactic| (k_here; refine wpAny_For ?forE (by intro _; rfl)))
local macro_rules | `(tactic| walk_at "exec For Tuple Call cons nil") => `(tactic| (k_here; refine wpAny_For ?forE (by intro _; rfl)))
local macro_rules | `(tactic| walk_at "exec For Name Subscript") => `(tactic| (k_here; refine wpAny_For ?forE (by intro _; rfl)))
local macro_rules | `(tactic| walk_at "exec For Name Subscript cons nil") => `(tactic| (k_here; refine wpAny_For ?forE (by intro _; rfl)))
local macro_rules | `(tactic| walk_at "exec Assign cons ListComp") => `(tactic| (k_here; k_dflt (refine' assignComp ?k1 ?k2 ?k3 ?k4 ?_ ?k5; (case k1 => with_unfolding_all rfl); (case k2 => rfl); (case k3 => rfl); (case k4 => decide); (case k5 => (intro _; rfl)))))
local macro_rules | `(tactic| walk_at "eval ListComp") => `(tactic| (k_here; k_dflt (refine' evalComp ?k2 ?k3 ?k4 ?_ ?k5; (case k2 => rfl); (case k3 => rfl); (case k4 => decide); (case k5 => (intro _; rfl)))))
local macro_rules | `(tactic| walk_at "binaryOp Mult ref int") => `(tactic| (k_here; (with_reducible show wpAny _ _ (binaryOp Operator.Mult (Value.ref _) (Value.int 16 _)) _ _ _); k_dflt (refine' mul16 ?k1 ?k2 ?k3 ?_; (case k1 => k_asm); (case k2 => k_asm); (case k3 => k_mem)); intro h6 D6 o6 F6 N6 l6 I6))
local macro_rules | `(tactic| walk_at "call ref") => `(tactic| (k_here; refine Held.out ?_))

theorem fin.tw10992798620532753227 : True := ⟨⟩
theorem fin.tw17904191871320151904 : True := ⟨⟩
theorem fin.tw10567028658651823492 : True := ⟨⟩
theorem fin.tw2824846461999071874 : True := ⟨⟩
theorem fin.tw16502652511500755 : True := ⟨⟩
theorem fin.tw662515614575290659 : True := ⟨⟩
theorem fin.tw13294311002278339166 : True := ⟨⟩
theorem fin.tw6381419901266130222 : True := ⟨⟩
theorem fin.tw4171678462856256454 : True := ⟨⟩
theorem fin.tw4768634762848416435 : True := ⟨⟩
theorem fin.tw12237877928780879103 : True := ⟨⟩
theorem fin.tw5293390819737331289 : True := ⟨⟩
theorem fin.tw6956187926921108005 : True := ⟨⟩
theorem fin.tw11298980531735778240 : True := ⟨⟩
theorem fin.tw13929302177132474383 : True := ⟨⟩
theorem fin.tw12180539936304867106 : True := ⟨⟩
theorem fin.tw10147658903529517814 : True := ⟨⟩
theorem fin.tw12711679700452659978 : True := ⟨⟩
theorem fin.tw3683778510129048087 : True := ⟨⟩
theorem fin.tw12212933522069011988 : True := ⟨⟩
theorem fin.tw4950403968356008110 : True := ⟨⟩
theorem fin.tw10874316729293906858 : True := ⟨⟩
theorem fin.tw12118000046449163591 : True := ⟨⟩
theorem fin.tw14574801432027512755 : True := ⟨⟩
theorem fin.tw1625080806587739848 : True := ⟨⟩
theorem fin.tw999798209818781672 : True := ⟨⟩
theorem fin.tw3810338749695602999 : True := ⟨⟩
theorem fin.tw10895054467252067526 : True := ⟨⟩
theorem fin.tw8352470293576582857 : True := ⟨⟩
theorem fin.tw16401934584784274106 : True := ⟨⟩
theorem fin.tw15688172546075569117 : True := ⟨⟩
theorem fin.tw17656766251404061198 : True := ⟨⟩
theorem fin.tw13516622038369049944 : True := ⟨⟩
theorem fin.tw1963134401048803436 : True := ⟨⟩
theorem fin.tw16196181902256332553 : True := ⟨⟩
theorem fin.tw7995362448368537469 : True := ⟨⟩
theorem fin.tw10807920368746810246 : True := ⟨⟩
theorem fin.tw1976505206021243879 : True := ⟨⟩
theorem fin.tw5897612983314593646 : True := ⟨⟩
theorem fin.tw13790858721211988464 : True := ⟨⟩
theorem fin.tw16115155874713506467 : True := ⟨⟩
theorem fin.tw8656503046869711584 : True := ⟨⟩
theorem fin.tw12649782002744950493 : True := ⟨⟩
theorem fin.tw17197158672614542318 : True := ⟨⟩
theorem fin.tw6207176494656529804 : True := ⟨⟩
theorem fin.tw6081921254191324426 : True := ⟨⟩
theorem fin.tw17717364068325071970 : True := ⟨⟩
theorem fin.tw15205425988870721313 : True := ⟨⟩
theorem fin.tw13870153662132920491 : True := ⟨⟩
theorem fin.tw3199103547748192838 : True := ⟨⟩
theorem fin.tw14517287926952318261 : True := ⟨⟩
theorem fin.tw3173534031939492945 : True := ⟨⟩
theorem fin.tw7000300075881102575 : True := ⟨⟩
theorem fin.tw2656788454239962097 : True := ⟨⟩
theorem fin.tw14497727239971306367 : True := ⟨⟩
theorem fin.tw3975253019698251321 : True := ⟨⟩
theorem fin.tw8383268338085895543 : True := ⟨⟩
theorem fin.tw16958243865122950064 : True := ⟨⟩
theorem fin.tw3343445320678177929 : True := ⟨⟩
theorem fin.tw1666694428299288667 : True := ⟨⟩
theorem fin.tw744865244796547220 : True := ⟨⟩
theorem fin.tw15583698165555649274 : True := ⟨⟩
theorem fin.tw17067295170570645592 : True := ⟨⟩
theorem fin.tw4878226113927451544 : True := ⟨⟩
theorem fin.tw8643116662766533202 : True := ⟨⟩
theorem fin.tw10383673109516279431 : True := ⟨⟩
theorem fin.tw14210890002308233579 : True := ⟨⟩
theorem fin.tw757079261281740938 : True := ⟨⟩
theorem fin.tw9113340658982188547 : True := ⟨⟩
theorem fin.tw1982079694162106894 : True := ⟨⟩
theorem fin.tw8025084765662995669 : True := ⟨⟩
theorem fin.tw6068950659093879613 : True := ⟨⟩
theorem fin.tw13360279666012451719 : True := ⟨⟩
theorem fin.tw807531904560671035 : True := ⟨⟩
theorem fin.tw17743408960866722510 : True := ⟨⟩
theorem fin.tw12464766053444552404 : True := ⟨⟩
theorem fin.tw17449020081951674710 : True := ⟨⟩
theorem fin.tw1613116972386908190 : True := ⟨⟩
theorem fin.tw5098551885099359569 : True := ⟨⟩
theorem fin.tw17861066769153400444 : True := ⟨⟩
theorem fin.tw2462912638960843985 : True := ⟨⟩
theorem fin.tw6127190174262240918 : True := ⟨⟩
theorem fin.tw10875463905939285979 : True := ⟨⟩
theorem fin.tw8919302590299486024 : True := ⟨⟩
theorem fin.tw7613857476909055813 : True := ⟨⟩
theorem fin.tw6968583824967984638 : True := ⟨⟩
theorem fin.tw12284014389350100970 : True := ⟨⟩
theorem fin.tw3599858809825778643 : True := ⟨⟩
theorem fin.tw5901363791540438844 : True := ⟨⟩
theorem fin.tw9735714214384596553 : True := ⟨⟩
theorem fin.tw5486226609284752418 : True := ⟨⟩
theorem fin.tw12696600883282566439 : True := ⟨⟩
theorem fin.tw18105285910621931680 : True := ⟨⟩
theorem fin.tw15533503492667675913 : True := ⟨⟩
theorem fin.tw3263211703599914710 : True := ⟨⟩
theorem fin.tw4588413851689716618 : True := ⟨⟩
theorem fin.tw6454446336052903152 : True := ⟨⟩
theorem fin.tw1887099378405440850 : True := ⟨⟩
theorem fin.tw10852849658779182186 : True := ⟨⟩
theorem fin.tw14431720936831517352 : True := ⟨⟩
theorem fin.tw4868334931027891882 : True := ⟨⟩
theorem fin.tw891787732878383699 : True := ⟨⟩
theorem fin.tw11336253725339858928 : True := ⟨⟩
theorem fin.tw15832999045522443761 : True := ⟨⟩
theorem fin.tw544173102793226557 : True := ⟨⟩
theorem fin.tw16275787546110486726 : True := ⟨⟩
theorem fin.tw6650461044873433052 : True := ⟨⟩
theorem fin.tw16656299143469825513 : True := ⟨⟩
theorem fin.tw3404873503106905745 : True := ⟨⟩
theorem fin.tw10242451874928486539 : True := ⟨⟩
theorem fin.tw13467322939085005891 : True := ⟨⟩
theorem fin.tw251868834278440796 : True := ⟨⟩
theorem fin.tw17801579834951734752 : True := ⟨⟩
theorem fin.tw9913140749668108558 : True := ⟨⟩
theorem fin.tw11615019562542576733 : True := ⟨⟩
theorem fin.tw12567809125941998234 : True := ⟨⟩
theorem fin.tw8272817396058243321 : True := ⟨⟩
theorem fin.tw8399098705505230059 : True := ⟨⟩
theorem fin.tw2305881189932309285 : True := ⟨⟩
theorem fin.tw9001875181463519149 : True := ⟨⟩
theorem fin.tw895571856199123645 : True := ⟨⟩
theorem fin.tw4218790737952374519 : True := ⟨⟩
theorem fin.tw17204297501091165112 : True := ⟨⟩
theorem fin.tw799341379326975648 : True := ⟨⟩
theorem fin.tw14347400895652799225 : True := ⟨⟩
theorem fin.tw1921391257341544841 : True := ⟨⟩
theorem fin.tw3459265974087741279 : True := ⟨⟩
theorem fin.tw670465573061467203 : True := ⟨⟩
theorem fin.tw10936777179133785780 : True := ⟨⟩
theorem fin.tw4788878847521262168 : True := ⟨⟩
theorem fin.tw1014637456484912126 : True := ⟨⟩
theorem fin.tw14245171486683049214 : True := ⟨⟩
theorem fin.tw7976502392129159676 : True := ⟨⟩
theorem fin.tw13724452099449386491 : True := ⟨⟩
theorem fin.tw8577089030196625639 : True := ⟨⟩
theorem fin.tw15989303212955285315 : True := ⟨⟩
theorem fin.tw8590288500278120515 : True := ⟨⟩
theorem fin.tw12829507556594621215 : True := ⟨⟩
theorem fin.tw4326780796455107134 : True := ⟨⟩
theorem fin.tw5776136370200156792 : True := ⟨⟩
theorem fin.tw18195182924450695511 : True := ⟨⟩
theorem fin.tw14856888987745899463 : True := ⟨⟩
theorem fin.tw1819255440876223710 : True := ⟨⟩
theorem fin.tw12876116671307685997 : True := ⟨⟩
theorem fin.tw2512408688544751470 : True := ⟨⟩
theorem fin.tw12869217540446652890 : True := ⟨⟩
theorem fin.tw428092273266315144 : True := ⟨⟩
theorem fin.tw12550770813317053977 : True := ⟨⟩
theorem fin.tw6766378078585498003 : True := ⟨⟩
theorem fin.tw6498334528663615478 : True := ⟨⟩
theorem fin.tw3810570522144960214 : True := ⟨⟩
theorem fin.tw4170516301191304579 : True := ⟨⟩
theorem fin.tw14139026862911339306 : True := ⟨⟩
theorem fin.tw8947099994592609211 : True := ⟨⟩
theorem fin.tw15201286185872193147 : True := ⟨⟩
theorem fin.tw846297522682114974 : True := ⟨⟩
theorem fin.tw7613945582906998725 : True := ⟨⟩
theorem fin.tw12494888245299231016 : True := ⟨⟩
theorem fin.tw9722632081671974098 : True := ⟨⟩
theorem fin.tw4640724917100965312 : True := ⟨⟩
theorem fin.tw6567050819087999508 : True := ⟨⟩
theorem fin.tw4769821431679368130 : True := ⟨⟩
theorem fin.tw1252854909445205041 : True := ⟨⟩
theorem fin.tw11192643925408225281 : True := ⟨⟩
theorem fin.tw14560573928864763818 : True := ⟨⟩
theorem fin.tw2367325634123391141 : True := ⟨⟩
theorem fin.tw17662344363894024548 : True := ⟨⟩
theorem fin.tw16934629359412608497 : True := ⟨⟩
theorem fin.tw10925335251469727208 : True := ⟨⟩
theorem fin.tw12876064707754696378 : True := ⟨⟩
theorem fin.tw16285329926789087883 : True := ⟨⟩
theorem fin.tw15373703851562958014 : True := ⟨⟩
theorem fin.tw5805905742469029177 : True := ⟨⟩
theorem fin.tw18105942590061964161 : True := ⟨⟩
theorem fin.tw216489041496292469 : True := ⟨⟩
theorem fin.tw6634307039904815820 : True := ⟨⟩
theorem fin.tw16103849850496634939 : True := ⟨⟩
theorem fin.tw12355744275394475900 : True := ⟨⟩
theorem fin.tw4209717502836232480 : True := ⟨⟩
theorem fin.tw14578271805448956485 : True := ⟨⟩
theorem fin.tw3125960719983571848 : True := ⟨⟩
theorem fin.tw18230178534529381785 : True := ⟨⟩
theorem fin.tw4570111826955561243 : True := ⟨⟩
theorem fin.tw2910385600587045654 : True := ⟨⟩
theorem fin.tw17963964198891936676 : True := ⟨⟩
theorem fin.tw12962497063298326498 : True := ⟨⟩
theorem fin.tw12105171945263650130 : True := ⟨⟩
theorem fin.tw17362494058136835672 : True := ⟨⟩
theorem fin.tw452842511749404161 : True := ⟨⟩
theorem fin.tw9746214513668125432 : True := ⟨⟩
theorem fin.tw1535588207084551279 : True := ⟨⟩
theorem fin.tw10599938827571368224 : True := ⟨⟩
theorem fin.tw16530489862217454893 : True := ⟨⟩
theorem fin.tw9363291351745731410 : True := ⟨⟩
theorem fin.tw876206183137641144 : True := ⟨⟩
theorem fin.tw6667815254911646788 : True := ⟨⟩
theorem fin.tw1397303283331804279 : True := ⟨⟩
theorem fin.tw12135189313929291683 : True := ⟨⟩
theorem fin.tw13925877587632400325 : True := ⟨⟩
theorem fin.tw10196768644732416780 : True := ⟨⟩
theorem fin.tw14109310954907245088 : True := ⟨⟩
theorem fin.tw7522001649326652513 : True := ⟨⟩
theorem fin.tw6712194924023145494 : True := ⟨⟩
theorem fin.tw16109372258727991565 : True := ⟨⟩
theorem fin.tw5102460946473063141 : True := ⟨⟩
theorem fin.tw14814673180317915700 : True := ⟨⟩
theorem fin.tw4598667867955821814 : True := ⟨⟩
theorem fin.tw12977279227502587607 : True := ⟨⟩
theorem fin.tw2304379251839397102 : True := ⟨⟩
theorem fin.tw18373065035072037172 : True := ⟨⟩
theorem fin.tw17896612028031085017 : True := ⟨⟩
theorem fin.tw16229209127682248589 : True := ⟨⟩
theorem fin.tw4719063310657182621 : True := ⟨⟩
theorem fin.tw16252508478716706905 : True := ⟨⟩
theorem fin.tw6455845175183424153 : True := ⟨⟩
theorem fin.tw6515953530934532768 : True := ⟨⟩
theorem fin.tw11587955951900863698 : True := ⟨⟩
theorem fin.tw16237762584071213788 : True := ⟨⟩
theorem fin.tw11151619158091525091 : True := ⟨⟩
theorem fin.tw15309079848183770524 : True := ⟨⟩
theorem fin.tw3004984022683251337 : True := ⟨⟩
theorem fin.tw11273041486466551846 : True := ⟨⟩
theorem fin.tw5073790198343104882 : True := ⟨⟩
theorem fin.tw17123178472405020103 : True := ⟨⟩
theorem fin.tw7803649310394182010 : True := ⟨⟩
theorem fin.tw2608567993692976607 : True := ⟨⟩
theorem fin.tw17784850919643140607 : True := ⟨⟩
theorem fin.tw10391319463526535247 : True := ⟨⟩
theorem fin.tw2976117146107443816 : True := ⟨⟩
theorem fin.tw6766580051018981234 : True := ⟨⟩
theorem fin.tw9544026089342320630 : True := ⟨⟩
theorem fin.tw4040260094072895976 : True := ⟨⟩
theorem fin.tw7282745182861764756 : True := ⟨⟩
theorem fin.tw8018989035897545986 : True := ⟨⟩
theorem fin.tw111200028466390044 : True := ⟨⟩
theorem fin.tw8330952907988395303 : True := ⟨⟩
theorem fin.tw1422313219903470601 : True := ⟨⟩
theorem fin.tw5320702786494000081 : True := ⟨⟩
theorem fin.tw17869975865946814897 : True := ⟨⟩
theorem fin.tw13066358836101814915 : True := ⟨⟩
theorem fin.tw7451905468542833597 : True := ⟨⟩
theorem fin.tw11293339424137598113 : True := ⟨⟩
theorem fin.tw14568449535678555946 : True := ⟨⟩
theorem fin.tw7779959011674639804 : True := ⟨⟩
theorem fin.tw10829458402184033698 : True := ⟨⟩
theorem fin.tw7845872953664198349 : True := ⟨⟩
theorem fin.tw17974384156558142227 : True := ⟨⟩
theorem fin.tw6531376189190222733 : True := ⟨⟩
theorem fin.tw6718411051458867188 : True := ⟨⟩
theorem fin.tw9806666330580929782 : True := ⟨⟩
theorem fin.tw17041991840579044601 : True := ⟨⟩
theorem fin.tw11953781441336167498 : True := ⟨⟩
theorem fin.tw2086631506510373192 : True := ⟨⟩
theorem fin.tw16256441300576474876 : True := ⟨⟩
theorem fin.tw7684487725183542926 : True := ⟨⟩
theorem fin.tw14166196953294261902 : True := ⟨⟩
theorem fin.tw2236755162388048479 : True := ⟨⟩
theorem fin.tw11039862389202566683 : True := ⟨⟩
theorem fin.tw18387650150990424433 : True := ⟨⟩
theorem fin.tw17260493314774615805 : True := ⟨⟩
theorem fin.tw7249652514872940865 : True := ⟨⟩
theorem fin.tw9725021084223525626 : True := ⟨⟩
theorem fin.tw2537931557510868981 : True := ⟨⟩
theorem fin.tw7890596953891613788 : True := ⟨⟩
theorem fin.tw4162185377826839926 : True := ⟨⟩
theorem fin.tw17719728818120068181 : True := ⟨⟩
theorem fin.tw1635022588487117616 : True := ⟨⟩
theorem fin.tw17130245016438642246 : True := ⟨⟩
theorem fin.tw16307707646766795581 : True := ⟨⟩
theorem fin.tw15399907426655090358 : True := ⟨⟩
theorem fin.tw7470013935711676318 : True := ⟨⟩
theorem fin.tw10511823565363050587 : True := ⟨⟩
theorem fin.tw8668149382578428375 : True := ⟨⟩
theorem fin.tw15741700470354863883 : True := ⟨⟩
theorem fin.tw8289400949097046189 : True := ⟨⟩
theorem fin.tw5796354222422608987 : True := ⟨⟩
theorem fin.tw6566618420281934 : True := ⟨⟩
theorem fin.tw3222278782482380304 : True := ⟨⟩
theorem fin.tw11575174756993882273 : True := ⟨⟩
theorem fin.tw5402249366112354979 : True := ⟨⟩
theorem fin.tw17164383140453370395 : True := ⟨⟩
theorem fin.tw3268265519342814607 : True := ⟨⟩
theorem fin.tw17347454772498655404 : True := ⟨⟩
theorem fin.tw14679806638718605512 : True := ⟨⟩
theorem fin.tw16205109500356779066 : True := ⟨⟩
theorem fin.tw13898374239775968522 : True := ⟨⟩
theorem fin.tw3974152918291533672 : True := ⟨⟩
theorem fin.tw4754365596532378047 : True := ⟨⟩
theorem fin.tw6232080684201472732 : True := ⟨⟩
theorem fin.tw16570786720924097770 : True := ⟨⟩
theorem fin.tw12291753297600562012 : True := ⟨⟩
theorem fin.tw10671828304227620169 : True := ⟨⟩
theorem fin.tw1560641971993327685 : True := ⟨⟩
theorem fin.tw11897717083992391400 : True := ⟨⟩
theorem fin.tw3998398428148030388 : True := ⟨⟩
theorem fin.tw3456623496861543869 : True := ⟨⟩
theorem fin.tw3762306804915933987 : True := ⟨⟩
theorem fin.tw18082680734076937219 : True := ⟨⟩
theorem fin.tw11040825799340251285 : True := ⟨⟩
theorem fin.tw13815853411582834384 : True := ⟨⟩
theorem fin.tw6435670951450185984 : True := ⟨⟩
theorem fin.tw4265850918314828415 : True := ⟨⟩
theorem fin.tw5071919506433949198 : True := ⟨⟩
theorem fin.tw9260378047223084069 : True := ⟨⟩
theorem fin.tw6449190631224713292 : True := ⟨⟩
theorem fin.tw3112429581023547943 : True := ⟨⟩
theorem fin.tw2617349483901765261 : True := ⟨⟩
theorem fin.tw5647864574477489665 : True := ⟨⟩
theorem fin.tw333583748066197110 : True := ⟨⟩
theorem fin.tw18255404467826089762 : True := ⟨⟩
theorem fin.tw17637551073024348614 : True := ⟨⟩
theorem fin.tw14333544728242365436 : True := ⟨⟩
theorem fin.tw17971676594858020690 : True := ⟨⟩
theorem fin.tw10751089155417173751 : True := ⟨⟩
theorem fin.tw17430205856086898164 : True := ⟨⟩
theorem fin.tw8569027658895312972 : True := ⟨⟩
theorem fin.tw13021059552284102479 : True := ⟨⟩
theorem fin.tw888132650186811988 : True := ⟨⟩
theorem fin.tw828056024939588000 : True := ⟨⟩
theorem fin.tw3598329298470268980 : True := ⟨⟩
theorem fin.tw14728723275428758510 : True := ⟨⟩
theorem fin.tw11061592194353771069 : True := ⟨⟩
theorem fin.tw3028926083550364057 : True := ⟨⟩
theorem fin.tw5115476493328737885 : True := ⟨⟩
theorem fin.tw803859442106103436 : True := ⟨⟩
theorem fin.tw1080700006314346644 : True := ⟨⟩
theorem fin.tw7661832156752021035 : True := ⟨⟩
theorem fin.tw14075178694198228753 : True := ⟨⟩
theorem fin.tw14838103818555229697 : True := ⟨⟩
theorem fin.tw10907391636593693970 : True := ⟨⟩
theorem fin.tw4684940682943077961 : True := ⟨⟩
theorem fin.tw1951045429614898598 : True := ⟨⟩
theorem fin.tw12221555665107904926 : True := ⟨⟩
theorem fin.tw6058378993454661626 : True := ⟨⟩
theorem fin.tw4443050520305737185 : True := ⟨⟩
theorem fin.tw2775396313129547428 : True := ⟨⟩
theorem fin.tw4312942655851389009 : True := ⟨⟩
theorem fin.tw9997704412844104603 : True := ⟨⟩
theorem fin.tw7830629276484211593 : True := ⟨⟩
theorem fin.tw982560976839675504 : True := ⟨⟩
theorem fin.tw12833947400113492166 : True := ⟨⟩
theorem fin.tw14345562132136545540 : True := ⟨⟩
theorem fin.tw7716820226725407877 : True := ⟨⟩
theorem fin.tw5962627729488381771 : True := ⟨⟩
theorem fin.tw7930893340574950883 : True := ⟨⟩
theorem fin.tw7929640520542984453 : True := ⟨⟩
theorem fin.tw884059145510264010 : True := ⟨⟩
theorem fin.tw7547296005191728479 : True := ⟨⟩
theorem fin.tw10699407837109476802 : True := ⟨⟩
theorem fin.tw9247658263007524724 : True := ⟨⟩
theorem fin.tw3506512066687448480 : True := ⟨⟩
theorem fin.tw9610726530385051774 : True := ⟨⟩
theorem fin.tw6388184931127306564 : True := ⟨⟩
theorem fin.tw8281523328739849912 : True := ⟨⟩
theorem fin.tw16269368082590959529 : True := ⟨⟩
theorem fin.tw14793013804824869981 : True := ⟨⟩
theorem fin.tw15459455144867644326 : True := ⟨⟩
theorem fin.tw13814004702073501669 : True := ⟨⟩
theorem fin.tw3029852977388229646 : True := ⟨⟩
theorem fin.tw12347537446847802165 : True := ⟨⟩
theorem fin.tw13158425560686309300 : True := ⟨⟩
theorem fin.tw2316539691658765527 : True := ⟨⟩
theorem fin.tw13700621096757390547 : True := ⟨⟩
theorem fin.tw2671655128345628175 : True := ⟨⟩
theorem fin.tw14279960228734115912 : True := ⟨⟩
theorem fin.tw9221430085559818832 : True := ⟨⟩
theorem fin.tw4613182775407389354 : True := ⟨⟩
theorem fin.tw1088692219920020602 : True := ⟨⟩
theorem fin.tw15942684835789789487 : True := ⟨⟩
theorem fin.tw2051409578822353534 : True := ⟨⟩
theorem fin.tw15144710454662140524 : True := ⟨⟩
theorem fin.tw4424551920762525699 : True := ⟨⟩
theorem fin.tw500868675978126160 : True := ⟨⟩
theorem fin.tw17512474026176034454 : True := ⟨⟩
theorem fin.tw14541005305830221311 : True := ⟨⟩
theorem fin.tw5266742908149448401 : True := ⟨⟩
theorem fin.tw6577878126316647860 : True := ⟨⟩
theorem fin.tw9917203430921899224 : True := ⟨⟩
theorem fin.tw6846200578177281708 : True := ⟨⟩
theorem fin.tw12932903420030652473 : True := ⟨⟩
theorem fin.tw5227809002895711924 : True := ⟨⟩
theorem fin.tw17186005699333237546 : True := ⟨⟩
theorem fin.tw10234915967203826555 : True := ⟨⟩
theorem fin.tw10939691994893167182 : True := ⟨⟩
theorem fin.tw6878024787957991413 : True := ⟨⟩
theorem fin.tw10007411396671696613 : True := ⟨⟩
theorem fin.tw11607805686811502034 : True := ⟨⟩
theorem fin.tw12356021495744459628 : True := ⟨⟩
theorem fin.tw14786503066443513839 : True := ⟨⟩
theorem fin.tw5196160543931855155 : True := ⟨⟩
theorem fin.tw10782327089294195420 : True := ⟨⟩
theorem fin.tw1450881378762983150 : True := ⟨⟩
theorem fin.tw18164189302063226315 : True := ⟨⟩
theorem fin.tw11936995450923721628 : True := ⟨⟩
theorem fin.tw1035503724928835527 : True := ⟨⟩
theorem fin.tw7070210977369740762 : True := ⟨⟩
theorem fin.tw8331973007464152698 : True := ⟨⟩
theorem fin.tw4928979718650693569 : True := ⟨⟩
theorem fin.tw2789213428527533208 : True := ⟨⟩
theorem fin.tw9839346839192117915 : True := ⟨⟩
theorem fin.tw6341822008880759003 : True := ⟨⟩
theorem fin.tw10696652717036330658 : True := ⟨⟩
theorem fin.tw12809788781938459499 : True := ⟨⟩
theorem fin.tw15234240111613058569 : True := ⟨⟩
theorem fin.tw6289197191216398940 : True := ⟨⟩
theorem fin.tw14855157385224911753 : True := ⟨⟩
theorem fin.tw17495881415371897999 : True := ⟨⟩
theorem fin.tw11227884535216515135 : True := ⟨⟩
theorem fin.tw380778119907437045 : True := ⟨⟩
theorem fin.tw4329306826757983850 : True := ⟨⟩
theorem fin.tw15523922138108190246 : True := ⟨⟩
theorem fin.tw7468727024169554154 : True := ⟨⟩
theorem fin.tw8614737586434602478 : True := ⟨⟩
theorem fin.tw4100293265295638779 : True := ⟨⟩
theorem fin.tw15094949803261831281 : True := ⟨⟩
theorem fin.tw17701328389417463424 : True := ⟨⟩
theorem fin.tw3767311804947220896 : True := ⟨⟩
theorem fin.tw17108682257543074861 : True := ⟨⟩
theorem fin.tw7830602891274557492 : True := ⟨⟩
theorem fin.tw11466478281803324712 : True := ⟨⟩
theorem fin.tw8999559765510592377 : True := ⟨⟩
theorem fin.tw14134379338385194387 : True := ⟨⟩
theorem fin.tw16488607150827929282 : True := ⟨⟩
theorem fin.tw7822013112032934038 : True := ⟨⟩
theorem fin.tw7278507554335971580 : True := ⟨⟩
theorem fin.tw9757074474933493440 : True := ⟨⟩
theorem fin.tw13295704053362595847 : True := ⟨⟩
theorem fin.tw4180101509539245183 : True := ⟨⟩
theorem fin.tw9962418760945406050 : True := ⟨⟩
theorem fin.tw12718612220689870738 : True := ⟨⟩
theorem fin.tw9357874355931990178 : True := ⟨⟩
theorem fin.tw3788772014149755174 : True := ⟨⟩
theorem fin.tw4013537778516871869 : True := ⟨⟩
theorem fin.tw5634151482396758240 : True := ⟨⟩
theorem fin.tw8472697214298850164 : True := ⟨⟩
theorem fin.tw17570509445847580414 : True := ⟨⟩
theorem fin.tw3794220679723124481 : True := ⟨⟩
theorem fin.tw6385529401280152062 : True := ⟨⟩
theorem fin.tw9524518906428321964 : True := ⟨⟩
theorem fin.tw5250828734511838712 : True := ⟨⟩
theorem fin.tw11414119711712004833 : True := ⟨⟩
theorem fin.tw9218923581257491847 : True := ⟨⟩
theorem fin.tw7773504467932542270 : True := ⟨⟩
theorem fin.tw2565351972500760935 : True := ⟨⟩
theorem fin.tw8896352889252549814 : True := ⟨⟩
theorem fin.tw3211687289105081006 : True := ⟨⟩
theorem fin.tw9712136527352899355 : True := ⟨⟩
theorem fin.tw10279692637995926009 : True := ⟨⟩
theorem fin.tw2377308710366028375 : True := ⟨⟩
theorem fin.tw8776770756819070316 : True := ⟨⟩
theorem fin.tw15225332579556243176 : True := ⟨⟩
theorem fin.tw4723787954990577340 : True := ⟨⟩
theorem fin.tw17570709534508481193 : True := ⟨⟩
theorem fin.tw16867096813858660809 : True := ⟨⟩
theorem fin.tw17933470926392208243 : True := ⟨⟩
theorem fin.tw17416127249078093707 : True := ⟨⟩
theorem fin.tw12996517811204074000 : True := ⟨⟩
theorem fin.tw4879674094562380441 : True := ⟨⟩
theorem fin.tw11414674201277728305 : True := ⟨⟩
theorem fin.tw13162651487661262736 : True := ⟨⟩
theorem fin.tw15815952407149668801 : True := ⟨⟩
theorem fin.tw2415902012162501839 : True := ⟨⟩
theorem fin.tw15344004072050561172 : True := ⟨⟩
theorem fin.tw16510490156224867327 : True := ⟨⟩
theorem fin.tw10580198807604790814 : True := ⟨⟩
theorem fin.tw17628183408451194143 : True := ⟨⟩
theorem fin.tw6707113841082798463 : True := ⟨⟩
theorem fin.tw9746901515087519452 : True := ⟨⟩
theorem fin.tw13177410634674063896 : True := ⟨⟩
theorem fin.tw480829909506669009 : True := ⟨⟩
theorem fin.tw16906536467411238026 : True := ⟨⟩
theorem fin.tw3314143786362844604 : True := ⟨⟩
theorem fin.tw8408514402456403777 : True := ⟨⟩
theorem fin.tw12409915417874342407 : True := ⟨⟩
theorem fin.tw12740692763255036000 : True := ⟨⟩
theorem fin.tw3105451386036433885 : True := ⟨⟩
theorem fin.tw13383306551100868464 : True := ⟨⟩
theorem fin.tw12448240930570709186 : True := ⟨⟩
theorem fin.tw10329872625359487480 : True := ⟨⟩
theorem fin.tw16540275574145912595 : True := ⟨⟩
theorem fin.tw13337293482115323266 : True := ⟨⟩
theorem fin.tw11154830654865731599 : True := ⟨⟩
theorem fin.tw612862322836996645 : True := ⟨⟩
theorem fin.tw15566928917628492161 : True := ⟨⟩
theorem fin.tw8416529770105884409 : True := ⟨⟩
theorem fin.tw15149952090015108872 : True := ⟨⟩
theorem fin.tw4759752924163587094 : True := ⟨⟩
theorem fin.tw17821466097196317003 : True := ⟨⟩
theorem fin.tw16496857829328116044 : True := ⟨⟩
theorem fin.tw8269367382603917829 : True := ⟨⟩
theorem fin.tw7055459427971326715 : True := ⟨⟩
theorem fin.tw9387745189664136937 : True := ⟨⟩
theorem fin.tw4924110625330727750 : True := ⟨⟩
theorem fin.tw8119881530291889089 : True := ⟨⟩
theorem fin.tw5734618986648460908 : True := ⟨⟩
theorem fin.tw936828761676184486 : True := ⟨⟩
theorem fin.tw10844054185645899528 : True := ⟨⟩
theorem fin.tw1409354911597024445 : True := ⟨⟩
theorem fin.tw13199158710529813207 : True := ⟨⟩
theorem fin.tw15692133788150570983 : True := ⟨⟩
theorem fin.tw10783113805558436046 : True := ⟨⟩
theorem fin.tw14332859949639240327 : True := ⟨⟩
theorem fin.tw9646449454120195008 : True := ⟨⟩
theorem fin.tw13491076748231791703 : True := ⟨⟩
theorem fin.tw1893775799952434370 : True := ⟨⟩
theorem fin.tw15328865355794929244 : True := ⟨⟩
theorem fin.tw5697329851534765875 : True := ⟨⟩
theorem fin.tw12751662967071866640 : True := ⟨⟩
theorem fin.tw13174711987866584785 : True := ⟨⟩
theorem fin.tw15675102808854859970 : True := ⟨⟩
theorem NoFields.nil : NoFields [] := fun _ h => nomatch h
theorem NoFields.cell {r : Led} {c : Addr} {o : Obj} {x : Option Value} (hd : o.data = .cell x) (h : NoFields r) : NoFields ((c, o) :: r) := fun p hp vs e => by
  rcases List.mem_cons.mp hp with rfl | hp
  · rw [hd] at e; cases e
  · exact h p hp vs e
theorem NoFields.seq {r : Led} {c : Addr} {k : Value} {dd : Option Addr} {xs : Array Value} {n : Nat} {sl : Array (Option Value)} (h : NoFields r) : NoFields ((c, ⟨k, dd, .seq xs n, sl⟩) :: r) := fun p hp vs e => by
  rcases List.mem_cons.mp hp with rfl | hp
  · cases e
  · exact h p hp vs e
theorem cell_ne {h₀ h : Heap} {L a c : Addr} {nx : Led} {its : Array Value} {n : Nat} {o : Obj} {x : Option Value} (N : News h₀ L h nx) (h1 : (a, listOf its n) ∈ nx) (h2 : (c, o) ∈ nx) (hd : o.data = .cell x) : a ≠ c := by
  rintro rfl
  have e := News.agree N h1 h2
  rw [← e] at hd; cases hd
noncomputable def AllCells (l : Led) : Prop := ∀ p ∈ l, ∃ x, p.2.data = .cell x
theorem AllCells.nil : AllCells [] := fun _ h => nomatch h
theorem AllCells.cons {r : Led} {c : Addr} {o : Obj} {x : Option Value} (hd : o.data = .cell x) (h : AllCells r) : AllCells ((c, o) :: r) := fun p hp => by
  rcases List.mem_cons.mp hp with rfl | hp
  · exact ⟨x, hd⟩
  · exact h p hp
theorem AllCells.nf {r : Led} (h : AllCells r) : NoFields r := fun p hp vs e => by
  obtain ⟨x, hx⟩ := h p hp
  rw [hx] at e; cases e
theorem AllCells.off {h₀ h : Heap} {L a : Addr} {nx r : Led} {its : Array Value} {n : Nat} (H : AllCells r) (N : News h₀ L h nx) (h1 : (a, listOf its n) ∈ nx) (hs : ∀ p ∈ r, p ∈ nx) : ∀ p ∈ r, p.1 ≠ a := fun p hp e => by
  obtain ⟨x, hx⟩ := H p hp
  exact cell_ne N h1 (hs p hp) hx e.symm
noncomputable def AllNe (d : Nat) : Led → Prop
  | [] => True
  | p :: r => @Ne Nat p.1 d ∧ AllNe d r
theorem allNe_of {d : Addr} : ∀ {l : Led}, (∀ p ∈ l, p.1 ≠ d) → AllNe d l
  | [], _ => trivial
  | p :: _, h => ⟨h p (.head _), allNe_of fun q hq => h q (.tail _ hq)⟩
theorem cF_eq (d : List Int) (i : Nat) : Int.fmod (Int.fdiv (d.getD (0 + (i : Int)).toNat 0) 8) 2 = ((cF d i : Nat) : Int) + 0 := by
  have e : (0 + (i : Int)).toNat = i := by omega
  rw [e]
  have h0 : 0 ≤ Int.fmod (Int.fdiv (d.getD i 0) 8) 2 := Int.fmod_nonneg_of_pos _ (by decide)
  unfold cF; omega
theorem kF_eq (d : List Int) (i : Nat) : Int.fmod (d.getD (0 + (i : Int)).toNat 0) 8 = ((kF d i : Nat) : Int) := by
  have e : (0 + (i : Int)).toNat = i := by omega
  rw [e]
  have h0 : 0 ≤ Int.fmod (d.getD i 0) 8 := Int.fmod_nonneg_of_pos _ (by decide)
  unfold kF; omega
theorem okWords (d : List Int) : ((List.range 4).map fun i => wordS i (cF d i)).all PyData.strOk = true := by
  have h : ∀ i : Fin 4, ∀ c : Fin 2, PyData.strOk (wordS i.val c.val) = true := by decide +kernel
  rw [List.all_eq_true]
  intro x hx
  obtain ⟨i, hi, rfl⟩ := List.mem_map.mp hx
  exact h ⟨i, List.mem_range.mp hi⟩ ⟨cF d i, cF_lt d i⟩
theorem names13 : (List.range 13).map nmF = [Str.ofString "OPTIMIZED", Str.ofString "NEWLOCALS", Str.ofString "VARARGS", Str.ofString "VARKEYWORDS", Str.ofString "NESTED", Str.ofString "GENERATOR", Str.ofString "NOFREE", Str.ofString "COROUTINE", Str.ofString "ITERABLE_COROUTINE", Str.ofString "ASYNC_GENERATOR", Str.ofString "0x400", Str.ofString "0x800", Str.ofString "0x1000"] := rfl
theorem lookup_drop (b : Addr) : ∀ (K : Frag) (a : Addr) (o : Obj), (K.filter fun p => !(p.1 == b)).lookup a = some o → K.lookup a = some o
  | [], _, _, h => h
  | (c, x) :: r, a, o, h => by
    have ih := lookup_drop b r a o
    by_cases hc : c = b
    · subst hc
      have e : (List.filter (fun p : Addr × Obj => !(p.1 == c)) ((c, x) :: r)) = r.filter (fun p => !(p.1 == c)) := by simp
      rw [e] at h
      by_cases ha : a = c
      · subst ha
        exfalso
        have : ∀ r : Frag, (r.filter (fun p => !(p.1 == a))).lookup a = none := by
          intro r
          induction r with
          | nil => rfl
          | cons q r ih =>
            obtain ⟨d, y⟩ := q
            by_cases hd : d = a
            · subst hd; simpa using ih
            · have e : (List.filter (fun p : Addr × Obj => !(p.1 == a)) ((d, y) :: r)) = (d, y) :: r.filter (fun p => !(p.1 == a)) := by simp [hd]
              rw [e]
              simp only [List.lookup]
              have : (a == d) = false := by simpa using fun h => hd h.symm
              rw [this]; exact ih
        rw [this] at h; cases h
      · have : (a == c) = false := by simpa using ha
        simp only [List.lookup, this]
        exact ih h
    · have e : (List.filter (fun p : Addr × Obj => !(p.1 == b)) ((c, x) :: r)) = (c, x) :: r.filter (fun p => !(p.1 == b)) := by simp [hc]
      rw [e] at h
      simp only [List.lookup] at h ⊢
      split at h
      · exact h
      · exact ih h
theorem in_drop {K K' : Frag} {h : Heap} (b : Addr) (e : K' = K.filter (fun p => !(p.1 == b))) (X : K.In h) : K'.In h := fun a o q => X a o (lookup_drop b K a o (e ▸ q))
set_option maxHeartbeats 0 in
set_option Elab.async true in
theorem fin : PySem.Challenge.rw_kl0133_01.Holds := by
    (w_on; o_law; k_head; (case hw => w_witness2))
    k_go0
    rename World => w0
    rename Frag.In _ _ => XK
    have XG := in_drop (K' := KG w0.params) 65 rfl XK
    clear XK
    (all_goals try k_fold)
    k_steps
    unfold Held
    rename News _ _ _ _ => N1
    rename Heap.IsList _ _ _ => hsl
    k_dflt (refine' FunP.use (drawn_fun _ _ _ _ _ _ _ _ _ _ (by assumption) ?d0len ?d0nf) (by assumption) ?d0B ?d0F ?d0X ?d0N ?d0T ?d0hk ?d0hd ?d0hu ?d0ret; (case d0B => k_asm); (case d0F => k_asm); (case d0X => k_asm); (case d0N => k_asm); (case d0T => k_asm); (case d0hk => first | exact rfl | assumption); (case d0hd => ktr_room); (case d0hu => ktr_units); (case d0len => omega); (case d0nf => refine AllCells.nf ?_; repeat (first | exact AllCells.nil | refine AllCells.cons (by assumption) ?_)))
    intro r9 nx9 h9 tk9 F9 N9 P9
    obtain ⟨D, d, rfl, I9, l9, s9⟩ := P9.out
    obtain ⟨dvs, dn, dm, di⟩ := I9
    have AC := allNe_of (AllCells.off (by repeat (first | exact AllCells.nil | refine AllCells.cons (by assumption) ?_)) N9 dm s9)
    have AC0 := Hid.mk AC
    dsimp only [AllNe] at AC
    replace N9 := News.of (r := (D, listOf dvs.toArray dn) :: _) N9 (List.forall_mem_cons.mpr ⟨dm, s9⟩)
    clear P9 s9 dm
    k_steps
    k_dflt (refine' comp_range_assign_pure (n := 4) (fun i y => ∃ t, y = .str (wordS i (cF d i)) t) ?whcell ?whsz ?whkind ?whx ?whh ?wF ?wN (by assumption) ?wsm ?wcnt ?wturn ?whL ?why ?whp ?wfin; (case whcell => decide); (case whsz => (rw [sizeLine_eq]; omega)); (case whkind => rfl); (case whx => rfl); (case whh => rfl); (case wF => k_asm); (case wN => k_asm); (case wsm => rfl); (case wcnt => rfl); (case whL => rfl); (case why => rfl); (case whp => rfl))
    (case wturn =>
      intro C i t ny oC m₂ h tk hi hC hNs hx F1 N1 sub
      simp only [List.forall_mem_cons] at sub
      obtain ⟨e1,e2,e3,e4,e5,e6,e7,e8,e9,-⟩ := sub
      have hI : IntsL ny D d := ⟨dvs, dn, by assumption, di⟩
      k_steps
      (try unfold Held)
      k_dflt (refine' Fun.use ?uk1 ?uk2 ?uk3 ?uk4 ?uk5 ?uk6 (word_fun _ _ _ _ _ _ _ _ _ hi (cF_lt d i) _ _ (by simp) (cF_eq d i) _ _) ?ukd ?uku ?_; (case uk1 => k_asm); (case uk2 => k_asm); (case uk3 => k_asm); (case uk4 => k_asm); (case uk5 => k_asm); (case uk6 => first | exact rfl | assumption); (case ukd => ktr_room); (case uku => ktr_units))
      intro r8 nx8 h8 tk8 F8 N8 P8
      obtain ⟨⟨t8, rfl⟩, s8⟩ := P8
      (try dsimp only)
      exact ⟨_, _, _, rfl, by k_asm, by k_asm, s8, _, rfl⟩)
    intro Dw wys h tk ny wysl wysY Dwm sub F8 N8
    have AW := Hid.mk (allNe_of fun p hp => (sub p hp).2)
    clear AC
    have wysL := Hid.mk wysl
    have wysH := Hid.mk wysY
    replace N8 := News.of (r := (Dw, lst wys) :: _) N8 (List.forall_mem_cons.mpr ⟨Dwm, fun p hp => (sub p hp).1⟩)
    clear sub Dwm wysl wysY
    k_steps
    k_dflt (refine' comp_range_assign_pure (n := 4) (fun i y => ∃ t, y = .int (lightS (kF d i) i) t) ?qhcell ?qhsz ?qhkind ?qhx ?qhh ?qF ?qN (by assumption) ?qsm ?qcnt ?qturn ?qhL ?qhy ?qhp ?qfin; (case qhcell => decide); (case qhsz => (rw [sizeLine_eq]; omega)); (case qhkind => rfl); (case qhx => rfl); (case qhh => rfl); (case qF => k_asm); (case qN => k_asm); (case qsm => rfl); (case qcnt => rfl); (case qhL => rfl); (case qhy => rfl); (case qhp => rfl))
    (case qturn =>
      intro C i t ny oC m₂ h tk hi hC hNs hx F1 N1 sub
      simp only [List.forall_mem_cons] at sub
      obtain ⟨e1,e2,e3,e4,e5,e6,e7,e8,e9,e10,-⟩ := sub
      have hI : IntsL ny D d := ⟨dvs, dn, by assumption, di⟩
      k_steps
      (try unfold Held)
      k_dflt (refine' Fun.use ?quk1 ?quk2 ?quk3 ?quk4 ?quk5 ?quk6 (light_fun _ _ _ _ _ _ _ _ _ (kF_lt d i) hi _ _ (kF_eq d i) (by omega) _ _) ?qukd ?quku ?_; (case quk1 => k_asm); (case quk2 => k_asm); (case quk3 => k_asm); (case quk4 => k_asm); (case quk5 => k_asm); (case quk6 => first | exact rfl | assumption); (case qukd => ktr_room); (case quku => ktr_units))
      intro r8 nx8 h8 tk8 F8 N8 P8
      obtain ⟨⟨t8, rfl⟩, s8⟩ := P8
      (try dsimp only)
      exact ⟨_, _, _, rfl, by k_asm, by k_asm, s8, _, rfl⟩)
    intro Dq qys h tk ny qysl qysY Dqm sub F8 N8
    have AQ := Hid.mk (allNe_of fun p hp => (sub p hp).2)
    have qysL := Hid.mk qysl
    have qysH := Hid.mk qysY
    replace N8 := News.of (r := (Dq, lst qys) :: _) N8 (List.forall_mem_cons.mpr ⟨Dqm, fun p hp => (sub p hp).1⟩)
    clear sub Dqm qysl qysY
    k_steps
    k_dflt (refine' comp_range_none_pure (n := 4) (fun i y => ∃ t, y = .str (wordS i (cF d i)) t) ?vhcell ?vhsz ?vhkind ?vhx ?vhh ?vF ?vN (by assumption) ?vsm ?vcnt ?vturn ?vfin; (case vhcell => decide); (case vhsz => (rw [sizeLine_eq]; omega)); (case vhkind => rfl); (case vhx => rfl); (case vhh => rfl); (case vF => k_asm); (case vN => k_asm); (case vsm => rfl); (case vcnt => rfl))
    (case vturn =>
      intro C i t ny oC m₂ h tk hi hC hNs hx F1 N1 sub
      simp only [List.forall_mem_cons] at sub
      obtain ⟨e1,e2,e3,e4,e5,e6,e7,e8,e9,e10,e11,-⟩ := sub
      have hI : IntsL ny D d := ⟨dvs, dn, by assumption, di⟩
      k_steps
      (try unfold Held)
      k_dflt (refine' Fun.use ?vuk1 ?vuk2 ?vuk3 ?vuk4 ?vuk5 ?vuk6 (due_word_fun _ _ _ _ _ _ _ _ _ hi (cF_lt d i) _ _ (by simp) (cF_eq d i) _ _) ?vukd ?vuku ?_; (case vuk1 => k_asm); (case vuk2 => k_asm); (case vuk3 => k_asm); (case vuk4 => k_asm); (case vuk5 => k_asm); (case vuk6 => first | exact rfl | assumption); (case vukd => ktr_room); (case vuku => ktr_units))
      intro r8 nx8 h8 tk8 F8 N8 P8
      obtain ⟨⟨t8, rfl⟩, s8⟩ := P8
      (try dsimp only)
      exact ⟨_, _, _, rfl, by k_asm, by k_asm, s8, _, rfl⟩)
    intro Dv vys h tk ny vysl vysY Dvm sub F8 N8
    have NN := News.of (r := (Dv, lst vys) :: _) N8 (List.forall_mem_cons.mpr ⟨Dvm, fun p hp => (sub p hp).1⟩)
    replace N8 := News.of (r := _) NN (fun p hp => List.mem_cons_of_mem _ hp)
    have wi := strsAre_of wysH.out
    have vi := strsAre_of vysY
    rw [wysL.out] at wi
    rw [vysl] at vi
    k_dflt (refine' ne_strs_same NN (by k_mem) wi (by k_mem) vi ?vok ?vu ?_; (case vok => exact okWords d); (case vu => ktr_units))
    clear NN wi vi vysY vysl
    k_steps
    k_dflt (refine' comp_range_none_pure (n := 4) (fun i y => ∃ t, y = .int (lightS (kF d i) i) t) ?xhcell ?xhsz ?xhkind ?xhx ?xhh ?xF ?xN (by assumption) ?xsm ?xcnt ?xturn ?xfin; (case xhcell => decide); (case xhsz => (rw [sizeLine_eq]; omega)); (case xhkind => rfl); (case xhx => rfl); (case xhh => rfl); (case xF => k_asm); (case xN => k_asm); (case xsm => rfl); (case xcnt => rfl))
    (case xturn =>
      intro C i t ny oC m₂ h tk hi hC hNs hx F1 N1 sub
      simp only [List.forall_mem_cons] at sub
      obtain ⟨e1,e2,e3,e4,e5,e6,e7,e8,e9,e10,e11,-⟩ := sub
      have hI : IntsL ny D d := ⟨dvs, dn, by assumption, di⟩
      k_steps
      (try unfold Held)
      k_dflt (refine' Fun.use ?xuk1 ?xuk2 ?xuk3 ?xuk4 ?xuk5 ?xuk6 (due_light_fun _ _ _ _ _ _ _ _ _ (kF_lt d i) hi _ _ (kF_eq d i) (by omega) _ _) ?xukd ?xuku ?_; (case xuk1 => k_asm); (case xuk2 => k_asm); (case xuk3 => k_asm); (case xuk4 => k_asm); (case xuk5 => k_asm); (case xuk6 => first | exact rfl | assumption); (case xukd => ktr_room); (case xuku => ktr_units))
      intro r8 nx8 h8 tk8 F8 N8 P8
      obtain ⟨⟨t8, rfl⟩, s8⟩ := P8
      (try dsimp only)
      exact ⟨_, _, _, rfl, by k_asm, by k_asm, s8, _, rfl⟩)
    intro Dx xys h tk ny xysl xysY Dxm sub F8 N8
    have NN := News.of (r := (Dx, lst xys) :: _) N8 (List.forall_mem_cons.mpr ⟨Dxm, fun p hp => (sub p hp).1⟩)
    replace N8 := News.of (r := _) NN (fun p hp => List.mem_cons_of_mem _ hp)
    have qi := intsAre_of qysH.out
    have xi := intsAre_of xysY
    rw [qysL.out] at qi
    rw [xysl] at xi
    k_dflt (refine' ne_ints_same NN (by k_mem) qi (by k_mem) xi ?xu ?_; (case xu => ktr_units))
    clear NN qi xi xysY xysl
    walk_at "truthy bool"
    rw [if_neg (by decide)]
    walk_at "execs nil"
    show wpAny _ _ (execs _ _) _ _ _
    refine' law_rest _ _ _ _ _ _ (d := d) (D := D) (la := Dq) (wa := Dw) (Lt := fun i => lightS (kF d i.val) i.val) (W := fun i => wordS i.val (cF d i.val)) ?rB ?rX ?rT F8 N8 (lampsOf (kF_lt d) (cF_lt d)) ?rG ?rW ?rI l9 ?rF ?r1 ?r2 ?r3 ?r4 ?r5 ?r6 ?r7 ?rk
    (case rB => assumption)
    (case rX => assumption)
    (case rT => assumption)
    (case rk =>
      intro h9 tk9 m9 n9 F9 N9
      clear N8 F8
      k_steps)
    (case rG => exact nums_of (by exact qysL.out) (fun j y hj => by
      obtain ⟨t, ht⟩ := qysH.out j y hj
      have hj4 : j < 4 := by
        have := (List.getElem?_eq_some_iff.mp hj).1
        rw [qysL.out] at this; exact this
      exact ⟨hj4, t, ht⟩) (List.Mem.head _))
    (case rW => exact strs_of (by exact wysL.out) (fun j y hj => by
      obtain ⟨t, ht⟩ := wysH.out j y hj
      have hj4 : j < 4 := by
        have := (List.getElem?_eq_some_iff.mp hj).1
        rw [wysL.out] at this; exact this
      exact ⟨hj4, t, ht⟩) (.tail _ (.head _)))
    (case rI => exact ⟨dvs, dn, .tail _ (.tail _ (.tail _ (.head _))), di⟩)
    (case rF => exact ⟨_, _, .tail _ (.tail _ (.head _)), by rw [names13]; exact .cons _ _ (.cons _ _ (.cons _ _ (.cons _ _ (.cons _ _ (.cons _ _ (.cons _ _ (.cons _ _ (.cons _ _ (.cons _ _ (.cons _ _ (.cons _ _ (.cons _ _ .nil))))))))))))⟩)
    (case r7 => exact ⟨_, .tail _ (.tail _ (.tail _ (.tail _ (.head _)))), by assumption⟩)
    (case r6 => exact ⟨_, .tail _ (.tail _ (.tail _ (.tail _ (.tail _ (.head _))))), by assumption⟩)
    (case r5 => exact ⟨_, .tail _ (.tail _ (.tail _ (.tail _ (.tail _ (.tail _ (.head _)))))), by assumption⟩)
    (case r4 => exact ⟨_, .tail _ (.tail _ (.tail _ (.tail _ (.tail _ (.tail _ (.tail _ (.head _))))))), by assumption⟩)
    (case r3 => exact ⟨_, .tail _ (.tail _ (.tail _ (.tail _ (.tail _ (.tail _ (.tail _ (.tail _ (.head _)))))))), by assumption⟩)
    (case r2 => exact ⟨_, .tail _ (.tail _ (.tail _ (.tail _ (.tail _ (.tail _ (.tail _ (.tail _ (.tail _ (.head _))))))))), by assumption⟩)
    (case r1 => exact ⟨_, .tail _ (.tail _ (.tail _ (.tail _ (.tail _ (.tail _ (.tail _ (.tail _ (.tail _ (.tail _ (.head _)))))))))), by assumption⟩)
end Mine
end
theorem PySem.Challenge.cw_kl0133_01_holds : PySem.Challenge.rw_kl0133_01.Holds :=
  Mine.fin
