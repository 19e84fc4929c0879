import PyProof.Rows.All
import Wide.All
import OpenK.AllK
import Wide.FinOn
import PySem.Challenge.RW_mq0167_01
set_option Elab.async false
set_option linter.unusedVariables false
section
open PySem PySem.W PySem.Calls PyProof.Rows
set_option Elab.async false
set_option maxRecDepth 100000
set_option maxHeartbeats 8000000
namespace Mine
/-- what the row's program holds of its i-th def -/
noncomputable def df (i : Nat) : Option (Arguments × List Stmt × Scope) := match Challenge.pw_mq0167_01.main.body[i]? with
  | some (.FunctionDef _ a b _ _ _ s _ _ _) => some (a, b, s)
  | _ => none

/-- the objects of the top that the walk reads, written out; the defs' own parts come from the row by unification -/
noncomputable def hk : Params → Frag := by
  refine' (?f : (a0 : Arguments) → (b0 : List Stmt) → (s0 : Scope) → df 8 = some (a0, b0, s0) → (a1 : Arguments) → (b1 : List Stmt) → (s1 : Scope) → df 10 = some (a1, b1, s1) → (a2 : Arguments) → (b2 : List Stmt) → (s2 : Scope) → df 11 = some (a2, b2, s2) → (a3 : Arguments) → (b3 : List Stmt) → (s3 : Scope) → df 12 = some (a3, b3, s3) → (a4 : Arguments) → (b4 : List Stmt) → (s4 : Scope) → df 13 = some (a4, b4, s4) → (a5 : Arguments) → (b5 : List Stmt) → (s5 : Scope) → df 15 = some (a5, b5, s5) → (a6 : Arguments) → (b6 : List Stmt) → (s6 : Scope) → df 16 = some (a6, b6, s6) → (a7 : Arguments) → (b7 : List Stmt) → (s7 : Scope) → df 19 = some (a7, b7, s7) → (a8 : Arguments) → (b8 : List Stmt) → (s8 : Scope) → df 21 = some (a8, b8, s8) → (a9 : Arguments) → (b9 : List Stmt) → (s9 : Scope) → df 22 = some (a9, b9, s9) → (a10 : Arguments) → (b10 : List Stmt) → (s10 : Scope) → df 23 = some (a10, b10, s10) → (a11 : Arguments) → (b11 : List Stmt) → (s11 : Scope) → df 24 = some (a11, b11, s11) → (a12 : Arguments) → (b12 : List Stmt) → (s12 : Scope) → df 25 = some (a12, b12, s12) → (a13 : Arguments) → (b13 : List Stmt) → (s13 : Scope) → df 26 = some (a13, b13, s13) → (a14 : Arguments) → (b14 : List Stmt) → (s14 : Scope) → df 27 = some (a14, b14, s14) → Params → Frag) _ _ _ ?h0 _ _ _ ?h1 _ _ _ ?h2 _ _ _ ?h3 _ _ _ ?h4 _ _ _ ?h5 _ _ _ ?h6 _ _ _ ?h7 _ _ _ ?h8 _ _ _ ?h9 _ _ _ ?h10 _ _ _ ?h11 _ _ _ ?h12 _ _ _ ?h13 _ _ _ ?h14
  case h0 => exact rfl
  case h1 => exact rfl
  case h2 => exact rfl
  case h3 => exact rfl
  case h4 => exact rfl
  case h5 => exact rfl
  case h6 => exact rfl
  case h7 => exact rfl
  case h8 => exact rfl
  case h9 => exact rfl
  case h10 => exact rfl
  case h11 => exact rfl
  case h12 => exact rfl
  case h13 => exact rfl
  case h14 => exact rfl
  case f => exact fun a0 b0 s0 _ a1 b1 s1 _ a2 b2 s2 _ a3 b3 s3 _ a4 b4 s4 _ a5 b5 s5 _ a6 b6 s6 _ a7 b7 s7 _ a8 b8 s8 _ a9 b9 s9 _ a10 b10 s10 _ a11 b11 s11 _ a12 b12 s12 _ a13 b13 s13 _ a14 b14 s14 _ P =>
    [((nat_lit 3), ⟨.type "dict", (none : Option Nat), .dict #[⟨PyData.keyHash P (Str.ofString "__name__"), .str (Str.ofString "__name__") (165 : Nat), .str (Str.ofString "law_mq0167_01") (297 : Nat)⟩, ⟨PyData.keyHash P (Str.ofString "__doc__"), .str (Str.ofString "__doc__") (166 : Nat), .none⟩, ⟨PyData.keyHash P (Str.ofString "__package__"), .str (Str.ofString "__package__") (167 : Nat), .none⟩, ⟨PyData.keyHash P (Str.ofString "__loader__"), .str (Str.ofString "__loader__") (168 : Nat), .builtin "__main__.__loader__#opaque"⟩, ⟨PyData.keyHash P (Str.ofString "__spec__"), .str (Str.ofString "__spec__") (169 : Nat), .none⟩, ⟨PyData.keyHash P (Str.ofString "__annotations__"), .str (Str.ofString "__annotations__") (170 : Nat), .ref (6 : Nat)⟩, ⟨PyData.keyHash P (Str.ofString "__builtins__"), .str (Str.ofString "__builtins__") (171 : Nat), .ref (4 : Nat)⟩, ⟨PyData.keyHash P (Str.ofString "__file__"), .str (Str.ofString "__file__") (173 : Nat), .str (Str.ofString "/claim/cut.py") (172 : Nat)⟩, ⟨PyData.keyHash P (Str.ofString "__cached__"), .str (Str.ofString "__cached__") (174 : Nat), .none⟩, ⟨PyData.keyHash P (Str.ofString "_wall"), .str (Str.ofString "_wall") (193 : Nat), .ref (21 : Nat)⟩, ⟨PyData.keyHash P (Str.ofString "_MAX_LENGTH"), .str (Str.ofString "_MAX_LENGTH") (197 : Nat), .int 80 (196 : Nat)⟩, ⟨PyData.keyHash P (Str.ofString "_PLACEHOLDER_LEN"), .str (Str.ofString "_PLACEHOLDER_LEN") (199 : Nat), .int 12 (198 : Nat)⟩, ⟨PyData.keyHash P (Str.ofString "_MIN_BEGIN_LEN"), .str (Str.ofString "_MIN_BEGIN_LEN") (201 : Nat), .int 5 (200 : Nat)⟩, ⟨PyData.keyHash P (Str.ofString "_MIN_END_LEN"), .str (Str.ofString "_MIN_END_LEN") (203 : Nat), .int 5 (202 : Nat)⟩, ⟨PyData.keyHash P (Str.ofString "_MIN_COMMON_LEN"), .str (Str.ofString "_MIN_COMMON_LEN") (205 : Nat), .int 5 (204 : Nat)⟩, ⟨PyData.keyHash P (Str.ofString "_MIN_DIFF_LEN"), .str (Str.ofString "_MIN_DIFF_LEN") (211 : Nat), .int 41 (210 : Nat)⟩, ⟨PyData.keyHash P (Str.ofString "_shorten"), .str (Str.ofString "_shorten") (221 : Nat), .ref (28 : Nat)⟩, ⟨PyData.keyHash P (Str.ofString "_kind"), .str (Str.ofString "_kind") (232 : Nat), .ref (35 : Nat)⟩, ⟨PyData.keyHash P (Str.ofString "_fspath"), .str (Str.ofString "_fspath") (241 : Nat), .ref (42 : Nat)⟩, ⟨PyData.keyHash P (Str.ofString "_prefix"), .str (Str.ofString "_prefix") (252 : Nat), .ref (49 : Nat)⟩, ⟨PyData.keyHash P (Str.ofString "commonprefix"), .str (Str.ofString "commonprefix") (258 : Nat), .ref (54 : Nat)⟩, ⟨PyData.keyHash P (Str.ofString "_common_shorten_repr"), .str (Str.ofString "_common_shorten_repr") (271 : Nat), .ref (61 : Nat)⟩, ⟨PyData.keyHash P (Str.ofString "safe_repr"), .str (Str.ofString "safe_repr") (280 : Nat), .ref (69 : Nat)⟩, ⟨PyData.keyHash P (Str.ofString "ELLIPSIS_MARKER"), .str (Str.ofString "ELLIPSIS_MARKER") (284 : Nat), .str (Str.ofString "...") (283 : Nat)⟩, ⟨PyData.keyHash P (Str.ofString "_ellipsis_match"), .str (Str.ofString "_ellipsis_match") (296 : Nat), .ref (76 : Nat)⟩, ⟨PyData.keyHash P (Str.ofString "_law_kinds"), .str (Str.ofString "_law_kinds") (312 : Nat), .ref (83 : Nat)⟩, ⟨PyData.keyHash P (Str.ofString "_law_sign"), .str (Str.ofString "_law_sign") (320 : Nat), .ref (90 : Nat)⟩, ⟨PyData.keyHash P (Str.ofString "_law_text"), .str (Str.ofString "_law_text") (329 : Nat), .ref (97 : Nat)⟩, ⟨PyData.keyHash P (Str.ofString "_law_runs"), .str (Str.ofString "_law_runs") (339 : Nat), .ref (104 : Nat)⟩, ⟨PyData.keyHash P (Str.ofString "_law_alike"), .str (Str.ofString "_law_alike") (345 : Nat), .ref (109 : Nat)⟩, ⟨PyData.keyHash P (Str.ofString "_law_shared"), .str (Str.ofString "_law_shared") (351 : Nat), .ref (114 : Nat)⟩, ⟨PyData.keyHash P (Str.ofString "law"), .str (Str.ofString "law") (357 : Nat), .ref (119 : Nat)⟩] (32 : Nat), #[]⟩),
     ((nat_lit 27), ⟨.type "code", (none : Option Nat), .fields #[.str (Str.ofString "_shorten") (212 : Nat), .str (Str.ofString "_shorten") (213 : Nat), .str (Str.ofString "/claim/cut.py") (214 : Nat), .int 11 (0 : Nat), .int 3 (0 : Nat), .int 0 (0 : Nat), .int 0 (0 : Nat), .int 3 (0 : Nat), .ref (22 : Nat), .bool true, .int 181 (0 : Nat), .ref (23 : Nat), .none, .ref (24 : Nat), .ref (25 : Nat), .ref (26 : Nat), .int 219 (0 : Nat), .int 11 (0 : Nat), .str (Str.ofString "/claim/cut.py") (220 : Nat)], #[]⟩),
     ((nat_lit 28), ⟨.type "function", (none : Option Nat), .func ⟨Str.ofString "_shorten", Str.ofString "_shorten", a0, .stmts b0, s0, (3 : Nat), ([] : List (Str × Nat)), .none, .none, .none, .str (Str.ofString "cpy313.unittest.util") (194 : Nat), (none : Option Nat), .ref (27 : Nat), .none, (0 : Nat)⟩, #[]⟩),
     ((nat_lit 34), ⟨.type "code", (none : Option Nat), .fields #[.str (Str.ofString "_kind") (224 : Nat), .str (Str.ofString "_kind") (225 : Nat), .str (Str.ofString "/claim/cut.py") (226 : Nat), .int 17 (0 : Nat), .int 2 (0 : Nat), .int 0 (0 : Nat), .int 0 (0 : Nat), .int 3 (0 : Nat), .ref (29 : Nat), .bool true, .int 181 (0 : Nat), .ref (30 : Nat), .none, .ref (31 : Nat), .ref (32 : Nat), .ref (33 : Nat), .int 230 (0 : Nat), .int 17 (0 : Nat), .str (Str.ofString "/claim/cut.py") (231 : Nat)], #[]⟩),
     ((nat_lit 35), ⟨.type "function", (none : Option Nat), .func ⟨Str.ofString "_kind", Str.ofString "_kind", a1, .stmts b1, s1, (3 : Nat), ([] : List (Str × Nat)), .none, .none, .none, .str (Str.ofString "os.path") (222 : Nat), (none : Option Nat), .ref (34 : Nat), .none, (0 : Nat)⟩, #[]⟩),
     ((nat_lit 41), ⟨.type "code", (none : Option Nat), .fields #[.str (Str.ofString "_fspath") (233 : Nat), .str (Str.ofString "_fspath") (234 : Nat), .str (Str.ofString "/claim/cut.py") (235 : Nat), .int 38 (0 : Nat), .int 2 (0 : Nat), .int 0 (0 : Nat), .int 0 (0 : Nat), .int 3 (0 : Nat), .ref (36 : Nat), .bool true, .int 181 (0 : Nat), .ref (37 : Nat), .none, .ref (38 : Nat), .ref (39 : Nat), .ref (40 : Nat), .int 239 (0 : Nat), .int 38 (0 : Nat), .str (Str.ofString "/claim/cut.py") (240 : Nat)], #[]⟩),
     ((nat_lit 42), ⟨.type "function", (none : Option Nat), .func ⟨Str.ofString "_fspath", Str.ofString "_fspath", a2, .stmts b2, s2, (3 : Nat), ([] : List (Str × Nat)), .none, .none, .none, .str (Str.ofString "os.path") (222 : Nat), (none : Option Nat), .ref (41 : Nat), .none, (0 : Nat)⟩, #[]⟩),
     ((nat_lit 48), ⟨.type "code", (none : Option Nat), .fields #[.str (Str.ofString "_prefix") (242 : Nat), .str (Str.ofString "_prefix") (243 : Nat), .str (Str.ofString "/claim/cut.py") (244 : Nat), .int 43 (0 : Nat), .int 1 (0 : Nat), .int 0 (0 : Nat), .int 0 (0 : Nat), .int 3 (0 : Nat), .ref (43 : Nat), .bool true, .int 181 (0 : Nat), .ref (44 : Nat), .none, .ref (45 : Nat), .ref (46 : Nat), .ref (47 : Nat), .int 250 (0 : Nat), .int 43 (0 : Nat), .str (Str.ofString "/claim/cut.py") (251 : Nat)], #[]⟩),
     ((nat_lit 49), ⟨.type "function", (none : Option Nat), .func ⟨Str.ofString "_prefix", Str.ofString "_prefix", a3, .stmts b3, s3, (3 : Nat), ([] : List (Str × Nat)), .none, .none, .none, .str (Str.ofString "os.path") (222 : Nat), (none : Option Nat), .ref (48 : Nat), .none, (0 : Nat)⟩, #[]⟩),
     ((nat_lit 53), ⟨.type "code", (none : Option Nat), .fields #[.str (Str.ofString "commonprefix") (253 : Nat), .str (Str.ofString "commonprefix") (254 : Nat), .str (Str.ofString "/claim/cut.py") (255 : Nat), .int 50 (0 : Nat), .int 1 (0 : Nat), .int 0 (0 : Nat), .int 0 (0 : Nat), .int 3 (0 : Nat), .ref (50 : Nat), .bool true, .int 181 (0 : Nat), .ref (51 : Nat), .none, .none, .none, .ref (52 : Nat), .int 256 (0 : Nat), .int 50 (0 : Nat), .str (Str.ofString "/claim/cut.py") (257 : Nat)], #[]⟩),
     ((nat_lit 54), ⟨.type "function", (none : Option Nat), .func ⟨Str.ofString "commonprefix", Str.ofString "commonprefix", a4, .stmts b4, s4, (3 : Nat), ([] : List (Str × Nat)), .none, .none, .none, .str (Str.ofString "os.path") (222 : Nat), (none : Option Nat), .ref (53 : Nat), .none, (0 : Nat)⟩, #[]⟩),
     ((nat_lit 60), ⟨.type "code", (none : Option Nat), .fields #[.str (Str.ofString "_common_shorten_repr") (261 : Nat), .str (Str.ofString "_common_shorten_repr") (262 : Nat), .str (Str.ofString "/claim/cut.py") (263 : Nat), .int 68 (0 : Nat), .int 0 (0 : Nat), .int 0 (0 : Nat), .int 0 (0 : Nat), .int 7 (0 : Nat), .ref (55 : Nat), .bool true, .int 181 (0 : Nat), .ref (56 : Nat), .none, .ref (57 : Nat), .ref (58 : Nat), .ref (59 : Nat), .int 269 (0 : Nat), .int 68 (0 : Nat), .str (Str.ofString "/claim/cut.py") (270 : Nat)], #[]⟩),
     ((nat_lit 61), ⟨.type "function", (none : Option Nat), .func ⟨Str.ofString "_common_shorten_repr", Str.ofString "_common_shorten_repr", a5, .stmts b5, s5, (3 : Nat), ([] : List (Str × Nat)), .none, .none, .none, .str (Str.ofString "cpy313.unittest.util") (259 : Nat), (none : Option Nat), .ref (60 : Nat), .none, (0 : Nat)⟩, #[]⟩),
     ((nat_lit 62), ⟨.type "tuple", (none : Option Nat), .seq #[.bool false] (0 : Nat), #[]⟩),
     ((nat_lit 68), ⟨.type "code", (none : Option Nat), .fields #[.str (Str.ofString "safe_repr") (272 : Nat), .str (Str.ofString "safe_repr") (273 : Nat), .str (Str.ofString "/claim/cut.py") (274 : Nat), .int 82 (0 : Nat), .int 2 (0 : Nat), .int 0 (0 : Nat), .int 0 (0 : Nat), .int 3 (0 : Nat), .ref (63 : Nat), .bool true, .int 181 (0 : Nat), .ref (64 : Nat), .none, .ref (65 : Nat), .ref (66 : Nat), .ref (67 : Nat), .int 278 (0 : Nat), .int 82 (0 : Nat), .str (Str.ofString "/claim/cut.py") (279 : Nat)], #[]⟩),
     ((nat_lit 69), ⟨.type "function", (none : Option Nat), .func ⟨Str.ofString "safe_repr", Str.ofString "safe_repr", a6, .stmts b6, s6, (3 : Nat), ([] : List (Str × Nat)), .ref (62 : Nat), .none, .none, .str (Str.ofString "cpy313.unittest.util") (259 : Nat), (none : Option Nat), .ref (68 : Nat), .none, (0 : Nat)⟩, #[]⟩),
     ((nat_lit 75), ⟨.type "code", (none : Option Nat), .fields #[.str (Str.ofString "_ellipsis_match") (285 : Nat), .str (Str.ofString "_ellipsis_match") (286 : Nat), .str (Str.ofString "/claim/cut.py") (287 : Nat), .int 92 (0 : Nat), .int 2 (0 : Nat), .int 0 (0 : Nat), .int 0 (0 : Nat), .int 3 (0 : Nat), .ref (70 : Nat), .bool true, .int 181 (0 : Nat), .ref (71 : Nat), .none, .ref (72 : Nat), .ref (73 : Nat), .ref (74 : Nat), .int 294 (0 : Nat), .int 92 (0 : Nat), .str (Str.ofString "/claim/cut.py") (295 : Nat)], #[]⟩),
     ((nat_lit 76), ⟨.type "function", (none : Option Nat), .func ⟨Str.ofString "_ellipsis_match", Str.ofString "_ellipsis_match", a7, .stmts b7, s7, (3 : Nat), ([] : List (Str × Nat)), .none, .none, .none, .str (Str.ofString "cpy313.doctest") (281 : Nat), (none : Option Nat), .ref (75 : Nat), .none, (0 : Nat)⟩, #[]⟩),
     ((nat_lit 82), ⟨.type "code", (none : Option Nat), .fields #[.str (Str.ofString "_law_kinds") (299 : Nat), .str (Str.ofString "_law_kinds") (300 : Nat), .str (Str.ofString "/claim/cut.py") (301 : Nat), .int 121 (0 : Nat), .int 1 (0 : Nat), .int 0 (0 : Nat), .int 0 (0 : Nat), .int 3 (0 : Nat), .ref (77 : Nat), .bool true, .int 181 (0 : Nat), .ref (78 : Nat), .none, .ref (79 : Nat), .ref (80 : Nat), .ref (81 : Nat), .int 310 (0 : Nat), .int 121 (0 : Nat), .str (Str.ofString "/claim/cut.py") (311 : Nat)], #[]⟩),
     ((nat_lit 83), ⟨.type "function", (none : Option Nat), .func ⟨Str.ofString "_law_kinds", Str.ofString "_law_kinds", a8, .stmts b8, s8, (3 : Nat), ([] : List (Str × Nat)), .none, .none, .none, .str (Str.ofString "law_mq0167_01") (297 : Nat), (none : Option Nat), .ref (82 : Nat), .none, (0 : Nat)⟩, #[]⟩),
     ((nat_lit 89), ⟨.type "code", (none : Option Nat), .fields #[.str (Str.ofString "_law_sign") (313 : Nat), .str (Str.ofString "_law_sign") (314 : Nat), .str (Str.ofString "/claim/cut.py") (315 : Nat), .int 133 (0 : Nat), .int 2 (0 : Nat), .int 0 (0 : Nat), .int 0 (0 : Nat), .int 3 (0 : Nat), .ref (84 : Nat), .bool true, .int 181 (0 : Nat), .ref (85 : Nat), .none, .ref (86 : Nat), .ref (87 : Nat), .ref (88 : Nat), .int 318 (0 : Nat), .int 133 (0 : Nat), .str (Str.ofString "/claim/cut.py") (319 : Nat)], #[]⟩),
     ((nat_lit 90), ⟨.type "function", (none : Option Nat), .func ⟨Str.ofString "_law_sign", Str.ofString "_law_sign", a9, .stmts b9, s9, (3 : Nat), ([] : List (Str × Nat)), .none, .none, .none, .str (Str.ofString "law_mq0167_01") (297 : Nat), (none : Option Nat), .ref (89 : Nat), .none, (0 : Nat)⟩, #[]⟩),
     ((nat_lit 96), ⟨.type "code", (none : Option Nat), .fields #[.str (Str.ofString "_law_text") (321 : Nat), .str (Str.ofString "_law_text") (322 : Nat), .str (Str.ofString "/claim/cut.py") (323 : Nat), .int 135 (0 : Nat), .int 2 (0 : Nat), .int 0 (0 : Nat), .int 0 (0 : Nat), .int 3 (0 : Nat), .ref (91 : Nat), .bool true, .int 181 (0 : Nat), .ref (92 : Nat), .none, .ref (93 : Nat), .ref (94 : Nat), .ref (95 : Nat), .int 327 (0 : Nat), .int 135 (0 : Nat), .str (Str.ofString "/claim/cut.py") (328 : Nat)], #[]⟩),
     ((nat_lit 97), ⟨.type "function", (none : Option Nat), .func ⟨Str.ofString "_law_text", Str.ofString "_law_text", a10, .stmts b10, s10, (3 : Nat), ([] : List (Str × Nat)), .none, .none, .none, .str (Str.ofString "law_mq0167_01") (297 : Nat), (none : Option Nat), .ref (96 : Nat), .none, (0 : Nat)⟩, #[]⟩),
     ((nat_lit 103), ⟨.type "code", (none : Option Nat), .fields #[.str (Str.ofString "_law_runs") (330 : Nat), .str (Str.ofString "_law_runs") (331 : Nat), .str (Str.ofString "/claim/cut.py") (332 : Nat), .int 139 (0 : Nat), .int 3 (0 : Nat), .int 0 (0 : Nat), .int 0 (0 : Nat), .int 3 (0 : Nat), .ref (98 : Nat), .bool true, .int 181 (0 : Nat), .ref (99 : Nat), .none, .ref (100 : Nat), .ref (101 : Nat), .ref (102 : Nat), .int 337 (0 : Nat), .int 139 (0 : Nat), .str (Str.ofString "/claim/cut.py") (338 : Nat)], #[]⟩),
     ((nat_lit 104), ⟨.type "function", (none : Option Nat), .func ⟨Str.ofString "_law_runs", Str.ofString "_law_runs", a11, .stmts b11, s11, (3 : Nat), ([] : List (Str × Nat)), .none, .none, .none, .str (Str.ofString "law_mq0167_01") (297 : Nat), (none : Option Nat), .ref (103 : Nat), .none, (0 : Nat)⟩, #[]⟩),
     ((nat_lit 108), ⟨.type "code", (none : Option Nat), .fields #[.str (Str.ofString "_law_alike") (340 : Nat), .str (Str.ofString "_law_alike") (341 : Nat), .str (Str.ofString "/claim/cut.py") (342 : Nat), .int 148 (0 : Nat), .int 3 (0 : Nat), .int 0 (0 : Nat), .int 0 (0 : Nat), .int 3 (0 : Nat), .ref (105 : Nat), .bool true, .int 181 (0 : Nat), .ref (106 : Nat), .none, .none, .none, .ref (107 : Nat), .int 343 (0 : Nat), .int 148 (0 : Nat), .str (Str.ofString "/claim/cut.py") (344 : Nat)], #[]⟩),
     ((nat_lit 109), ⟨.type "function", (none : Option Nat), .func ⟨Str.ofString "_law_alike", Str.ofString "_law_alike", a12, .stmts b12, s12, (3 : Nat), ([] : List (Str × Nat)), .none, .none, .none, .str (Str.ofString "law_mq0167_01") (297 : Nat), (none : Option Nat), .ref (108 : Nat), .none, (0 : Nat)⟩, #[]⟩),
     ((nat_lit 113), ⟨.type "code", (none : Option Nat), .fields #[.str (Str.ofString "_law_shared") (346 : Nat), .str (Str.ofString "_law_shared") (347 : Nat), .str (Str.ofString "/claim/cut.py") (348 : Nat), .int 156 (0 : Nat), .int 1 (0 : Nat), .int 0 (0 : Nat), .int 0 (0 : Nat), .int 3 (0 : Nat), .ref (110 : Nat), .bool true, .int 181 (0 : Nat), .ref (111 : Nat), .none, .none, .none, .ref (112 : Nat), .int 349 (0 : Nat), .int 156 (0 : Nat), .str (Str.ofString "/claim/cut.py") (350 : Nat)], #[]⟩),
     ((nat_lit 114), ⟨.type "function", (none : Option Nat), .func ⟨Str.ofString "_law_shared", Str.ofString "_law_shared", a13, .stmts b13, s13, (3 : Nat), ([] : List (Str × Nat)), .none, .none, .none, .str (Str.ofString "law_mq0167_01") (297 : Nat), (none : Option Nat), .ref (113 : Nat), .none, (0 : Nat)⟩, #[]⟩),
     ((nat_lit 118), ⟨.type "code", (none : Option Nat), .fields #[.str (Str.ofString "law") (352 : Nat), .str (Str.ofString "law") (353 : Nat), .str (Str.ofString "/claim/cut.py") (354 : Nat), .int 160 (0 : Nat), .int 1 (0 : Nat), .int 0 (0 : Nat), .int 0 (0 : Nat), .int 3 (0 : Nat), .ref (115 : Nat), .bool true, .int 181 (0 : Nat), .ref (116 : Nat), .none, .none, .none, .ref (117 : Nat), .int 355 (0 : Nat), .int 160 (0 : Nat), .str (Str.ofString "/claim/cut.py") (356 : Nat)], #[]⟩),
     ((nat_lit 119), ⟨.type "function", (none : Option Nat), .func ⟨Str.ofString "law", Str.ofString "law", a14, .stmts b14, s14, (3 : Nat), ([] : List (Str × Nat)), .none, .none, .none, .str (Str.ofString "law_mq0167_01") (297 : Nat), (none : Option Nat), .ref (118 : Nat), .none, (0 : Nat)⟩, #[]⟩)]
noncomputable def gt (i : Nat) : Arguments × List Stmt × Scope := match df i with
  | some x => x
  | none => (⟨[], [], none, [], [], none, []⟩, [], ⟨.function, [], false, false, []⟩)
/-- the same, short: the head is laid over this one -/
noncomputable def hs : Params → Frag := fun P =>
    [((nat_lit 3), ⟨.type "dict", (none : Option Nat), .dict #[⟨PyData.keyHash P (Str.ofString "__name__"), .str (Str.ofString "__name__") (165 : Nat), .str (Str.ofString "law_mq0167_01") (297 : Nat)⟩, ⟨PyData.keyHash P (Str.ofString "__doc__"), .str (Str.ofString "__doc__") (166 : Nat), .none⟩, ⟨PyData.keyHash P (Str.ofString "__package__"), .str (Str.ofString "__package__") (167 : Nat), .none⟩, ⟨PyData.keyHash P (Str.ofString "__loader__"), .str (Str.ofString "__loader__") (168 : Nat), .builtin "__main__.__loader__#opaque"⟩, ⟨PyData.keyHash P (Str.ofString "__spec__"), .str (Str.ofString "__spec__") (169 : Nat), .none⟩, ⟨PyData.keyHash P (Str.ofString "__annotations__"), .str (Str.ofString "__annotations__") (170 : Nat), .ref (6 : Nat)⟩, ⟨PyData.keyHash P (Str.ofString "__builtins__"), .str (Str.ofString "__builtins__") (171 : Nat), .ref (4 : Nat)⟩, ⟨PyData.keyHash P (Str.ofString "__file__"), .str (Str.ofString "__file__") (173 : Nat), .str (Str.ofString "/claim/cut.py") (172 : Nat)⟩, ⟨PyData.keyHash P (Str.ofString "__cached__"), .str (Str.ofString "__cached__") (174 : Nat), .none⟩, ⟨PyData.keyHash P (Str.ofString "_wall"), .str (Str.ofString "_wall") (193 : Nat), .ref (21 : Nat)⟩, ⟨PyData.keyHash P (Str.ofString "_MAX_LENGTH"), .str (Str.ofString "_MAX_LENGTH") (197 : Nat), .int 80 (196 : Nat)⟩, ⟨PyData.keyHash P (Str.ofString "_PLACEHOLDER_LEN"), .str (Str.ofString "_PLACEHOLDER_LEN") (199 : Nat), .int 12 (198 : Nat)⟩, ⟨PyData.keyHash P (Str.ofString "_MIN_BEGIN_LEN"), .str (Str.ofString "_MIN_BEGIN_LEN") (201 : Nat), .int 5 (200 : Nat)⟩, ⟨PyData.keyHash P (Str.ofString "_MIN_END_LEN"), .str (Str.ofString "_MIN_END_LEN") (203 : Nat), .int 5 (202 : Nat)⟩, ⟨PyData.keyHash P (Str.ofString "_MIN_COMMON_LEN"), .str (Str.ofString "_MIN_COMMON_LEN") (205 : Nat), .int 5 (204 : Nat)⟩, ⟨PyData.keyHash P (Str.ofString "_MIN_DIFF_LEN"), .str (Str.ofString "_MIN_DIFF_LEN") (211 : Nat), .int 41 (210 : Nat)⟩, ⟨PyData.keyHash P (Str.ofString "_shorten"), .str (Str.ofString "_shorten") (221 : Nat), .ref (28 : Nat)⟩, ⟨PyData.keyHash P (Str.ofString "_kind"), .str (Str.ofString "_kind") (232 : Nat), .ref (35 : Nat)⟩, ⟨PyData.keyHash P (Str.ofString "_fspath"), .str (Str.ofString "_fspath") (241 : Nat), .ref (42 : Nat)⟩, ⟨PyData.keyHash P (Str.ofString "_prefix"), .str (Str.ofString "_prefix") (252 : Nat), .ref (49 : Nat)⟩, ⟨PyData.keyHash P (Str.ofString "commonprefix"), .str (Str.ofString "commonprefix") (258 : Nat), .ref (54 : Nat)⟩, ⟨PyData.keyHash P (Str.ofString "_common_shorten_repr"), .str (Str.ofString "_common_shorten_repr") (271 : Nat), .ref (61 : Nat)⟩, ⟨PyData.keyHash P (Str.ofString "safe_repr"), .str (Str.ofString "safe_repr") (280 : Nat), .ref (69 : Nat)⟩, ⟨PyData.keyHash P (Str.ofString "ELLIPSIS_MARKER"), .str (Str.ofString "ELLIPSIS_MARKER") (284 : Nat), .str (Str.ofString "...") (283 : Nat)⟩, ⟨PyData.keyHash P (Str.ofString "_ellipsis_match"), .str (Str.ofString "_ellipsis_match") (296 : Nat), .ref (76 : Nat)⟩, ⟨PyData.keyHash P (Str.ofString "_law_kinds"), .str (Str.ofString "_law_kinds") (312 : Nat), .ref (83 : Nat)⟩, ⟨PyData.keyHash P (Str.ofString "_law_sign"), .str (Str.ofString "_law_sign") (320 : Nat), .ref (90 : Nat)⟩, ⟨PyData.keyHash P (Str.ofString "_law_text"), .str (Str.ofString "_law_text") (329 : Nat), .ref (97 : Nat)⟩, ⟨PyData.keyHash P (Str.ofString "_law_runs"), .str (Str.ofString "_law_runs") (339 : Nat), .ref (104 : Nat)⟩, ⟨PyData.keyHash P (Str.ofString "_law_alike"), .str (Str.ofString "_law_alike") (345 : Nat), .ref (109 : Nat)⟩, ⟨PyData.keyHash P (Str.ofString "_law_shared"), .str (Str.ofString "_law_shared") (351 : Nat), .ref (114 : Nat)⟩, ⟨PyData.keyHash P (Str.ofString "law"), .str (Str.ofString "law") (357 : Nat), .ref (119 : Nat)⟩] (32 : Nat), #[]⟩),
     ((nat_lit 27), ⟨.type "code", (none : Option Nat), .fields #[.str (Str.ofString "_shorten") (212 : Nat), .str (Str.ofString "_shorten") (213 : Nat), .str (Str.ofString "/claim/cut.py") (214 : Nat), .int 11 (0 : Nat), .int 3 (0 : Nat), .int 0 (0 : Nat), .int 0 (0 : Nat), .int 3 (0 : Nat), .ref (22 : Nat), .bool true, .int 181 (0 : Nat), .ref (23 : Nat), .none, .ref (24 : Nat), .ref (25 : Nat), .ref (26 : Nat), .int 219 (0 : Nat), .int 11 (0 : Nat), .str (Str.ofString "/claim/cut.py") (220 : Nat)], #[]⟩),
     ((nat_lit 28), ⟨.type "function", (none : Option Nat), .func ⟨Str.ofString "_shorten", Str.ofString "_shorten", (gt 8).1, .stmts (gt 8).2.1, (gt 8).2.2, (3 : Nat), ([] : List (Str × Nat)), .none, .none, .none, .str (Str.ofString "cpy313.unittest.util") (194 : Nat), (none : Option Nat), .ref (27 : Nat), .none, (0 : Nat)⟩, #[]⟩),
     ((nat_lit 34), ⟨.type "code", (none : Option Nat), .fields #[.str (Str.ofString "_kind") (224 : Nat), .str (Str.ofString "_kind") (225 : Nat), .str (Str.ofString "/claim/cut.py") (226 : Nat), .int 17 (0 : Nat), .int 2 (0 : Nat), .int 0 (0 : Nat), .int 0 (0 : Nat), .int 3 (0 : Nat), .ref (29 : Nat), .bool true, .int 181 (0 : Nat), .ref (30 : Nat), .none, .ref (31 : Nat), .ref (32 : Nat), .ref (33 : Nat), .int 230 (0 : Nat), .int 17 (0 : Nat), .str (Str.ofString "/claim/cut.py") (231 : Nat)], #[]⟩),
     ((nat_lit 35), ⟨.type "function", (none : Option Nat), .func ⟨Str.ofString "_kind", Str.ofString "_kind", (gt 10).1, .stmts (gt 10).2.1, (gt 10).2.2, (3 : Nat), ([] : List (Str × Nat)), .none, .none, .none, .str (Str.ofString "os.path") (222 : Nat), (none : Option Nat), .ref (34 : Nat), .none, (0 : Nat)⟩, #[]⟩),
     ((nat_lit 41), ⟨.type "code", (none : Option Nat), .fields #[.str (Str.ofString "_fspath") (233 : Nat), .str (Str.ofString "_fspath") (234 : Nat), .str (Str.ofString "/claim/cut.py") (235 : Nat), .int 38 (0 : Nat), .int 2 (0 : Nat), .int 0 (0 : Nat), .int 0 (0 : Nat), .int 3 (0 : Nat), .ref (36 : Nat), .bool true, .int 181 (0 : Nat), .ref (37 : Nat), .none, .ref (38 : Nat), .ref (39 : Nat), .ref (40 : Nat), .int 239 (0 : Nat), .int 38 (0 : Nat), .str (Str.ofString "/claim/cut.py") (240 : Nat)], #[]⟩),
     ((nat_lit 42), ⟨.type "function", (none : Option Nat), .func ⟨Str.ofString "_fspath", Str.ofString "_fspath", (gt 11).1, .stmts (gt 11).2.1, (gt 11).2.2, (3 : Nat), ([] : List (Str × Nat)), .none, .none, .none, .str (Str.ofString "os.path") (222 : Nat), (none : Option Nat), .ref (41 : Nat), .none, (0 : Nat)⟩, #[]⟩),
     ((nat_lit 48), ⟨.type "code", (none : Option Nat), .fields #[.str (Str.ofString "_prefix") (242 : Nat), .str (Str.ofString "_prefix") (243 : Nat), .str (Str.ofString "/claim/cut.py") (244 : Nat), .int 43 (0 : Nat), .int 1 (0 : Nat), .int 0 (0 : Nat), .int 0 (0 : Nat), .int 3 (0 : Nat), .ref (43 : Nat), .bool true, .int 181 (0 : Nat), .ref (44 : Nat), .none, .ref (45 : Nat), .ref (46 : Nat), .ref (47 : Nat), .int 250 (0 : Nat), .int 43 (0 : Nat), .str (Str.ofString "/claim/cut.py") (251 : Nat)], #[]⟩),
     ((nat_lit 49), ⟨.type "function", (none : Option Nat), .func ⟨Str.ofString "_prefix", Str.ofString "_prefix", (gt 12).1, .stmts (gt 12).2.1, (gt 12).2.2, (3 : Nat), ([] : List (Str × Nat)), .none, .none, .none, .str (Str.ofString "os.path") (222 : Nat), (none : Option Nat), .ref (48 : Nat), .none, (0 : Nat)⟩, #[]⟩),
     ((nat_lit 53), ⟨.type "code", (none : Option Nat), .fields #[.str (Str.ofString "commonprefix") (253 : Nat), .str (Str.ofString "commonprefix") (254 : Nat), .str (Str.ofString "/claim/cut.py") (255 : Nat), .int 50 (0 : Nat), .int 1 (0 : Nat), .int 0 (0 : Nat), .int 0 (0 : Nat), .int 3 (0 : Nat), .ref (50 : Nat), .bool true, .int 181 (0 : Nat), .ref (51 : Nat), .none, .none, .none, .ref (52 : Nat), .int 256 (0 : Nat), .int 50 (0 : Nat), .str (Str.ofString "/claim/cut.py") (257 : Nat)], #[]⟩),
     ((nat_lit 54), ⟨.type "function", (none : Option Nat), .func ⟨Str.ofString "commonprefix", Str.ofString "commonprefix", (gt 13).1, .stmts (gt 13).2.1, (gt 13).2.2, (3 : Nat), ([] : List (Str × Nat)), .none, .none, .none, .str (Str.ofString "os.path") (222 : Nat), (none : Option Nat), .ref (53 : Nat), .none, (0 : Nat)⟩, #[]⟩),
     ((nat_lit 60), ⟨.type "code", (none : Option Nat), .fields #[.str (Str.ofString "_common_shorten_repr") (261 : Nat), .str (Str.ofString "_common_shorten_repr") (262 : Nat), .str (Str.ofString "/claim/cut.py") (263 : Nat), .int 68 (0 : Nat), .int 0 (0 : Nat), .int 0 (0 : Nat), .int 0 (0 : Nat), .int 7 (0 : Nat), .ref (55 : Nat), .bool true, .int 181 (0 : Nat), .ref (56 : Nat), .none, .ref (57 : Nat), .ref (58 : Nat), .ref (59 : Nat), .int 269 (0 : Nat), .int 68 (0 : Nat), .str (Str.ofString "/claim/cut.py") (270 : Nat)], #[]⟩),
     ((nat_lit 61), ⟨.type "function", (none : Option Nat), .func ⟨Str.ofString "_common_shorten_repr", Str.ofString "_common_shorten_repr", (gt 15).1, .stmts (gt 15).2.1, (gt 15).2.2, (3 : Nat), ([] : List (Str × Nat)), .none, .none, .none, .str (Str.ofString "cpy313.unittest.util") (259 : Nat), (none : Option Nat), .ref (60 : Nat), .none, (0 : Nat)⟩, #[]⟩),
     ((nat_lit 62), ⟨.type "tuple", (none : Option Nat), .seq #[.bool false] (0 : Nat), #[]⟩),
     ((nat_lit 68), ⟨.type "code", (none : Option Nat), .fields #[.str (Str.ofString "safe_repr") (272 : Nat), .str (Str.ofString "safe_repr") (273 : Nat), .str (Str.ofString "/claim/cut.py") (274 : Nat), .int 82 (0 : Nat), .int 2 (0 : Nat), .int 0 (0 : Nat), .int 0 (0 : Nat), .int 3 (0 : Nat), .ref (63 : Nat), .bool true, .int 181 (0 : Nat), .ref (64 : Nat), .none, .ref (65 : Nat), .ref (66 : Nat), .ref (67 : Nat), .int 278 (0 : Nat), .int 82 (0 : Nat), .str (Str.ofString "/claim/cut.py") (279 : Nat)], #[]⟩),
     ((nat_lit 69), ⟨.type "function", (none : Option Nat), .func ⟨Str.ofString "safe_repr", Str.ofString "safe_repr", (gt 16).1, .stmts (gt 16).2.1, (gt 16).2.2, (3 : Nat), ([] : List (Str × Nat)), .ref (62 : Nat), .none, .none, .str (Str.ofString "cpy313.unittest.util") (259 : Nat), (none : Option Nat), .ref (68 : Nat), .none, (0 : Nat)⟩, #[]⟩),
     ((nat_lit 75), ⟨.type "code", (none : Option Nat), .fields #[.str (Str.ofString "_ellipsis_match") (285 : Nat), .str (Str.ofString "_ellipsis_match") (286 : Nat), .str (Str.ofString "/claim/cut.py") (287 : Nat), .int 92 (0 : Nat), .int 2 (0 : Nat), .int 0 (0 : Nat), .int 0 (0 : Nat), .int 3 (0 : Nat), .ref (70 : Nat), .bool true, .int 181 (0 : Nat), .ref (71 : Nat), .none, .ref (72 : Nat), .ref (73 : Nat), .ref (74 : Nat), .int 294 (0 : Nat), .int 92 (0 : Nat), .str (Str.ofString "/claim/cut.py") (295 : Nat)], #[]⟩),
     ((nat_lit 76), ⟨.type "function", (none : Option Nat), .func ⟨Str.ofString "_ellipsis_match", Str.ofString "_ellipsis_match", (gt 19).1, .stmts (gt 19).2.1, (gt 19).2.2, (3 : Nat), ([] : List (Str × Nat)), .none, .none, .none, .str (Str.ofString "cpy313.doctest") (281 : Nat), (none : Option Nat), .ref (75 : Nat), .none, (0 : Nat)⟩, #[]⟩),
     ((nat_lit 82), ⟨.type "code", (none : Option Nat), .fields #[.str (Str.ofString "_law_kinds") (299 : Nat), .str (Str.ofString "_law_kinds") (300 : Nat), .str (Str.ofString "/claim/cut.py") (301 : Nat), .int 121 (0 : Nat), .int 1 (0 : Nat), .int 0 (0 : Nat), .int 0 (0 : Nat), .int 3 (0 : Nat), .ref (77 : Nat), .bool true, .int 181 (0 : Nat), .ref (78 : Nat), .none, .ref (79 : Nat), .ref (80 : Nat), .ref (81 : Nat), .int 310 (0 : Nat), .int 121 (0 : Nat), .str (Str.ofString "/claim/cut.py") (311 : Nat)], #[]⟩),
     ((nat_lit 83), ⟨.type "function", (none : Option Nat), .func ⟨Str.ofString "_law_kinds", Str.ofString "_law_kinds", (gt 21).1, .stmts (gt 21).2.1, (gt 21).2.2, (3 : Nat), ([] : List (Str × Nat)), .none, .none, .none, .str (Str.ofString "law_mq0167_01") (297 : Nat), (none : Option Nat), .ref (82 : Nat), .none, (0 : Nat)⟩, #[]⟩),
     ((nat_lit 89), ⟨.type "code", (none : Option Nat), .fields #[.str (Str.ofString "_law_sign") (313 : Nat), .str (Str.ofString "_law_sign") (314 : Nat), .str (Str.ofString "/claim/cut.py") (315 : Nat), .int 133 (0 : Nat), .int 2 (0 : Nat), .int 0 (0 : Nat), .int 0 (0 : Nat), .int 3 (0 : Nat), .ref (84 : Nat), .bool true, .int 181 (0 : Nat), .ref (85 : Nat), .none, .ref (86 : Nat), .ref (87 : Nat), .ref (88 : Nat), .int 318 (0 : Nat), .int 133 (0 : Nat), .str (Str.ofString "/claim/cut.py") (319 : Nat)], #[]⟩),
     ((nat_lit 90), ⟨.type "function", (none : Option Nat), .func ⟨Str.ofString "_law_sign", Str.ofString "_law_sign", (gt 22).1, .stmts (gt 22).2.1, (gt 22).2.2, (3 : Nat), ([] : List (Str × Nat)), .none, .none, .none, .str (Str.ofString "law_mq0167_01") (297 : Nat), (none : Option Nat), .ref (89 : Nat), .none, (0 : Nat)⟩, #[]⟩),
     ((nat_lit 96), ⟨.type "code", (none : Option Nat), .fields #[.str (Str.ofString "_law_text") (321 : Nat), .str (Str.ofString "_law_text") (322 : Nat), .str (Str.ofString "/claim/cut.py") (323 : Nat), .int 135 (0 : Nat), .int 2 (0 : Nat), .int 0 (0 : Nat), .int 0 (0 : Nat), .int 3 (0 : Nat), .ref (91 : Nat), .bool true, .int 181 (0 : Nat), .ref (92 : Nat), .none, .ref (93 : Nat), .ref (94 : Nat), .ref (95 : Nat), .int 327 (0 : Nat), .int 135 (0 : Nat), .str (Str.ofString "/claim/cut.py") (328 : Nat)], #[]⟩),
     ((nat_lit 97), ⟨.type "function", (none : Option Nat), .func ⟨Str.ofString "_law_text", Str.ofString "_law_text", (gt 23).1, .stmts (gt 23).2.1, (gt 23).2.2, (3 : Nat), ([] : List (Str × Nat)), .none, .none, .none, .str (Str.ofString "law_mq0167_01") (297 : Nat), (none : Option Nat), .ref (96 : Nat), .none, (0 : Nat)⟩, #[]⟩),
     ((nat_lit 103), ⟨.type "code", (none : Option Nat), .fields #[.str (Str.ofString "_law_runs") (330 : Nat), .str (Str.ofString "_law_runs") (331 : Nat), .str (Str.ofString "/claim/cut.py") (332 : Nat), .int 139 (0 : Nat), .int 3 (0 : Nat), .int 0 (0 : Nat), .int 0 (0 : Nat), .int 3 (0 : Nat), .ref (98 : Nat), .bool true, .int 181 (0 : Nat), .ref (99 : Nat), .none, .ref (100 : Nat), .ref (101 : Nat), .ref (102 : Nat), .int 337 (0 : Nat), .int 139 (0 : Nat), .str (Str.ofString "/claim/cut.py") (338 : Nat)], #[]⟩),
     ((nat_lit 104), ⟨.type "function", (none : Option Nat), .func ⟨Str.ofString "_law_runs", Str.ofString "_law_runs", (gt 24).1, .stmts (gt 24).2.1, (gt 24).2.2, (3 : Nat), ([] : List (Str × Nat)), .none, .none, .none, .str (Str.ofString "law_mq0167_01") (297 : Nat), (none : Option Nat), .ref (103 : Nat), .none, (0 : Nat)⟩, #[]⟩),
     ((nat_lit 108), ⟨.type "code", (none : Option Nat), .fields #[.str (Str.ofString "_law_alike") (340 : Nat), .str (Str.ofString "_law_alike") (341 : Nat), .str (Str.ofString "/claim/cut.py") (342 : Nat), .int 148 (0 : Nat), .int 3 (0 : Nat), .int 0 (0 : Nat), .int 0 (0 : Nat), .int 3 (0 : Nat), .ref (105 : Nat), .bool true, .int 181 (0 : Nat), .ref (106 : Nat), .none, .none, .none, .ref (107 : Nat), .int 343 (0 : Nat), .int 148 (0 : Nat), .str (Str.ofString "/claim/cut.py") (344 : Nat)], #[]⟩),
     ((nat_lit 109), ⟨.type "function", (none : Option Nat), .func ⟨Str.ofString "_law_alike", Str.ofString "_law_alike", (gt 25).1, .stmts (gt 25).2.1, (gt 25).2.2, (3 : Nat), ([] : List (Str × Nat)), .none, .none, .none, .str (Str.ofString "law_mq0167_01") (297 : Nat), (none : Option Nat), .ref (108 : Nat), .none, (0 : Nat)⟩, #[]⟩),
     ((nat_lit 113), ⟨.type "code", (none : Option Nat), .fields #[.str (Str.ofString "_law_shared") (346 : Nat), .str (Str.ofString "_law_shared") (347 : Nat), .str (Str.ofString "/claim/cut.py") (348 : Nat), .int 156 (0 : Nat), .int 1 (0 : Nat), .int 0 (0 : Nat), .int 0 (0 : Nat), .int 3 (0 : Nat), .ref (110 : Nat), .bool true, .int 181 (0 : Nat), .ref (111 : Nat), .none, .none, .none, .ref (112 : Nat), .int 349 (0 : Nat), .int 156 (0 : Nat), .str (Str.ofString "/claim/cut.py") (350 : Nat)], #[]⟩),
     ((nat_lit 114), ⟨.type "function", (none : Option Nat), .func ⟨Str.ofString "_law_shared", Str.ofString "_law_shared", (gt 26).1, .stmts (gt 26).2.1, (gt 26).2.2, (3 : Nat), ([] : List (Str × Nat)), .none, .none, .none, .str (Str.ofString "law_mq0167_01") (297 : Nat), (none : Option Nat), .ref (113 : Nat), .none, (0 : Nat)⟩, #[]⟩),
     ((nat_lit 118), ⟨.type "code", (none : Option Nat), .fields #[.str (Str.ofString "law") (352 : Nat), .str (Str.ofString "law") (353 : Nat), .str (Str.ofString "/claim/cut.py") (354 : Nat), .int 160 (0 : Nat), .int 1 (0 : Nat), .int 0 (0 : Nat), .int 0 (0 : Nat), .int 3 (0 : Nat), .ref (115 : Nat), .bool true, .int 181 (0 : Nat), .ref (116 : Nat), .none, .none, .none, .ref (117 : Nat), .int 355 (0 : Nat), .int 160 (0 : Nat), .str (Str.ofString "/claim/cut.py") (356 : Nat)], #[]⟩),
     ((nat_lit 119), ⟨.type "function", (none : Option Nat), .func ⟨Str.ofString "law", Str.ofString "law", (gt 27).1, .stmts (gt 27).2.1, (gt 27).2.2, (3 : Nat), ([] : List (Str × Nat)), .none, .none, .none, .str (Str.ofString "law_mq0167_01") (297 : Nat), (none : Option Nat), .ref (118 : Nat), .none, (0 : Nat)⟩, #[]⟩)]
theorem hk_of {P : Params} {h : Heap} (X : (hs P).In h) : (hk P).In h := X
end Mine
end
section
open PySem PySem.W PySem.Calls PyProof.Rows
set_option Elab.async false
set_option maxRecDepth 100000
namespace Mine

/-- what is around a call: nothing handled -/
noncomputable abbrev AR (dp un : Nat) (gd : Option (List Code)) (fr : Option (List Env)) : Around := { handled := none, depth := dp, frames := fr, guards := gd, units := un }

theorem letQ {α : Type} {M : Model} {A : Around} {t : Sem α} {Q : α → Shared → Prop} {E : Value → Shared → Prop} {s : Shared} (h : let q := Q; let e := E; wpAny M A t q e s) : wpAny M A t Q E s := h
theorem roomA {d K r : Nat} (h : d + K < r) : d < r := Nat.lt_of_le_of_lt (Nat.le_add_right d K) h
theorem roomB {d k K r : Nat} (h : d + K < r) (hk : k + 1 ≤ K) : d + 1 + k < r := by omega
theorem roomC {u k K c : Nat} (h : u + 8 * K < c) (hk : k + 1 ≤ K) : u + 3 + 8 * k < c := by omega
noncomputable def Keeps (h h' : Heap) : Prop := ∀ b o, h.get? b = some o → h'.get? b = some o
theorem Keeps.refl (h : Heap) : Keeps h h := fun _ _ e => e
theorem Keeps.trans {a b c : Heap} (x : Keeps a b) (y : Keeps b c) : Keeps a c := fun k o e => y k o (x k o e)

/-- new objects: they stand in h' and not in h -/
noncomputable def NewIn (h h' : Heap) (tl : List (Addr × Obj)) : Prop := ∀ p ∈ tl, h'.get? p.1 = some p.2 ∧ h.get? p.1 = none

/-- a contract: a call of the def at f upon args, from any frame -/
noncomputable def Con (w : World) (mg mb : Str → Option Value) (f : Addr) (args : List Value) (sz : Nat) (Pre : Heap → Prop) (Post : List (Addr × Obj) → Value → Prop) : Prop :=
  ∀ (dp un : Nat) (gd : Option (List Code)) (fr : Option (List Env)) (s : Shared) (Q E : Value → Shared → Prop) (vp : Program) (lo : List Str),
    (hk w.params).In s.heap → TopRead vp lo mg mb s.heap → Pre s.heap → dp + sz < recursionLimit → un + 8 * sz < cLine →
    (∀ r tl h' tk', Keeps s.heap h' → NewIn s.heap h' tl → Post tl r → Q r { s with heap := h', toks := tk' }) →
    wpAny (model Challenge.rw_mq0167_01.row.prog w) (AR dp un gd fr) (call (.ref f) args) Q E s

section
variable {prog : Program} {w : World} {A : Around} {s : Shared} {K : Frag} {p : Program} {loose : List Str} {mean : ExcName → Option Value} {mg mb : Str → Option Value}
  {name qual : Str} {params : Arguments} {body : List Stmt} {scope : Scope} {dV kV doc pm cdv ct oc : Value} {an od : Option Addr} {osl : Array (Option Value)} {f : Addr} {args : List Value} {binds : List (Str × Value)} {Q E : Value → Shared → Prop}

theorem enter (X : K.In s.heap) (T : TopRead p loose mg mb s.heap)
    (ho : K.lookup f = some ⟨oc, od, .func (fnOf name qual params body scope dV kV doc pm an cdv ct), osl⟩) (hcd : codeIn K cdv qual = true) (hroom : A.depth < recursionLimit)
    (hbind : BindsTo s (fnOf name qual params body scope dV kV doc pm an cdv ct) ⟨args, []⟩ binds) (hloc : ∀ y ∈ binds, scope.names.lookup y.1 = some .local)
    (h : ∀ L' h₁, Fr s.heap L' h₁ (fun y => binds.reverse.lookup y) → News s.heap L' h₁ [] →
      wpAny (model prog w) (A.deeper (envOf qual scope L' f cdv)) (execs body (envOf qual scope L' f cdv))
        (fun fl s' => Q (match fl with | .ret v => v | _ => .none) s')
        (fun e s' => wpAny (model prog w) (A.deeper (envOf qual scope L' f cdv)) (leaving (envOf qual scope L' f cdv) e) (fun _ s'' => E e s'') (fun e' s'' => E e' s'') s')
        { s with heap := h₁, toks := s.toks + binds.length })
    (hco : scope.isCoroutine = false) (hgen : scope.isGenerator = false) (hk : scope.kind = .function)
    (hcell : ∀ x ∈ scope.names, x.2 ≠ .cell) : wpAny (model prog w) A (call (.ref f) args) Q E s := by
  refine wpAny_call ?_
  refine codeAny_call_def (fd := fnOf name qual params body scope dV kV doc pm an cdv ct) (body := body) (binds := binds) hroom (X _ _ ho) rfl T.nolimit (codeRec_of X hcd) rfl hbind hcell hloc (fun h₁ hns hk₁ => ?_) hco hgen hk
  exact h s.heap.objs.size h₁ ⟨hns, hk₁, Nat.le_refl _⟩ News.nil

theorem enterC (X : K.In s.heap) (T : TopRead p loose mg mb s.heap)
    (ho : K.lookup f = some ⟨oc, od, .func (fnOf name qual params body scope dV kV doc pm an cdv ct), osl⟩) (hcd : codeIn K cdv qual = true) (hroom : A.depth < recursionLimit)
    (hbind : BindsTo s (fnOf name qual params body scope dV kV doc pm an cdv ct) ⟨args, []⟩ binds) (hkind : (binds.all fun y => scope.names.lookup y.1 == some .local || scope.names.lookup y.1 == some .cell) = true)
    (hnd : ((cellsFrom 0 scope.names []).map (·.1)).Nodup)
    (h : ∀ L' h₁ tk cells, Fr s.heap L' h₁ (bindL (envOfC qual scope L' f cdv).kindOf binds fun _ => none) → News s.heap L' h₁ cells →
      CellsAre (bindC (envOfC qual scope L' f cdv).kindOf binds fun _ => none) (cellsFrom (L' + 1) scope.names []) cells →
      wpAny (model prog w) (A.deeper (envOfC qual scope L' f cdv)) (execs body (envOfC qual scope L' f cdv))
        (fun fl s' => Q (match fl with | .ret v => v | _ => .none) s')
        (fun e s' => wpAny (model prog w) (A.deeper (envOfC qual scope L' f cdv)) (leaving (envOfC qual scope L' f cdv) e) (fun _ s'' => E e s'') (fun e' s'' => E e' s'') s')
        { s with heap := h₁, toks := tk })
    (hco : scope.isCoroutine = false) (hgen : scope.isGenerator = false) (hk : scope.kind = .function) : wpAny (model prog w) A (call (.ref f) args) Q E s := by
  refine wpAny_call ?_
  refine codeAny_call_function hroom (X _ _ ho) rfl hco hgen rfl (codeRec_of X hcd) (hbind _ _ _ _ ?_)
  refine wpAny_newFunctionEnv_cells hk (kindsX hkind _) fun env' he s' x => ?_
  subst he
  refine ⟨T.nolimit.keeps x.toInCall.keep, codeAny_func ?_⟩
  obtain ⟨h₁, tk, rfl, _⟩ := x.done
  have hk₁ := x.toInCall.keep
  obtain ⟨cells, NC, Y⟩ := Cl.news (h₀ := s.heap) (Nat.le_refl _) fun n c hm => ⟨x.cell n c (lookup_of_mem_nodup (cellsFrom_names scope.names 0 (s.heap.objs.size + 1) [] [] rfl ▸ hnd) hm), x.above n c hm⟩
  exact h s.heap.objs.size h₁ tk cells ⟨x.toInCall.ns, hk₁, Nat.le_refl _⟩ NC Y

end

section
variable {w : World} {mean : ExcName → Option Value} {mg mb : Str → Option Value} {f : Addr} {args : List Value} {sz : Nat} {Pre : Heap → Prop} {Post : List (Addr × Obj) → Value → Prop}
  {dp un : Nat} {gd : Option (List Code)} {fr : Option (List Env)} {s : Shared} {Q E : Value → Shared → Prop} {vp : Program} {lo : List Str} {h₀ : Heap} {L : Addr} {m : Str → Option Value} {news : List (Addr × Obj)}

theorem Fr.kept {h h' : Heap} (F : Fr h₀ L h m) (k : Keeps h h') : Fr h₀ L h' m := F.keeps k
theorem News.kept {h h' : Heap} (N : News h₀ L h news) (k : Keeps h h') : News h₀ L h' news := N.grown k
theorem News.added {h h' : Heap} {tl : List (Addr × Obj)} (F : Fr h₀ L h m) (N : News h₀ L h news) (k : Keeps h h') (n : NewIn h h' tl) : News h₀ L h' (tl ++ news) := by
  intro p hp
  rcases List.mem_append.mp hp with hp | hp
  · refine ⟨(n p hp).1, fun e => ?_, ?_⟩
    · obtain ⟨o, _, _, hL, _⟩ := F.ns
      have := (n p hp).2
      rw [e, hL] at this; cases this
    · cases q : h₀.get? p.1 with
      | none => rfl
      | some o => have := (n p hp).2; rw [F.keep _ _ q] at this; cases this
  · exact News.kept N k p hp

/-- a contract used in a frame -/
theorem Con.use (C : Con w mg mb f args sz Pre Post) (F : Fr h₀ L s.heap m) (X : (hk w.params).In h₀) (N : News h₀ L s.heap news)
    (T : TopRead vp lo mg mb h₀) (pre : Pre s.heap) (hd : dp + sz < recursionLimit) (hu : un + 8 * sz < cLine)
    (h : ∀ r tl h' tk', Keeps s.heap h' → NewIn s.heap h' tl → Fr h₀ L h' m → News h₀ L h' (tl ++ news) → Post tl r → Q r { s with heap := h', toks := tk' }) :
    wpAny (model Challenge.rw_mq0167_01.row.prog w) (AR dp un gd fr) (call (.ref f) args) Q E s :=
  C dp un gd fr s Q E vp lo (X.keeps F.keep) (T.keeps F.keep) pre hd hu fun r tl h' tk' k n p => h r tl h' tk' k n (Fr.kept F k) (News.added F N k n) p

/-- a contract whose result is told by its value alone -/
theorem Con.useV (C : Con w mg mb f args sz Pre Post) (F : Fr h₀ L s.heap m) (X : (hk w.params).In h₀) (N : News h₀ L s.heap news)
    (T : TopRead vp lo mg mb h₀) (pre : Pre s.heap) (hd : dp + sz < recursionLimit) (hu : un + 8 * sz < cLine)
    (h : ∀ r tl h' tk', Fr h₀ L h' m → News h₀ L h' news → Post tl r → Q r { s with heap := h', toks := tk' }) :
    wpAny (model Challenge.rw_mq0167_01.row.prog w) (AR dp un gd fr) (call (.ref f) args) Q E s :=
  C.use F X N T pre hd hu fun r tl h' tk' _ _ F' N' p => h r tl h' tk' F' (fun q hq => N' q (List.mem_append_right _ hq)) p
end
end Mine
end
section
open PySem PySem.W PySem.Calls PyProof.Rows
set_option Elab.async false
set_option maxRecDepth 100000
namespace Mine
/-- a text by its codes -/
def S (l : List Nat) : Str := ⟨l.toArray⟩
@[simp] theorem S_cps (l : List Nat) : (S l).cps = l.toArray := rfl
theorem S_len (l : List Nat) : (S l).length = l.length := by simp [S, Str.length]
theorem S_inj {a b : List Nat} : S a = S b ↔ a = b := by
  constructor
  · intro h
    have := congrArg (fun x => x.cps.toList) h
    simpa [S] using this
  · rintro rfl; rfl
theorem S_of (x : Str) : S x.cps.toList = x := by cases x; simp [S]
theorem S_append (a b : List Nat) : S a ++ S b = S (a ++ b) := by
  apply Str.ext'
  simp [S, Str.cps_append]
noncomputable def IsStr (v : Value) (l : List Nat) : Prop := ∃ tk, v = .str (S l) tk
theorem IsStr.of {x : Str} {tk : Tok} {l : List Nat} (h : x = S l) : IsStr (.str x tk) l := ⟨tk, by rw [h]⟩
noncomputable def IsInt (v : Value) (n : Int) : Prop := ∃ tk, v = .int n tk
theorem IsInt.of {x n : Int} {tk : Tok} (h : x = n) : IsInt (.int x tk) n := ⟨tk, by rw [h]⟩
section
variable {w : World} {mean : ExcName → Option Value} {mg mb : Str → Option Value} {f : Addr} {args : List Value} {sz : Nat} {Pre : Heap → Prop}
  {dp un : Nat} {gd : Option (List Code)} {fr : Option (List Env)} {s : Shared} {Q E : Value → Shared → Prop} {vp : Program} {lo : List Str} {h₀ : Heap} {L : Addr} {m : Str → Option Value} {news : List (Addr × Obj)}
theorem Con.useS {l : List Nat} (C : Con w mg mb f args sz Pre (fun _ r => IsStr r l)) (F : Fr h₀ L s.heap m) (X : (hk w.params).In h₀) (N : News h₀ L s.heap news)
    (T : TopRead vp lo mg mb h₀) (pre : Pre s.heap) (hd : dp + sz < recursionLimit) (hu : un + 8 * sz < cLine)
    (h : ∀ t' h' tk', Fr h₀ L h' m → News h₀ L h' news → Q (.str (S l) t') { s with heap := h', toks := tk' }) :
    wpAny (model Challenge.rw_mq0167_01.row.prog w) (AR dp un gd fr) (call (.ref f) args) Q E s :=
  C.useV F X N T pre hd hu fun r tl h' tk' F' N' p => by obtain ⟨t', rfl⟩ := p; exact h t' h' tk' F' N'
theorem Con.useB {b : Bool} (C : Con w mg mb f args sz Pre (fun _ r => r = .bool b)) (F : Fr h₀ L s.heap m) (X : (hk w.params).In h₀) (N : News h₀ L s.heap news)
    (T : TopRead vp lo mg mb h₀) (pre : Pre s.heap) (hd : dp + sz < recursionLimit) (hu : un + 8 * sz < cLine)
    (h : ∀ h' tk', Fr h₀ L h' m → News h₀ L h' news → Q (.bool b) { s with heap := h', toks := tk' }) :
    wpAny (model Challenge.rw_mq0167_01.row.prog w) (AR dp un gd fr) (call (.ref f) args) Q E s :=
  C.useV F X N T pre hd hu fun r tl h' tk' F' N' p => by subst p; exact h h' tk' F' N'
theorem Con.useI {n : Int} (C : Con w mg mb f args sz Pre (fun _ r => IsInt r n)) (F : Fr h₀ L s.heap m) (X : (hk w.params).In h₀) (N : News h₀ L s.heap news)
    (T : TopRead vp lo mg mb h₀) (pre : Pre s.heap) (hd : dp + sz < recursionLimit) (hu : un + 8 * sz < cLine)
    (h : ∀ t' h' tk', Fr h₀ L h' m → News h₀ L h' news → Q (.int n t') { s with heap := h', toks := tk' }) :
    wpAny (model Challenge.rw_mq0167_01.row.prog w) (AR dp un gd fr) (call (.ref f) args) Q E s :=
  C.useV F X N T pre hd hu fun r tl h' tk' F' N' p => by obtain ⟨t', rfl⟩ := p; exact h t' h' tk' F' N'
end
/-- the sign at a place: 0 .. 25 -/
noncomputable def sig (p : Nat) : Nat := if p % 2 = 0 then p / 26 else 13 + p / 2 % 13
theorem sign_con (w : World) (mg mb : Str → Option Value) (p b : Nat) (t u : Tok) (h1 : p < 400) (hf1 : b < 100) :
    Con w mg mb 90 [.int (p : Int) t, .int (b : Int) u] 1 (fun h => True) (fun tl r => IsStr r [b + sig p]) := by
  w_on
  w_top on
  k_with_none
  unfold Con
  k_fill
  intro dp un gd fr s Q E vp lo X T hpre hd hu hret
  k_dflt (refine' enter ?k1 ?k2 ?k6 ?k7 ?k8 ?k9 ?kB ?_ ?c2 ?c3 ?c4 ?c5; (case k1 => assumption); (case k2 => assumption); (case k6 => k_is); (case k7 => k_is); (case k8 => first | exact roomA hd | (show dp < recursionLimit; omega)); (case k9 => first | exact BindsTo.of_eq rfl | exact binds_K (by assumption) rfl (by k_is) rfl rfl rfl); (case c5 => decide); (case kB => exact locs rfl); (case c2 => exact rfl); (case c3 => exact rfl); (case c4 => exact rfl); k_whole; intro L' h' F' N'; (try dsimp only); (show wpAny _ _ _ _ _ _); k_fold)
  k_steps
  all_goals try dsimp only
  all_goals (refine hret _ [] _ _ (Fr.keep (by k_asm)) (fun _ h9 => nomatch h9) (IsStr.of ?_))
  · rename_i h9
    have e : Int.toNat ((b : Int) + (13 + ((p : Int).fdiv 2).fmod 13)) = b + sig p := by
      unfold sig
      rw [Int.fmod_eq_emod_of_nonneg _ (by (first | lia | omega)), Int.fdiv_eq_ediv_of_nonneg _ (by (first | lia | omega))]
      have : (p : Int).fmod 2 ≠ 0 := by assumption
      rw [Int.fmod_eq_emod_of_nonneg _ (by (first | lia | omega))] at this
      rw [if_neg (by (first | lia | omega))]
      (first | lia | omega)
    rw [e]; rfl
  · have e : Int.toNat ((b : Int) + (p : Int).fdiv 26) = b + sig p := by
      unfold sig
      rw [Int.fdiv_eq_ediv_of_nonneg _ (by (first | lia | omega))]
      have : (p : Int).fmod 2 = 0 := by assumption
      rw [Int.fmod_eq_emod_of_nonneg _ (by (first | lia | omega))] at this
      rw [if_pos (by (first | lia | omega))]
      (first | lia | omega)
    rw [e]; rfl
end Mine
end
section
open PySem PySem.W PySem.Calls PyProof.Rows
open PySem.Builtin.Str PySem.Builtin
set_option Elab.async false
set_option maxRecDepth 100000
set_option maxHeartbeats 1000000
namespace Mine
theorem fmt_meets (a b : Str) (ha : a.length ≤ 1000000) (hb : b.length ≤ 1000000) (n : Int) (h0 : 0 ≤ n) (h1 : n < 10 ^ 10) (t ta tn tb : Tok) (x : Addr) :
    Meets («str.__mod__» ⟨[.str ⟨#[37, 115, 91, 37, 100, 32, 99, 104, 97, 114, 115, 93, 37, 115]⟩ t, .ref x], []⟩)
      (fun _ R s => IsTup s.heap x #[.str a ta, .int n tn, .str b tb] ∧ ∀ t' k, R (.ok (.ret (.str (a ++ Str.ofString "[" ++ Str.ofString (toString n) ++ Str.ofString " chars]" ++ b) t'))) { s with toks := k }) := by
  kpt_run
end Mine
end
section
open PySem PySem.W PySem.Calls PyProof.Rows PyProof
set_option Elab.async false
namespace Mine
theorem beqS {a b : Str} (h : (a == b) = true) : a = b := beq_iff_eq.mp h
theorem slice_take (x : Str) (p : Nat) : Txt.slice x none (some (p : Int)) = S (x.cps.toList.take p) := by
  by_cases h : p ≤ x.cps.toList.length
  · have := beqS (slice_closes_to (x := x) (j := (p : Int)) ⟨by (first | lia | omega), by (first | lia | omega)⟩)
    rw [this]; simp [S]
  · have hl : x.length = x.cps.toList.length := by simp [Str.length]
    rw [List.take_of_length_le (by (first | lia | omega)), S_of]
    unfold Txt.slice
    rw [if_pos]
    simp only [Bool.and_eq_true, beq_self_eq_true, true_and, beq_iff_eq]
    unfold Builtin.Str.strSliceIndices sliceRange
    simp only [show (1 : Int) > 0 by decide, if_true, List.length_map, List.length_range]
    split <;> (try split) <;> (try simp only [Int.ediv_one]) <;> (first | lia | omega)
theorem slice_drop (x : Str) (k : Nat) : Txt.slice x (some (k : Int)) none = S (x.cps.toList.drop k) := by
  have hl : x.length = x.cps.toList.length := by simp [Str.length]
  by_cases h : k ≤ x.cps.toList.length
  · rw [slice_from_eq (x := x) (i := (k : Int)) (b := (x.length : Int)) (by (first | lia | omega)) (by (first | lia | omega)) rfl]
    simp only [S, Int.toNat_natCast]
    congr 1
    rw [List.take_of_length_le]
    simp only [List.length_drop]; (first | lia | omega)
  · rw [slice_beyond (by (first | lia | omega)), List.drop_eq_nil_of_le (by (first | lia | omega))]; rfl
end Mine
end
section
open PySem PySem.W PySem.Calls PyProof.Rows PyProof PySem.Builtin.Str
set_option Elab.async false
namespace Mine
/-- a letter's code -/
noncomputable def isL (c : Nat) : Bool := (65 ≤ c && c ≤ 90) || (97 ≤ c && c ≤ 122)
noncomputable def Letters (l : List Nat) : Prop := ∀ c ∈ l, isL c = true
theorem reprChar_letter : ∀ c : Fin 128, isL c.1 = true → reprChar 39 c.1 = [c.1] := by decide +kernel
theorem reprChar_letter' {c : Nat} (h : isL c = true) : reprChar 39 c = [c] := by
  have hc : c < 128 := by simp [isL] at h; (first | lia | omega)
  exact reprChar_letter ⟨c, hc⟩ h
theorem fold_letters : ∀ (l : List Nat) (acc : Array Nat), Letters l → l.foldl (fun out c => out ++ (reprChar 39 c).toArray) acc = acc ++ l.toArray
  | [], acc, _ => by simp
  | c :: l, acc, h => by
    rw [List.foldl_cons, reprChar_letter' (h c (.head _)), fold_letters l _ fun d hd => h d (.tail _ hd)]
    simp
theorem repr_letters {x : Str} (h : Letters x.cps.toList) : reprText x = S (39 :: (x.cps.toList ++ [39])) := by
  have hq : reprQuote x = 39 := by
    unfold reprQuote
    rw [if_neg]
    intro h'
    have h1 := (Bool.and_eq_true_iff.mp h').1
    have h2 : (39 : Nat) ∈ x.cps.toList := by simpa using h1
    exact absurd (h 39 h2) (by decide)
  unfold reprText
  simp only [hq]
  rw [← Array.foldl_toList, fold_letters _ _ h]
  simp [S]
end Mine
end
section
open PySem PySem.W PySem.Calls PyProof.Rows PyProof
set_option Elab.async false
namespace Mine
inductive All2 {α β : Type} (R : α → β → Prop) : List α → List β → Prop
  | nil : All2 R [] []
  | cons {a b as bs} : R a b → All2 R as bs → All2 R (a :: as) (b :: bs)
section
variable {α β γ : Type} {R R' : α → β → Prop}
theorem All2.length {as : List α} {bs : List β} (h : All2 R as bs) : as.length = bs.length := by
  induction h with
  | nil => rfl
  | cons _ _ ih => rw [List.length_cons, List.length_cons, ih]
theorem All2.mono (i : ∀ a b, R a b → R' a b) {as : List α} {bs : List β} (h : All2 R as bs) : All2 R' as bs := by
  induction h with
  | nil => exact .nil
  | cons h _ ih => exact .cons (i _ _ h) ih
theorem All2.append {as as' : List α} {bs bs' : List β} (h : All2 R as bs) (k : All2 R as' bs') : All2 R (as ++ as') (bs ++ bs') := by
  induction h with
  | nil => exact k
  | cons h _ ih => exact .cons h ih
theorem All2.snoc {as : List α} {bs : List β} {a : α} {b : β} (h : All2 R as bs) (k : R a b) : All2 R (as ++ [a]) (bs ++ [b]) := h.append (.cons k .nil)
theorem All2.get {as : List α} {bs : List β} (h : All2 R as bs) {i : Nat} {a : α} (e : as[i]? = some a) : ∃ b, bs[i]? = some b ∧ R a b := by
  induction h generalizing i with
  | nil => cases e
  | cons h _ ih =>
    cases i with
    | zero => cases e; exact ⟨_, rfl, h⟩
    | succ i => exact ih e
theorem All2.get' {as : List α} {bs : List β} (h : All2 R as bs) {i : Nat} {b : β} (e : bs[i]? = some b) : ∃ a, as[i]? = some a ∧ R a b := by
  induction h generalizing i with
  | nil => cases e
  | cons h _ ih =>
    cases i with
    | zero => cases e; exact ⟨_, rfl, h⟩
    | succ i => exact ih e
end
/-- where an object is told: a heap, or a list of new objects -/
noncomputable abbrev Gt := Addr → Obj → Prop
noncomputable def inH (h : Heap) : Gt := fun a o => h.get? a = some o
noncomputable def inL (tl : List (Addr × Obj)) : Gt := fun a o => (a, o) ∈ tl
noncomputable def Gt.le (G G' : Gt) : Prop := ∀ a o, G a o → G' a o
theorem inH_le {h h' : Heap} (k : Keeps h h') : Gt.le (inH h) (inH h') := fun a o e => k a o e
theorem inL_inH {h h' : Heap} {tl : List (Addr × Obj)} (n : NewIn h h' tl) : Gt.le (inL tl) (inH h') := fun _ _ e => (n _ e).1
theorem inL_news {h₀ h : Heap} {L : Addr} {news tl : List (Addr × Obj)} (N : News h₀ L h news) (s : ∀ p ∈ tl, p ∈ news) : Gt.le (inL tl) (inH h) := fun _ _ e => (N _ (s _ e)).1
theorem newIn_of {h₀ h : Heap} {L : Addr} {news : List (Addr × Obj)} (N : News h₀ L h news) : NewIn h₀ h news := fun p hp => ⟨(N p hp).1, (N p hp).2.2⟩
noncomputable def ListG (G : Gt) (v : Value) (vs : List Value) : Prop := ∃ a o n, v = .ref a ∧ G a o ∧ o.cls = .type "list" ∧ o.data = .seq vs.toArray n
noncomputable def TupG (G : Gt) (v : Value) (vs : List Value) : Prop := ∃ a o n, v = .ref a ∧ G a o ∧ o.cls = .type "tuple" ∧ o.data = .seq vs.toArray n
noncomputable def IntsG (G : Gt) (v : Value) (ns : List Nat) : Prop := ∃ vs, ListG G v vs ∧ IntsAre vs (ns.map fun n : Nat => (n : Int))
noncomputable def PairG (G : Gt) (v : Value) (p : Nat × Nat) : Prop := ∃ t u, TupG G v [.int (p.1 : Int) t, .int (p.2 : Int) u]
noncomputable def RunsG (G : Gt) (v : Value) (ps : List (Nat × Nat)) : Prop := ∃ vs, ListG G v vs ∧ All2 (PairG G) vs ps
noncomputable def KindG (G : Gt) (v : Value) (k : Nat × List Nat) : Prop := ∃ t sv, TupG G v [.int (k.1 : Int) t, sv] ∧ IntsG G sv k.2
noncomputable def KindsG (G : Gt) (v : Value) (ks : List (Nat × List Nat)) : Prop := ∃ vs, ListG G v vs ∧ All2 (KindG G) vs ks
noncomputable def StrsG (G : Gt) (v : Value) (ls : List (List Nat)) : Prop := ∃ vs, ListG G v vs ∧ All2 IsStr vs ls
noncomputable def StrTG (G : Gt) (v : Value) (ls : List (List Nat)) : Prop := ∃ vs, TupG G v vs ∧ All2 IsStr vs ls
section
variable {G G' : Gt} {v : Value}
theorem ListG.mono {vs : List Value} (h : ListG G v vs) (i : Gt.le G G') : ListG G' v vs := let ⟨a, o, n, e, g, r⟩ := h; ⟨a, o, n, e, i _ _ g, r⟩
theorem TupG.mono {vs : List Value} (h : TupG G v vs) (i : Gt.le G G') : TupG G' v vs := let ⟨a, o, n, e, g, r⟩ := h; ⟨a, o, n, e, i _ _ g, r⟩
theorem IntsG.mono {ns : List Nat} (h : IntsG G v ns) (i : Gt.le G G') : IntsG G' v ns := let ⟨vs, e, r⟩ := h; ⟨vs, e.mono i, r⟩
theorem PairG.mono {p : Nat × Nat} (h : PairG G v p) (i : Gt.le G G') : PairG G' v p := let ⟨t, u, r⟩ := h; ⟨t, u, r.mono i⟩
theorem RunsG.mono {ps : List (Nat × Nat)} (h : RunsG G v ps) (i : Gt.le G G') : RunsG G' v ps := let ⟨vs, e, r⟩ := h; ⟨vs, e.mono i, r.mono fun _ _ x => x.mono i⟩
theorem KindG.mono {k : Nat × List Nat} (h : KindG G v k) (i : Gt.le G G') : KindG G' v k := let ⟨t, sv, e, r⟩ := h; ⟨t, sv, e.mono i, r.mono i⟩
theorem KindsG.mono {ks : List (Nat × List Nat)} (h : KindsG G v ks) (i : Gt.le G G') : KindsG G' v ks := let ⟨vs, e, r⟩ := h; ⟨vs, e.mono i, r.mono fun _ _ x => x.mono i⟩
theorem StrsG.mono {ls : List (List Nat)} (h : StrsG G v ls) (i : Gt.le G G') : StrsG G' v ls := let ⟨vs, e, r⟩ := h; ⟨vs, e.mono i, r⟩
theorem StrTG.mono {ls : List (List Nat)} (h : StrTG G v ls) (i : Gt.le G G') : StrTG G' v ls := let ⟨vs, e, r⟩ := h; ⟨vs, e.mono i, r⟩
end
theorem ListG.isList {h : Heap} {v : Value} {vs : List Value} (x : ListG (inH h) v vs) : ∃ a, v = .ref a ∧ h.IsList a vs.toArray := let ⟨a, o, n, e, g, c, d⟩ := x; ⟨a, e, o, g, c, n, d⟩
theorem TupG.isTup {h : Heap} {v : Value} {vs : List Value} (x : TupG (inH h) v vs) : ∃ a, v = .ref a ∧ IsTup h a vs.toArray := let ⟨a, o, n, e, g, c, d⟩ := x; ⟨a, e, o, g, c, n, d⟩
/-- what _law_runs gives -/
noncomputable def runsL (size longest shared : Nat) : List (Nat × Nat) :=
  if longest ≤ 80 then [] else if longest < shared + 58 then [(5, longest - 63)] else
    (if 22 < shared then [(5, shared - 5)] else []) ++ (if shared + 58 < size then [(shared + 41, size - 5)] else [])
end Mine
end
section
open PySem PySem.W PySem.Calls PyProof.Rows PyProof
set_option Elab.async false
namespace Mine
/-- a place where the walk stops -/
noncomputable def Stop (P : Prop) : Prop := P
theorem stop {P : Prop} (h : Stop P) : P := h
theorem stopped {P : Prop} (h : P) : Stop P := h
section
variable {prog : Program} {w : World} {A : Around} {E : Value → Shared → Prop} {s : Shared} {env : Env} {h₀ : Heap} {x : Str} {body : List Stmt} {Q : Flow → Shared → Prop}

/-- a loop whose state is the frame's names alone -/
theorem loopV {I : Addr} {fp wr : List Addr} {n : Nat} {P : Nat → Value → Prop} {St : Nat → Heap → Prop} {m₀ : Str → Option Value} {news : List (Addr × Obj)}
    (W : Walks prog w A I fp wr n P St) (hLf : env.locals ∉ fp) (hwr : ∀ b ∈ wr, h₀.get? b = none) (hnw : ∀ p ∈ news, p.1 ∉ wr) (hst : St 0 s.heap)
    (F : Fr h₀ env.locals s.heap m₀) (N : News h₀ env.locals s.heap news) (J : Nat → (Str → Option Value) → Prop) (hj : J 0 m₀)
    (turn : ∀ i v m₁ h tk own, i < n → P i v → J i m₁ → Fr h₀ env.locals h (fun y => if y = x then some v else m₁ y) → News h₀ env.locals h (own ++ news) →
      wpAny (model prog w) A (execs body env) (InvPost h₀ env.locals (J (i + 1)) (own ++ news) { s with heap := h, toks := tk } Q) E { s with heap := h, toks := tk })
    (done : ∀ m₁ h tk, J n m₁ → Fr h₀ env.locals h m₁ → News h₀ env.locals h news → Q .next { s with heap := h, toks := tk }) :
    LoopAtV prog w A h₀ env x body Q E (.ref I) s := by
  refine ⟨I, fp, wr, n, P, St, m₀, news, fun i m nx => nx = news ∧ J i m, rfl, W, hLf, hwr, hnw, hst, F, N, ⟨rfl, hj⟩, ?_, ?_⟩
  · rintro i v m₁ news₁ s₁ own ⟨h, tk, rfl⟩ hi hP ⟨rfl, hJ⟩ hoff _ _ _ _ F₁ N₁
    refine wpAny_mono (turn i v m₁ h tk own hi hP hJ F₁ N₁) (fun f s₂ p => ?_) fun _ _ e => e
    have fin : InvEnd h₀ env.locals (J (i + 1)) (own ++ news₁) { s with heap := h, toks := tk } s₂ → LoopStepU h₀ env.locals wr own (fun m nx => nx = news₁ ∧ J (i + 1) m) { s with heap := h, toks := tk } .next s₂ := by
      rintro ⟨h', tk', m', news', e, F', N', hn, hm⟩
      exact ⟨rfl, h', tk', m', news₁, e, F', fun p hp => N' p (hn p hp), hoff, rfl, hm⟩
    cases f with
    | ret v => exact .ret p
    | brk => exact .brk p
    | next => exact .next (fin p)
    | cont => exact .cont (fin p)
  · rintro h' tk m' news' F' N' _ ⟨rfl, hJ⟩
    exact done m' h' tk hJ F' N'

/-- over a list that stands in the base -/
theorem iterListV {l : Addr} {vs : List Value} {m₀ : Str → Option Value} {news : List (Addr × Obj)} (J : Nat → (Str → Option Value) → Prop)
    (hh : A.handled = none) (hl : h₀.IsList l vs.toArray) (F : Fr h₀ env.locals s.heap m₀) (N : News h₀ env.locals s.heap news) (hj : J 0 m₀)
    (turn : ∀ i v m₁ h tk own, i < vs.length → vs[i]? = some v → J i m₁ → Fr h₀ env.locals h (fun y => if y = x then some v else m₁ y) → News h₀ env.locals h (own ++ news) →
      wpAny (model prog w) A (execs body env) (InvPost h₀ env.locals (J (i + 1)) (own ++ news) { s with heap := h, toks := tk } Q) E { s with heap := h, toks := tk })
    (done : ∀ m₁ h tk, J vs.length m₁ → Fr h₀ env.locals h m₁ → News h₀ env.locals h news → Q .next { s with heap := h, toks := tk }) :
    wpAny (model prog w) A (pyIter (.ref l)) (fun it s₂ => LoopAtV prog w A h₀ env x body Q E it s₂) E s := by
  have hls : s.heap.IsList l vs.toArray := hl.at fun o e => F.keep l o e
  obtain ⟨ol, hol, _⟩ := id hl
  have hlt : l < h₀.objs.size := Heap.lt_size hol
  have hne : l ≠ s.heap.objs.size := Nat.ne_of_lt (Nat.lt_trans (Nat.lt_of_lt_of_le hlt F.above) F.ns.lt)
  refine wpAny_pyIter_list hls ?_
  have W := Walks.list (prog := prog) (w := w) hh s.heap.objs.size l hne vs.toArray
  rw [List.size_toArray] at W
  refine loopV (s := { s with heap := _ }) W ?_ ?_ ?_ ⟨⟨_, Heap.get?_push_size _ rfl, rfl, rfl⟩, hls.at fun o e => Heap.get?_push_of_some _ e⟩ (F.push _) (fun p hp => ⟨Heap.get?_push_of_some _ (N p hp).1, (N p hp).2⟩) J hj ?_ done
  · intro hm
    rcases List.mem_cons.mp hm with e | hm
    · exact absurd F.ns.lt (e ▸ Nat.lt_irrefl _)
    · exact absurd (Nat.lt_of_lt_of_le hlt F.above) ((List.mem_singleton.mp hm) ▸ Nat.lt_irrefl _)
  · intro b hb
    rw [List.mem_singleton.mp hb]
    exact next_is_new F
  · intro p hp hI
    exact absurd (Heap.lt_size (N p hp).1) ((List.mem_singleton.mp hI) ▸ Nat.lt_irrefl _)
  · intro i v m₁ h tk own hi hP
    exact turn i v m₁ h tk own hi (by simpa using hP)
end
noncomputable def HasStr (m : Str → Option Value) (x : Str) (l : List Nat) : Prop := ∃ t, m x = some (.str (S l) t)
theorem HasStr.of {m : Str → Option Value} {x X : Str} {t : Tok} {l : List Nat} (e : m x = some (.str X t)) (h : X = S l) : HasStr m x l := ⟨t, by rw [e, h]⟩
noncomputable def HasInt (m : Str → Option Value) (x : Str) (n : Int) : Prop := ∃ t, m x = some (.int n t)
theorem HasInt.of {m : Str → Option Value} {x : Str} {t : Tok} {a n : Int} (e : m x = some (.int a t)) (h : a = n) : HasInt m x n := ⟨t, by rw [e, h]⟩
/-- a frame's map, one name told -/
theorem Fr.told {h₀ h : Heap} {L : Addr} {m : Str → Option Value} {x : Str} {v : Value} (F : Fr h₀ L h m) (e : m x = some v) : Fr h₀ L h (fun y => if y = x then some v else m y) := by
  have : (fun y => if y = x then some v else m y) = m := by
    funext y
    by_cases h : y = x
    · subst h; simp [e]
    · simp [h]
  rw [this]; exact F
end Mine
end
section
open PySem PySem.W PySem.Calls PyProof.Rows PyProof PySem.Builtin.Str PySem.StrLaws
set_option Elab.async false
namespace Mine
theorem at_S {l m : List Nat} {i : Nat} : At (S l) (S m) (S l).length i ↔ i + m.length ≤ l.length ∧ (l.drop i).take m.length = m := by
  unfold At
  rw [subAt_eq, S_len, S_len]
  simp [S]
theorem not_at {l : List Nat} {c : Nat} {m : List Nat} {i : Nat} (h : l[i]? ≠ some c) : ¬ At (S l) (S (c :: m)) (S l).length i := by
  rw [at_S]
  rintro ⟨h1, h2⟩
  apply h
  have := congrArg (fun z => z[0]?) h2
  simpa using this
theorem chainG_unique {x y : Str} {n : Nat} (hw : 1 ≤ y.length) : ∀ {cuts cuts' : List Nat} {a f f' : Nat}, ChainG x y n a cuts f → (∀ k, f ≤ k → ¬ At x y n k) → ChainG x y n a cuts' f' → (∀ k, f' ≤ k → ¬ At x y n k) → cuts = cuts'
  | [], [], _, _, _, _, _, _, _ => rfl
  | [], c :: r, a, f, f', h, hn, h', _ => by
    have e : f = a := h
    subst e
    exact absurd h'.2.1 (hn c h'.1)
  | c :: r, [], a, f, f', h, _, h', hn' => by
    have e : f' = a := h'
    subst e
    exact absurd h.2.1 (hn' c h.1)
  | c :: r, c' :: r', a, f, f', h, hn, h', hn' => by
    have e : c = c' := by
      rcases Nat.lt_trichotomy c c' with q | q | q
      · exact absurd h.2.1 (h'.2.2.1 c h.1 q)
      · exact q
      · exact absurd h'.2.1 (h.2.2.1 c' h'.1 q)
    subst e
    rw [chainG_unique hw h.2.2.2 hn h'.2.2.2 hn']
theorem occ_of {x y : Str} {cuts : List Nat} {f : Nat} (hw : 1 ≤ y.length) (h : ChainG x y x.length 0 cuts f) (hn : ∀ k, f ≤ k → ¬ At x y x.length k) : occurrences x y 0 x.length (x.length + 1) = cuts := by
  obtain ⟨f', h', hn'⟩ := occ_tight x y hw
  exact chainG_unique hw h' hn' h hn

/-- parts glued by sep -/
noncomputable def glueL (sep : List Nat) : List (List Nat) → List Nat
  | [] => []
  | [p] => p
  | p :: q :: r => p ++ sep ++ glueL sep (q :: r)
noncomputable def cutsL (w : Nat) : Nat → List (List Nat) → List Nat
  | _, [] => []
  | _, [_] => []
  | a, p :: q :: r => (a + p.length) :: cutsL w (a + p.length + w) (q :: r)
theorem chain_glue (c : Nat) (m : List Nat) : ∀ (parts : List (List Nat)) (pre : List Nat), parts ≠ [] → (∀ p ∈ parts, c ∉ p) →
    ∃ f, ChainG (S (pre ++ glueL (c :: m) parts)) (S (c :: m)) (S (pre ++ glueL (c :: m) parts)).length pre.length (cutsL (c :: m).length pre.length parts) f ∧
      (∀ k, f ≤ k → ¬ At (S (pre ++ glueL (c :: m) parts)) (S (c :: m)) (S (pre ++ glueL (c :: m) parts)).length k) ∧
      partsFrom (S (pre ++ glueL (c :: m) parts)) (c :: m).length pre.length (cutsL (c :: m).length pre.length parts) = parts.map S
  | [], _, h, _ => absurd rfl h
  | [p], pre, _, hf => by
    refine ⟨pre.length, rfl, fun k hk => not_at ?_, ?_⟩
    · intro e
      show False
      simp only [glueL] at e
      rw [List.getElem?_append_right hk] at e
      exact hf p (.head _) (List.mem_of_getElem? e)
    · show [strSub _ _ _] = [S p]
      congr 1
      apply Str.ext'
      apply Array.ext'
      rw [strSub_toList, S_len]
      simp only [S_cps, glueL, List.length_append]
      simp
  | p :: q :: r, pre, _, hf => by
    have e : pre ++ glueL (c :: m) (p :: q :: r) = (pre ++ p ++ (c :: m)) ++ glueL (c :: m) (q :: r) := by simp [glueL]
    obtain ⟨f, h1, h2, h3⟩ := chain_glue c m (q :: r) (pre ++ p ++ (c :: m)) (by simp) fun p' hp => hf p' (.tail _ hp)
    rw [← e] at h1 h2 h3
    have el : (pre ++ p ++ (c :: m)).length = pre.length + p.length + (c :: m).length := by simp only [List.length_append]
    rw [el] at h1 h3
    refine ⟨f, ⟨Nat.le_add_right _ _, ?_, fun k h4 h5 => not_at ?_, ?_⟩, h2, ?_⟩
    · rw [at_S]
      constructor
      · rw [e]; simp only [List.length_append]; (first | lia | omega)
      · rw [e]
        have : pre ++ p ++ c :: m ++ glueL (c :: m) (q :: r) = (pre ++ p) ++ ((c :: m) ++ glueL (c :: m) (q :: r)) := by simp
        rw [this, ← List.length_append, List.drop_left, List.take_left]
    · intro h6
      rw [e] at h6
      have : pre ++ p ++ c :: m ++ glueL (c :: m) (q :: r) = pre ++ (p ++ ((c :: m) ++ glueL (c :: m) (q :: r))) := by simp
      rw [this, List.getElem?_append_right h4, List.getElem?_append_left (by (first | lia | omega))] at h6
      exact hf p (.head _) (List.mem_of_getElem? h6)
    · rw [S_len (c :: m)]
      exact h1
    · show strSub _ _ _ :: partsFrom _ _ _ _ = S p :: List.map S (q :: r)
      rw [h3]
      congr 1
      apply Str.ext'
      apply Array.ext'
      rw [strSub_toList]
      simp only [S_cps, e]
      have : pre ++ p ++ c :: m ++ glueL (c :: m) (q :: r) = pre ++ (p ++ ((c :: m) ++ glueL (c :: m) (q :: r))) := by simp
      rw [this, List.drop_left, Nat.add_sub_cancel_left, List.take_left]
theorem kind_low {l : List Nat} (h : ∀ c ∈ l, c < 256) : Builtin.Str.strKind (S l) = 1 := by
  unfold Builtin.Str.strKind
  rw [if_pos]
  simpa [S] using h
theorem kind_ge (x : Str) : 1 ≤ Builtin.Str.strKind x := by unfold Builtin.Str.strKind; split <;> (try split) <;> decide
theorem split_glue {c : Nat} {m : List Nat} {parts : List (List Nat)} (hne : parts ≠ []) (hf : ∀ p ∈ parts, c ∉ p) (hl : ∀ d ∈ c :: m, d < 256) : Txt.split (S (glueL (c :: m) parts)) (S (c :: m)) = parts.map S := by
  obtain ⟨f, h1, h2, h3⟩ := chain_glue c m parts [] hne hf
  simp only [List.nil_append, List.length_nil] at h1 h2 h3
  have ho := occ_of (by rw [S_len]; simp) h1 h2
  unfold Txt.split
  rw [ho]
  match parts, hne with
  | [p], _ => simp [cutsL, glueL]
  | p :: q :: r, _ =>
    rw [if_neg, if_neg, partsBetween_eq, S_len (c :: m), h3]
    · simp [cutsL]
    · intro h
      rcases Bool.or_eq_true_iff.mp h with h | h
      · have := of_decide_eq_true h
        rw [S_len, S_len] at this
        simp only [glueL, List.length_append] at this
        (first | lia | omega)
      · have := of_decide_eq_true h
        rw [kind_low hl] at this
        have := kind_ge (S (glueL (c :: m) (p :: q :: r)))
        (first | lia | omega)
theorem join_glue (sep : List Nat) : ∀ parts : List (List Nat), Str.join (S sep) (parts.map S) = S (glueL sep parts)
  | [] => rfl
  | [p] => rfl
  | p :: q :: r => by
    show S p ++ S sep ++ Str.join (S sep) ((q :: r).map S) = _
    rw [join_glue sep (q :: r), S_append, S_append]; rfl
theorem txt_join (sep : List Nat) (parts : List (List Nat)) : Txt.join (S sep) (parts.map S) = S (glueL sep parts) := by
  show glued _ _ = _
  rw [glued_eq_join, join_glue]
theorem replace_glue {c : Nat} {m z : List Nat} {parts : List (List Nat)} (hne : parts ≠ []) (hf : ∀ p ∈ parts, c ∉ p) : Txt.replace (S (glueL (c :: m) parts)) (S (c :: m)) (S z) = S (glueL z parts) := by
  obtain ⟨f, h1, h2, h3⟩ := chain_glue c m parts [] hne hf
  simp only [List.nil_append, List.length_nil] at h1 h2 h3
  have ho := occ_of (by rw [S_len]; simp) h1 h2
  unfold Txt.replace
  rw [ho]
  match parts, hne with
  | [p], _ => simp [cutsL, glueL]
  | p :: q :: r, _ =>
    rw [if_neg, partsBetween_eq, S_len (c :: m), h3, glued_eq_join, join_glue]
    simp [cutsL, S_len]
/-- the text holds the mark or not -/
theorem found_glue {c : Nat} {m : List Nat} {parts : List (List Nat)} (hne : parts ≠ []) (hf : ∀ p ∈ parts, c ∉ p) : (occurrences (S (glueL (c :: m) parts)) (S (c :: m)) 0 (S (glueL (c :: m) parts)).length 1).isEmpty = decide (parts.length = 1) := by
  have key := found_iff (S (glueL (c :: m) parts)) (S (c :: m))
  obtain ⟨f, h1, h2, h3⟩ := chain_glue c m parts [] hne hf
  simp only [List.nil_append, List.length_nil] at h1 h2 h3
  match parts, hne with
  | [p], _ =>
    have hn : ¬ ((!(occurrences (S (glueL (c :: m) [p])) (S (c :: m)) 0 (S (glueL (c :: m) [p])).length 1).isEmpty) = true) := by
      rw [key]
      rintro ⟨i, hi⟩
      have e : f = 0 := h1
      exact h2 i (by (first | lia | omega)) hi
    simpa using hn
  | p :: q :: r, _ =>
    have hy : (!(occurrences (S (glueL (c :: m) (p :: q :: r))) (S (c :: m)) 0 (S (glueL (c :: m) (p :: q :: r))).length 1).isEmpty) = true := by
      rw [key]
      exact ⟨_, h1.2.1⟩
    have : (occurrences (S (glueL (c :: m) (p :: q :: r))) (S (c :: m)) 0 (S (glueL (c :: m) (p :: q :: r))).length 1).isEmpty = false := by simpa using hy
    rw [this]
    simp
end Mine
end
open PySem PySem.W PySem.Calls PyProof.Rows PyProof PyProof.Rows.LCg Mine
local macro_rules | `(tactic| walk_at $s:str) => `(tactic| k_extra $s)
section
open PySem PySem.W PySem.Calls PyProof.Rows PyProof
set_option Elab.async false
set_option maxRecDepth 100000
set_option maxHeartbeats 1000000
namespace Mine

noncomputable def IsBool (v : Value) (P : Prop) : Prop := ∃ b, v = .bool b ∧ (b = true ↔ P)
theorem IsBool.of {b : Bool} {P : Prop} (h : b = true ↔ P) : IsBool (.bool b) P := ⟨b, rfl, h⟩
theorem IsBool.yes {P : Prop} (h : P) : IsBool (.bool true) P := .of ⟨fun _ => h, fun _ => rfl⟩
theorem IsBool.no {P : Prop} (h : ¬ P) : IsBool (.bool false) P := .of ⟨(fun e => nomatch e), fun p => absurd p h⟩
theorem starts_S {g a : List Nat} : Txt.startswith (S g) (S a) = true ↔ ∃ z, g = a ++ z := by
  unfold Txt.startswith
  rw [Bool.and_eq_true, StrLaws.subAt_eq, S_len, S_len]
  simp only [decide_eq_true_eq, S_cps, List.drop_zero, beq_iff_eq, Nat.zero_add]
  constructor
  · rintro ⟨h1, h2⟩
    have := List.take_append_drop a.length g
    rw [h2] at this
    exact ⟨_, this.symm⟩
  · rintro ⟨z, rfl⟩
    simp
theorem ends_S {g a : List Nat} : Txt.endswith (S g) (S a) = true ↔ ∃ z, g = z ++ a := by
  unfold Txt.endswith
  rw [Bool.and_eq_true, StrLaws.subAt_eq, S_len, S_len]
  simp only [decide_eq_true_eq, S_cps, beq_iff_eq, Nat.zero_add]
  constructor
  · rintro ⟨h1, h2⟩
    rw [List.take_of_length_le (by simp only [List.length_drop]; (first | lia | omega))] at h2
    have := List.take_append_drop (g.length - a.length) g
    rw [h2] at this
    exact ⟨_, this.symm⟩
  · rintro ⟨z, rfl⟩
    simp
theorem both_S {g a b : List Nat} (h1 : Txt.startswith (S g) (S a) = true) (h2 : Txt.endswith (S g) (S b) = true) (h3 : a.length + b.length ≤ g.length) : ∃ z, g = a ++ z ++ b := by
  obtain ⟨z, rfl⟩ := starts_S.mp h1
  obtain ⟨y, hy⟩ := ends_S.mp h2
  rw [List.length_append] at h3
  rcases List.append_eq_append_iff.mp hy with ⟨c, e1, e2⟩ | ⟨c, e1, e2⟩
  · exact ⟨c, by rw [e2]; simp⟩
  · have hc : c = [] := by
      have h4 := congrArg List.length e1
      have h5 := congrArg List.length e2
      simp only [List.length_append] at h4 h5
      exact List.eq_nil_of_length_eq_zero (by (first | lia | omega))
    subst hc
    exact ⟨[], by simp at e2; rw [e2]; simp⟩

theorem ell2_con (w : World) (mg mb : Str → Option Value) (a b g : List Nat) (x y : Str) (t u : Tok) (hx : x = S (glueL [46, 46, 46] [a, b])) (hy : y = S g) (ha : a ≠ []) (hb : b ≠ []) (hf6 : ∀ p ∈ [a, b], 46 ∉ p) (hxl : x.length < 1000) (hyl : y.length < 1000) :
    Con w mg mb 76 [.str x t, .str y u] 1 (fun h => True) (fun tl r => IsBool r (∃ z, g = a ++ z ++ b)) := by
  w_on
  w_top on
  k_with_none
  k_with "exec Assign" => ((fail_if_success (with_reducible show wpAny _ _ _ qk _ _)); refine letQ ?_; intro qk ek; walk_at "exec Assign")
  k_with "exec If" => ((fail_if_success (with_reducible show wpAny _ _ _ qk _ _)); refine letQ ?_; intro qk ek; walk_at "exec If")
  k_with "eval Call" => ((fail_if_success (with_reducible show wpAny _ _ _ qk _ _)); refine letQ ?_; intro qk ek; walk_at "eval Call")
  k_with "eval BinOp" => ((fail_if_success (with_reducible show wpAny _ _ _ qk _ _)); refine letQ ?_; intro qk ek; walk_at "eval BinOp")
  k_with "eval Subscript" => ((fail_if_success (with_reducible show wpAny _ _ _ qk _ _)); refine letQ ?_; intro qk ek; walk_at "eval Subscript")
  k_with "isTrue Compare" => ((fail_if_success (with_reducible show wpAny _ _ _ qk _ _)); refine letQ ?_; intro qk ek; walk_at "isTrue Compare")
  k_with "isTrue BoolOp" => ((fail_if_success (with_reducible show wpAny _ _ _ qk _ _)); refine letQ ?_; intro qk ek; walk_at "isTrue BoolOp")
  k_with "callWith" => ((fail_if_success (with_reducible show wpAny _ _ _ qk _ _)); refine letQ ?_; intro qk ek; walk_at "callWith")
  k_with "eval Compare" => ((fail_if_success (with_reducible show wpAny _ _ _ qk _ _)); refine letQ ?_; intro qk ek; walk_at "eval Compare")
  k_with "eval Call Attribute" => ((fail_if_success (with_reducible show wpAny _ _ _ qk _ _)); refine letQ ?_; intro qk ek; walk_at "eval Call Attribute")
  k_with "call builtin:str.split" => (k_here; (rename Txt.split _ _ = _ => hsp9); (refine KSpl.split1 (by k_asm) (by k_asm) (by decide) ?_ (by rw [sizeLine_eq]; omega)); (intro D' l' h' k' e' a' F' N' l1); (try k_lt l1); (rw [hsp9] at e'); (kspl_open e'); (simp only [strValues, List.map_cons, List.map_nil] at N' a'))
  k_with "truthy str" => (k_here; refine KXt.truthy_pos (K := 1000) ?_ ?_ (by decide) ?_; (· omega); (· omega); intro _)
  k_with "exec For Name Name cons nil" => refine stop ?_
  k_with "pyIter ref" => refine stop ?_
  unfold Con
  k_fill
  intro dp un gd fr s Q E vp lo X T hpre hd hu hret
  k_dflt (refine' enter ?k1 ?k2 ?k6 ?k7 ?k8 ?k9 ?kB ?_ ?c2 ?c3 ?c4 ?c5; (case k1 => assumption); (case k2 => assumption); (case k6 => k_is); (case k7 => k_is); (case k8 => first | exact roomA hd | (show dp < recursionLimit; omega)); (case k9 => first | exact BindsTo.of_eq rfl | exact binds_K (by assumption) rfl (by k_is) rfl rfl rfl); (case c5 => decide); (case kB => exact locs rfl); (case c2 => exact rfl); (case c3 => exact rfl); (case c4 => exact rfl); k_whole; intro L' h' F' N'; (try dsimp only); (show wpAny _ _ _ _ _ _); k_fold)
  have hdots : Str.ofString "..." = S [46, 46, 46] := by decide +kernel
  have hsp : Txt.split x (Str.ofString "...") = [S a, S b] := by
    rw [hdots, hx]
    exact split_glue (by simp) hf6 (by decide)
  have hfd : (Builtin.Str.occurrences x (Str.ofString "...") 0 x.length 1).isEmpty = false := by
    rw [hdots, hx]
    exact found_glue (by simp) hf6
  have hla : (S a).length < 1000 := by rw [hx, S_len] at hxl; simp [glueL] at hxl; rw [S_len]; (first | lia | omega)
  have hla0 : 1 ≤ (S a).length := by rw [S_len]; exact List.length_pos_iff.mpr ha
  have hlb : (S b).length < 1000 := by rw [hx, S_len] at hxl; simp [glueL] at hxl; rw [S_len]; (first | lia | omega)
  have hlb0 : 1 ≤ (S b).length := by rw [S_len]; exact List.length_pos_iff.mpr hb
  clear hx
  k_steps
  all_goals try dsimp only
  · refine hret _ [] _ _ (Fr.keep (by k_asm)) (fun _ h9 => nomatch h9) (IsBool.no ?_)
    rintro ⟨z, rfl⟩
    have h9 : (y.length : Int) - (S b).length < (S a).length := by assumption
    rw [hy, S_len, S_len, S_len] at h9
    simp only [List.length_append] at h9
    (first | lia | omega)
  · refine stopped ?_
    refine For_invV s.heap rfl rfl ?_
    k_steps
    refine stopped ?_
    refine' kdl_iter (vs := []) (fun _ _ nx => True) rfl ?khl ?kF ?kN trivial (fun i v _ _ _ _ _ e => nomatch e) ?_
    case kF => k_asm
    case kN => k_asm
    case khl => k_mem
    intro m₁ news₁ h tk _ F N
    k_steps
    try dsimp only
    refine hret _ [] _ _ (Fr.keep (by k_asm)) (fun _ h9 => nomatch h9) (IsBool.yes ?_)
    have h1 : Txt.startswith y (S a) = true := by assumption
    have h2 : Txt.endswith y (S b) = true := by assumption
    have h3 : ¬ (y.length : Int) - (S b).length < (S a).length := by assumption
    rw [hy] at h1 h2 h3
    rw [S_len, S_len, S_len] at h3
    exact both_S h1 h2 (by (first | lia | omega))
  · refine hret _ [] _ _ (Fr.keep (by k_asm)) (fun _ h9 => nomatch h9) (IsBool.no ?_)
    rintro ⟨z, rfl⟩
    have h9 : Txt.endswith y (S b) = false := by assumption
    rw [hy, ends_S.mpr ⟨_, rfl⟩] at h9
    cases h9
  · refine hret _ [] _ _ (Fr.keep (by k_asm)) (fun _ h9 => nomatch h9) (IsBool.no ?_)
    rintro ⟨z, rfl⟩
    have h9 : Txt.startswith y (S a) = false := by assumption
    rw [hy, starts_S.mpr ⟨z ++ b, by simp⟩] at h9
    cases h9

end Mine
end
section
open PySem PySem.W PySem.Calls PyProof.Rows PyProof
set_option Elab.async false
set_option maxRecDepth 100000
set_option maxHeartbeats 1000000
namespace Mine
open PySem.Builtin.Str PySem.StrLaws PySem.Builtin
theorem occ_between (x y : Str) (lo hi : Nat) :
    (occurrences x y lo hi 1 = [] ∧ ∀ i, lo ≤ i → ¬ At x y hi i) ∨ ∃ i r, occurrences x y lo hi 1 = i :: r ∧ lo ≤ i ∧ At x y hi i := by
  rw [occ_eq]
  rcases occ_first x y hi 1 (Nat.le_refl _) (List.range' lo (hi + 1 - lo)) lo (fun i hi => by have := List.mem_range'_1.mp hi; (first | lia | omega)) with ⟨h0, hn⟩ | ⟨pre, a, post, e, h0, ha, hn⟩
  · refine .inl ⟨by rw [h0], fun i hlo hi => ?_⟩
    exact hn i (by have := hi.1; rw [List.mem_range'_1]; (first | lia | omega)) hi
  · refine .inr ⟨a, ((forIn (List.range' lo (hi + 1 - lo)) ((#[] : Array Nat), lo) (occBody x y hi 1)).run.fst.toList).tail, ?_, ?_, ha⟩
    · generalize (forIn (List.range' lo (hi + 1 - lo)) ((#[] : Array Nat), lo) (occBody x y hi 1)).run.fst = arr at h0
      have h1 : arr.toList[0]? = some a := by simpa using h0
      cases hL : arr.toList with
      | nil => rw [hL] at h1; cases h1
      | cons b t => rw [hL] at h1; simp at h1; rw [h1]; rfl
    · have : a ∈ List.range' lo (hi + 1 - lo) := by rw [e]; simp
      exact (List.mem_range'_1.mp this).1
theorem gives_find4 (x y : Str) (i j : Int) (t u v w : Tok) : Gives («str.find» ⟨[.str x t, .str y u, .int i v, .int j w], []⟩) (.int (match occurrences x y (fromIndex x.length i) (min (fromIndex x.length j) x.length) 1 with | k :: _ => (k : Int) | [] => -1)) := by
  show Gives (match occurrences x y (fromIndex x.length i) (min (fromIndex x.length j) x.length) 1 with | k :: _ => retInt k | [] => (do rule "str.find.not-found"; retInt (-1))) _
  cases occurrences x y (fromIndex x.length i) (min (fromIndex x.length j) x.length) 1 with
  | nil => exact .rule (.of_eq rfl)
  | cons k _ => exact .of_eq rfl
theorem find4 {prog : Program} {w : World} {A : Around} {E : Value → Shared → Prop} {s : Shared} {x y : Str} {i j : Int} {t u v z : Tok} {Q : Value → Shared → Prop}
    (h0 : 0 ≤ i) (h1 : 0 ≤ j) (h2 : j ≤ x.length)
    (h : ∀ (v : Int), -1 ≤ v → v ≤ j → (0 ≤ v → i.toNat ≤ v.toNat ∧ At x y j.toNat v.toNat) → (v < 0 → ∀ k, i.toNat ≤ k → ¬ At x y j.toNat k) → Q (.int v s.toks) { s with toks := s.toks + 1 }) :
    wpAny (model prog w) A (call (.builtin "str.find") [.str x t, .str y u, .int i v, .int j z]) Q E s := by
  refine call_gives F.slot_str_find (typeIs_str _ _ _) F.entry_str_find (F.args_str_find_4 _ _ _ _) (gives_find4 x y i j t u v z) ?_
  have e1 : fromIndex x.length i = i.toNat := by unfold fromIndex; rw [if_neg (by (first | lia | omega))]; (first | lia | omega)
  have e2 : min (fromIndex x.length j) x.length = j.toNat := by unfold fromIndex; rw [if_neg (by (first | lia | omega))]; (first | lia | omega)
  rw [e1, e2]
  rcases occ_between x y i.toNat j.toNat with ⟨e, hn⟩ | ⟨k, r, e, hk, ha⟩
  · rw [e]; exact h (-1) (by (first | lia | omega)) (by (first | lia | omega)) (fun h => absurd h (by decide)) fun _ => hn
  · rw [e]; exact h (k : Int) (by (first | lia | omega)) (by have := ha.1; (first | lia | omega)) (fun _ => ⟨hk, ha⟩) fun h => absurd h (by (first | lia | omega))
theorem at_hi {l m : List Nat} {hi i : Nat} : At (S l) (S m) hi i ↔ i + m.length ≤ hi ∧ (l.drop i).take m.length = m := by
  unfold At
  rw [subAt_eq, S_len]
  simp [S]
theorem three_yes {g a b c : List Nat} {v : Nat} (h1 : Txt.startswith (S g) (S a) = true) (h2 : Txt.endswith (S g) (S c) = true) (h3 : a.length + c.length ≤ g.length) (h4 : a.length ≤ v) (h5 : At (S g) (S b) (g.length - c.length) v) :
    ∃ z z', g = a ++ z ++ b ++ z' ++ c := by
  obtain ⟨w, rfl⟩ := both_S h1 h2 h3
  rw [at_hi] at h5
  obtain ⟨h5, h6⟩ := h5
  simp only [List.length_append] at h5
  have e : (a ++ w ++ c).drop v = w.drop (v - a.length) ++ c := by
    rw [List.append_assoc, List.drop_append, List.drop_eq_nil_of_le h4, List.nil_append, List.drop_append]
    have : v - a.length - w.length = 0 := by (first | lia | omega)
    rw [this, List.drop_zero]
  rw [e, List.take_append_of_le_length (by simp only [List.length_drop]; (first | lia | omega))] at h6
  refine ⟨w.take (v - a.length), (w.drop (v - a.length)).drop b.length, ?_⟩
  have e2 : w = w.take (v - a.length) ++ (b ++ (w.drop (v - a.length)).drop b.length) := by
    have e3 := List.take_append_drop b.length (w.drop (v - a.length))
    rw [h6] at e3
    rw [e3, List.take_append_drop]
  conv => lhs; rw [e2]
  simp
theorem three_no {g a b c : List Nat} (h : ∀ k, a.length ≤ k → ¬ At (S g) (S b) (g.length - c.length) k) : ¬ ∃ z z', g = a ++ z ++ b ++ z' ++ c := by
  rintro ⟨z, z', rfl⟩
  refine h (a.length + z.length) (by (first | lia | omega)) ?_
  rw [at_hi]
  constructor
  · simp only [List.length_append]; (first | lia | omega)
  · have : a ++ z ++ b ++ z' ++ c = (a ++ z) ++ (b ++ (z' ++ c)) := by simp
    rw [this, ← List.length_append, List.drop_left, List.take_left]

theorem ell3_con (w : World) (mg mb : Str → Option Value) (a b c g : List Nat) (x y : Str) (t u : Tok) (hx : x = S (glueL [46, 46, 46] [a, b, c])) (hy : y = S g) (ha : a ≠ []) (hb : b ≠ []) (hc : c ≠ []) (hf6 : ∀ p ∈ [a, b, c], 46 ∉ p) (hxl : x.length < 1000) (hyl : y.length < 1000) :
    Con w mg mb 76 [.str x t, .str y u] 1 (fun h => True) (fun tl r => IsBool r (∃ z z', g = a ++ z ++ b ++ z' ++ c)) := by
  w_on
  w_top on
  k_with_none
  k_with "exec Assign" => ((fail_if_success (with_reducible show wpAny _ _ _ qk _ _)); refine letQ ?_; intro qk ek; walk_at "exec Assign")
  k_with "exec If" => ((fail_if_success (with_reducible show wpAny _ _ _ qk _ _)); refine letQ ?_; intro qk ek; walk_at "exec If")
  k_with "eval Call" => ((fail_if_success (with_reducible show wpAny _ _ _ qk _ _)); refine letQ ?_; intro qk ek; walk_at "eval Call")
  k_with "eval BinOp" => ((fail_if_success (with_reducible show wpAny _ _ _ qk _ _)); refine letQ ?_; intro qk ek; walk_at "eval BinOp")
  k_with "eval Subscript" => ((fail_if_success (with_reducible show wpAny _ _ _ qk _ _)); refine letQ ?_; intro qk ek; walk_at "eval Subscript")
  k_with "isTrue Compare" => ((fail_if_success (with_reducible show wpAny _ _ _ qk _ _)); refine letQ ?_; intro qk ek; walk_at "isTrue Compare")
  k_with "isTrue BoolOp" => ((fail_if_success (with_reducible show wpAny _ _ _ qk _ _)); refine letQ ?_; intro qk ek; walk_at "isTrue BoolOp")
  k_with "callWith" => ((fail_if_success (with_reducible show wpAny _ _ _ qk _ _)); refine letQ ?_; intro qk ek; walk_at "callWith")
  k_with "eval Compare" => ((fail_if_success (with_reducible show wpAny _ _ _ qk _ _)); refine letQ ?_; intro qk ek; walk_at "eval Compare")
  k_with "eval Call Attribute" => ((fail_if_success (with_reducible show wpAny _ _ _ qk _ _)); refine letQ ?_; intro qk ek; walk_at "eval Call Attribute")
  k_with "call builtin:str.find" => (k_here; (try dsimp only [List.cons_append, List.nil_append]); refine find4 ?_ ?_ ?_ ?_; (· omega); (· omega); (· omega); (intro _ _ _ _ _))
  k_with "call builtin:str.split" => (k_here; (rename Txt.split _ _ = _ => hsp9); (refine KSpl.split1 (by k_asm) (by k_asm) (by decide) ?_ (by rw [sizeLine_eq]; omega)); (intro D' l' h' k' e' a' F' N' l1); (try k_lt l1); (rw [hsp9] at e'); (kspl_open e'); (simp only [strValues, List.map_cons, List.map_nil] at N' a'))
  k_with "truthy str" => (k_here; refine KXt.truthy_pos (K := 1000) ?_ ?_ (by decide) ?_; (· omega); (· omega); intro _)
  unfold Con
  k_fill
  intro dp un gd fr s Q E vp lo X T hpre hd hu hret
  k_dflt (refine' enter ?k1 ?k2 ?k6 ?k7 ?k8 ?k9 ?kB ?_ ?c2 ?c3 ?c4 ?c5; (case k1 => assumption); (case k2 => assumption); (case k6 => k_is); (case k7 => k_is); (case k8 => first | exact roomA hd | (show dp < recursionLimit; omega)); (case k9 => first | exact BindsTo.of_eq rfl | exact binds_K (by assumption) rfl (by k_is) rfl rfl rfl); (case c5 => decide); (case kB => exact locs rfl); (case c2 => exact rfl); (case c3 => exact rfl); (case c4 => exact rfl); k_whole; intro L' h' F' N'; (try dsimp only); (show wpAny _ _ _ _ _ _); k_fold)
  have hdots : Str.ofString "..." = S [46, 46, 46] := by decide +kernel
  have hsp : Txt.split x (Str.ofString "...") = [S a, S b, S c] := by
    rw [hdots, hx]
    exact split_glue (by simp) hf6 (by decide)
  have hfd : (Builtin.Str.occurrences x (Str.ofString "...") 0 x.length 1).isEmpty = false := by
    rw [hdots, hx]
    exact found_glue (by simp) hf6
  have hla : (S a).length < 1000 := by rw [hx, S_len] at hxl; simp [glueL] at hxl; rw [S_len]; (first | lia | omega)
  have hla0 : 1 ≤ (S a).length := by rw [S_len]; exact List.length_pos_iff.mpr ha
  have hlb : (S b).length < 1000 := by rw [hx, S_len] at hxl; simp [glueL] at hxl; rw [S_len]; (first | lia | omega)
  have hlb0 : 1 ≤ (S b).length := by rw [S_len]; exact List.length_pos_iff.mpr hb
  have hlc : (S c).length < 1000 := by rw [hx, S_len] at hxl; simp [glueL] at hxl; rw [S_len]; (first | lia | omega)
  have hlc0 : 1 ≤ (S c).length := by rw [S_len]; exact List.length_pos_iff.mpr hc
  clear hx
  k_steps
  all_goals try dsimp only
  all_goals (refine hret _ [] _ _ (Fr.keep (by k_asm)) (fun _ h9 => nomatch h9) ?_)
  · refine IsBool.no ?_
    rintro ⟨z, z', rfl⟩
    have h9 : (y.length : Int) - (S c).length < (S a).length := by assumption
    rw [hy, S_len, S_len, S_len] at h9
    simp only [List.length_append] at h9
    (first | lia | omega)
  · refine IsBool.no (three_no ?_)
    rename ((_ : Int) < 0 → _) => hn
    rename ((_ : Int) < 0) => hv
    have h9 := hn hv
    rw [hy, S_len, S_len, S_len] at h9
    intro k hk ha
    refine h9 k (by (first | lia | omega)) ?_
    have e : ((g.length : Int) - (c.length : Int)).toNat = g.length - c.length := by (first | lia | omega)
    rw [e]; exact ha
  · refine IsBool.yes ?_
    rename (0 ≤ (_ : Int) → _) => hp
    rename (¬ ((_ : Int) < 0)) => hv
    have h9 := hp (by (first | lia | omega))
    have h1 : Txt.startswith y (S a) = true := by assumption
    have h2 : Txt.endswith y (S c) = true := by assumption
    have h3 : ¬ (y.length : Int) - (S c).length < (S a).length := by assumption
    rw [hy] at h1 h2 h3 h9
    rw [S_len, S_len, S_len] at h3 h9
    have e : ((g.length : Int) - (c.length : Int)).toNat = g.length - c.length := by (first | lia | omega)
    rw [e] at h9
    exact three_yes h1 h2 (by (first | lia | omega)) (by (first | lia | omega)) h9.2
  · refine IsBool.no ?_
    rintro ⟨z, z', rfl⟩
    have h9 : Txt.endswith y (S c) = false := by assumption
    rw [hy, ends_S.mpr ⟨_, rfl⟩] at h9
    cases h9
  · refine IsBool.no ?_
    rintro ⟨z, z', rfl⟩
    have h9 : Txt.startswith y (S a) = false := by assumption
    rw [hy, starts_S.mpr ⟨z ++ b ++ z' ++ c, by simp⟩] at h9
    cases h9

end Mine
end
section
open PySem PySem.W PySem.Calls PyProof.Rows PyProof
set_option Elab.async false
set_option maxRecDepth 100000
set_option maxHeartbeats 1000000
namespace Mine

theorem ell1_con (w : World) (mg mb : Str → Option Value) (a g : List Nat) (x y : Str) (t u : Tok) (hx : x = S a) (hy : y = S g) (hf6 : 46 ∉ a) (hxl : x.length < 1000) (hyl : y.length < 1000) :
    Con w mg mb 76 [.str x t, .str y u] 1 (fun h => True) (fun tl r => IsBool r (a = g)) := by
  w_on
  w_top on
  k_with_none
  unfold Con
  k_fill
  intro dp un gd fr s Q E vp lo X T hpre hd hu hret
  k_dflt (refine' enter ?k1 ?k2 ?k6 ?k7 ?k8 ?k9 ?kB ?_ ?c2 ?c3 ?c4 ?c5; (case k1 => assumption); (case k2 => assumption); (case k6 => k_is); (case k7 => k_is); (case k8 => first | exact roomA hd | (show dp < recursionLimit; omega)); (case k9 => first | exact BindsTo.of_eq rfl | exact binds_K (by assumption) rfl (by k_is) rfl rfl rfl); (case c5 => decide); (case kB => exact locs rfl); (case c2 => exact rfl); (case c3 => exact rfl); (case c4 => exact rfl); k_whole; intro L' h' F' N'; (try dsimp only); (show wpAny _ _ _ _ _ _); k_fold)
  have hdots : Str.ofString "..." = S [46, 46, 46] := by decide +kernel
  have hfd : (Builtin.Str.occurrences x (Str.ofString "...") 0 x.length 1).isEmpty = true := by
    rw [hdots, hx]
    exact found_glue (parts := [a]) (by simp) (by simpa using hf6)
  k_steps
  all_goals try dsimp only
  refine hret _ [] _ _ (Fr.keep (by k_asm)) (fun _ h9 => nomatch h9) (IsBool.of ?_)
  rw [hx, hy, beq_iff_eq, S_inj]

end Mine
end
section
open PySem PySem.W PySem.Calls PyProof.Rows PyProof
set_option Elab.async false
namespace Mine
theorem getD_at {α : Type} {l : List α} {d : α} {i : Nat} (h : i < l.length) : l.getD i d = l[i] := by
  rw [List.getD_eq_getElem?_getD, List.getElem?_eq_getElem h]; rfl
theorem llt_trans {a b c : List Nat} (h : a < b) (k : b < c) : a < c := List.lt_trans h k
theorem argBest_le (bt : Nat → Nat → Bool) : ∀ n, argBest bt n ≤ n
  | 0 => Nat.le_refl _
  | n + 1 => by
    unfold argBest
    split
    · exact Nat.le_refl _
    · exact Nat.le_succ_of_le (argBest_le bt n)
/-- the best is beaten by none, where 'better' is a strict order of keys -/
theorem argBest_top {α : Type} (key : Nat → α) (lt : α → α → Prop) (bt : Nat → Nat → Bool) (hbt : ∀ i j, bt i j = true ↔ lt (key j) (key i)) (irr : ∀ a, ¬ lt a a) (tr : ∀ a b c, lt a b → lt b c → lt a c) :
    ∀ n i, i ≤ n → ¬ lt (key (argBest bt n)) (key i)
  | 0, i, h => by
    have : i = 0 := by (first | lia | omega)
    subst this
    exact irr _
  | n + 1, i, h => by
    unfold argBest
    by_cases hb : bt (n + 1) (argBest bt n) = true
    · rw [if_pos hb]
      intro hl
      have h1 := (hbt _ _).mp hb
      by_cases hi : i = n + 1
      · subst hi; exact irr _ hl
      · exact argBest_top key lt bt hbt irr tr n i (by (first | lia | omega)) (tr _ _ _ h1 hl)
    · rw [if_neg hb]
      by_cases hi : i = n + 1
      · subst hi
        intro hl
        exact hb ((hbt _ _).mpr hl)
      · exact argBest_top key lt bt hbt irr tr n i (by (first | lia | omega))
section
variable {prog : Program} {w : World} {A : Around} {E : Value → Shared → Prop} {s : Shared} {Q : Value → Shared → Prop}
theorem strs_at {vs : List Value} {ls : List (List Nat)} (h : All2 IsStr vs ls) {i : Nat} {v : Value} (e : vs.toArray[i]? = some v) : ∃ t, v = .str (S (ls.getD i [])) t ∧ i < ls.length := by
  have e' : vs[i]? = some v := by simpa using e
  obtain ⟨l, hl, t, rfl⟩ := h.get e'
  have hi := (List.getElem?_eq_some_iff.mp hl).1
  refine ⟨t, ?_, hi⟩
  rw [List.getD_eq_getElem?_getD, hl]; rfl
theorem max_strs {a : Addr} {vs : List Value} {ls : List (List Nat)} (hh : A.handled = none) (ht : IsTup s.heap a vs.toArray) (hvs : All2 IsStr vs ls) (hne : ls ≠ [])
    (h : ∀ l t h' tk, l ∈ ls → (∀ l' ∈ ls, ¬ l < l') → Keeps s.heap h' → Q (.str (S l) t) { s with heap := h', toks := tk }) : wpAny (model prog w) A (call (.builtin "max") [.ref a]) Q E s := by
  obtain ⟨oa, hoa, _⟩ := id ht
  have hlt := Heap.lt_size hoa
  refine call_max_walk (wpAny_pyIter_tuple ht ?_)
  have W := Walks.tuple (prog := prog) (w := w) (A := A.in1) hh s.heap.objs.size a (Nat.ne_of_lt hlt) vs.toArray
  have hlen : vs.toArray.size = ls.length := by rw [List.size_toArray, hvs.length]
  have hpos : 0 < ls.length := List.length_pos_iff.mpr hne
  refine ⟨_, _, _, _, _, _, fun i j => decide (ls.getD j [] < ls.getD i []), rfl, W, ⟨⟨_, Heap.get?_push_size _ rfl, rfl, rfl⟩, ht.push _⟩, ?_, by rw [hlen]; exact hpos, ?_, ?_⟩
  · intro b hb
    show b < (s.heap.push _).objs.size
    rw [Heap.size_push]
    rcases List.mem_cons.mp hb with rfl | hb
    · exact Nat.lt_succ_self _
    · rw [List.mem_singleton.mp hb]; exact Nat.lt_succ_of_lt hlt
  · intro i j vi vj s' Q' E' hi hj hQ
    obtain ⟨ti, rfl, _⟩ := strs_at hvs hi
    obtain ⟨tj, rfl, _⟩ := strs_at hvs hj
    exact P.gt_str hQ
  · intro v h' tk hP hk
    obtain ⟨t, rfl, hb⟩ := strs_at hvs hP
    rw [hlen] at hb hP ⊢
    refine h _ t h' tk ?_ ?_ ?_
    · rw [getD_at hb]; exact List.getElem_mem hb
    · intro l' hl'
      obtain ⟨i, hi, rfl⟩ := List.mem_iff_getElem.mp hl'
      have := argBest_top (fun i => ls.getD i []) (· < ·) (fun i j => decide (ls.getD j [] < ls.getD i [])) (by simp) (fun a => List.lt_irrefl a) (fun _ _ _ => llt_trans) (ls.length - 1) i (by (first | lia | omega))
      simp only [getD_at hi] at this
      exact this
    · intro b o e
      refine hk b o ?_ (Heap.get?_push_of_some _ e)
      intro hm
      exact absurd (Heap.lt_size e) ((List.mem_singleton.mp hm) ▸ Nat.lt_irrefl _)
theorem min_strs {a : Addr} {vs : List Value} {ls : List (List Nat)} (hh : A.handled = none) (ht : IsTup s.heap a vs.toArray) (hvs : All2 IsStr vs ls) (hne : ls ≠ [])
    (h : ∀ l t h' tk, l ∈ ls → (∀ l' ∈ ls, ¬ l' < l) → Keeps s.heap h' → Q (.str (S l) t) { s with heap := h', toks := tk }) : wpAny (model prog w) A (call (.builtin "min") [.ref a]) Q E s := by
  obtain ⟨oa, hoa, _⟩ := id ht
  have hlt := Heap.lt_size hoa
  refine call_min_walk (wpAny_pyIter_tuple ht ?_)
  have W := Walks.tuple (prog := prog) (w := w) (A := A.in1) hh s.heap.objs.size a (Nat.ne_of_lt hlt) vs.toArray
  have hlen : vs.toArray.size = ls.length := by rw [List.size_toArray, hvs.length]
  have hpos : 0 < ls.length := List.length_pos_iff.mpr hne
  refine ⟨_, _, _, _, _, _, fun i j => decide (ls.getD i [] < ls.getD j []), rfl, W, ⟨⟨_, Heap.get?_push_size _ rfl, rfl, rfl⟩, ht.push _⟩, ?_, by rw [hlen]; exact hpos, ?_, ?_⟩
  · intro b hb
    show b < (s.heap.push _).objs.size
    rw [Heap.size_push]
    rcases List.mem_cons.mp hb with rfl | hb
    · exact Nat.lt_succ_self _
    · rw [List.mem_singleton.mp hb]; exact Nat.lt_succ_of_lt hlt
  · intro i j vi vj s' Q' E' hi hj hQ
    obtain ⟨ti, rfl, _⟩ := strs_at hvs hi
    obtain ⟨tj, rfl, _⟩ := strs_at hvs hj
    exact P.lt_str hQ
  · intro v h' tk hP hk
    obtain ⟨t, rfl, hb⟩ := strs_at hvs hP
    rw [hlen] at hb hP ⊢
    refine h _ t h' tk ?_ ?_ ?_
    · rw [getD_at hb]; exact List.getElem_mem hb
    · intro l' hl'
      obtain ⟨i, hi, rfl⟩ := List.mem_iff_getElem.mp hl'
      have := argBest_top (fun i => ls.getD i []) (fun a b => b < a) (fun i j => decide (ls.getD i [] < ls.getD j [])) (by simp) (fun a => List.lt_irrefl a) (fun _ _ _ h k => llt_trans k h) (ls.length - 1) i (by (first | lia | omega))
      simp only [getD_at hi] at this
      exact this
    · intro b o e
      refine hk b o ?_ (Heap.get?_push_of_some _ e)
      intro hm
      exact absurd (Heap.lt_size e) ((List.mem_singleton.mp hm) ▸ Nat.lt_irrefl _)
end
end Mine
end
section
open PySem PySem.W PySem.Calls PyProof.Rows PyProof
set_option Elab.async false
namespace Mine
theorem kept_on {h₀ h h' : Heap} {L : Addr} {m : Str → Option Value} {news : List (Addr × Obj)} {P : Prop} (k : Keeps h h') (F : Fr h₀ L h m) (N : News h₀ L h news) (g : Fr h₀ L h' m → News h₀ L h' news → P) : P := g (Fr.kept F k) (News.kept N k)
section
variable {prog : Program} {w : World} {A : Around} {E : Value → Shared → Prop} {s : Shared} {env : Env} {h₀ : Heap} {target : Expr} {body : List Stmt} {Q : Flow → Shared → Prop}
/-- a loop with any target whose state is the frame's names alone -/
theorem loopT {I : Addr} {fp wr : List Addr} {n : Nat} {P Md : Nat → Value → Heap → Prop} {St : Nat → Heap → Prop} {m₀ : Str → Option Value} {news : List (Addr × Obj)}
    (W : KTurns prog w A target I fp wr n P Md St) (hLf : env.locals ∉ fp) (hwr : ∀ b ∈ wr, h₀.get? b = none) (hnw : ∀ p ∈ news, p.1 ∉ wr) (hst : St 0 s.heap)
    (F : Fr h₀ env.locals s.heap m₀) (N : News h₀ env.locals s.heap news) (J : Nat → (Str → Option Value) → Prop) (hj : J 0 m₀)
    (turn : ∀ i v m₁ h tk own, i < n → P i v h → J i m₁ → Fr h₀ env.locals h m₁ → News h₀ env.locals h (own ++ news) →
      wpAny (model prog w) A (assign target env v) (fun _ s₃ => wpAny (model prog w) A (execs body env) (InvPost h₀ env.locals (J (i + 1)) (own ++ news) { s with heap := h, toks := tk } Q) E s₃) E { s with heap := h, toks := tk })
    (done : ∀ m₁ h tk, J n m₁ → Fr h₀ env.locals h m₁ → News h₀ env.locals h news → Q .next { s with heap := h, toks := tk }) :
    TurnsAt prog w A h₀ env target body Q E (.ref I) s := by
  refine ⟨I, fp, wr, n, P, Md, St, m₀, news, fun i m nx => nx = news ∧ J i m, rfl, W, hLf, hwr, hnw, hst, F, N, ⟨rfl, hj⟩, ?_, ?_⟩
  · rintro i v m₁ news₁ h tk own hi hP ⟨rfl, hJ⟩ hoff _ _ _ _ F₁ N₁
    refine wpAny_mono (turn i v m₁ h tk own hi hP hJ F₁ N₁) (fun _ s₂ p => wpAny_mono p (fun f s₃ q => ?_) fun _ _ e => e) fun _ _ e => e
    have fin : InvEnd h₀ env.locals (J (i + 1)) (own ++ news₁) { s with heap := h, toks := tk } s₃ → LoopStepU h₀ env.locals wr own (fun m nx => nx = news₁ ∧ J (i + 1) m) { s with heap := h, toks := tk } .next s₃ := by
      rintro ⟨h', tk', m', news', e, F', N', hn, hm⟩
      exact ⟨rfl, h', tk', m', news₁, e, F', fun p hp => N' p (hn p hp), hoff, rfl, hm⟩
    cases f with
    | ret v => exact .ret q
    | brk => exact .brk q
    | next => exact .next (fin q)
    | cont => exact .cont (fin q)
  · rintro h' tk m' news' F' N' _ ⟨rfl, hJ⟩
    exact done m' h' tk hJ F' N'
end
section
variable {prog : Program} {w : World} {A : Around} {E : Value → Shared → Prop} {s : Shared} {env : Env} {h₀ : Heap} {m : Str → Option Value} {news : List (Addr × Obj)} {Q : Unit → Shared → Prop}
theorem assign_pair {x y : Str} {px py tp : Pos} {k : Nat} {T : Addr} {a b : Value} (hh : A.handled = none) (ht : IsTup s.heap T #[a, b]) (F : Fr h₀ env.locals s.heap m) (N : News h₀ env.locals s.heap news)
    (hx : env.kindOf x = some .local) (hy : env.kindOf y = some .local) (hp : (env.scope.kind == .class || (env.scope.kind == .module && env.locals != env.globals)) = false)
    (h : ∀ h' tk', Fr h₀ env.locals h' (fun z => if z = y then some b else if z = x then some a else m z) → News h₀ env.locals h' news → Q () { s with heap := h', toks := tk' }) :
    wpAny (model prog w) A (assign (.Tuple [.Name x px, .Name y py] k tp) env (.ref T)) Q E s := by
  refine assign_Tuple_tuple hh ht rfl rfl fun h₁ he => ?_
  have k₁ : Keeps s.heap h₁ := fun b o e => he b o (Nat.ne_of_lt (Heap.lt_size e)) e
  have F₁ := Fr.kept F k₁
  have N₁ := News.kept N k₁
  refine assignInOrder_cons (wpAny_assign_Name (wpAny_storeName_local hx F₁.ns (fun h₂ hn₂ hs₂ => ?_) hp))
  have F₂ := F₁.set hn₂ hs₂
  have N₂ := N₁.set hs₂
  refine assignInOrder_cons (wpAny_assign_Name (wpAny_storeName_local hy F₂.ns (fun h₃ hn₃ hs₃ => ?_) hp))
  exact assignInOrder_nil (h h₃ _ (F₂.set hn₃ hs₃) (N₂.set hs₃))
theorem assign_triple {x y z : Str} {px py pz tp : Pos} {k : Nat} {T : Addr} {a b c : Value} (hh : A.handled = none) (ht : IsTup s.heap T #[a, b, c]) (F : Fr h₀ env.locals s.heap m) (N : News h₀ env.locals s.heap news)
    (hx : env.kindOf x = some .local) (hy : env.kindOf y = some .local) (hz : env.kindOf z = some .local) (hp : (env.scope.kind == .class || (env.scope.kind == .module && env.locals != env.globals)) = false)
    (h : ∀ h' tk', Fr h₀ env.locals h' (fun u => if u = z then some c else if u = y then some b else if u = x then some a else m u) → News h₀ env.locals h' news → Q () { s with heap := h', toks := tk' }) :
    wpAny (model prog w) A (assign (.Tuple [.Name x px, .Name y py, .Name z pz] k tp) env (.ref T)) Q E s := by
  refine assign_Tuple_tuple hh ht rfl rfl fun h₁ he => ?_
  have k₁ : Keeps s.heap h₁ := fun b o e => he b o (Nat.ne_of_lt (Heap.lt_size e)) e
  have F₁ := Fr.kept F k₁
  have N₁ := News.kept N k₁
  refine assignInOrder_cons (wpAny_assign_Name (wpAny_storeName_local hx F₁.ns (fun h₂ hn₂ hs₂ => ?_) hp))
  have F₂ := F₁.set hn₂ hs₂
  have N₂ := N₁.set hs₂
  refine assignInOrder_cons (wpAny_assign_Name (wpAny_storeName_local hy F₂.ns (fun h₃ hn₃ hs₃ => ?_) hp))
  have F₃ := F₂.set hn₃ hs₃
  have N₃ := N₂.set hs₃
  refine assignInOrder_cons (wpAny_assign_Name (wpAny_storeName_local hz F₃.ns (fun h₄ hn₄ hs₄ => ?_) hp))
  exact assignInOrder_nil (h h₄ _ (F₃.set hn₄ hs₄) (N₃.set hs₄))
end
section
variable {prog : Program} {w : World} {A : Around} {E : Value → Shared → Prop} {s : Shared} {env : Env} {h₀ : Heap} {body : List Stmt} {Q : Flow → Shared → Prop}
/-- for i, c in enumerate(a text of plain signs) -/
theorem enumStr {x : Str} {t : Tok} {elts : List Expr} {k : Nat} {pos : Pos} {m₀ : Str → Option Value} {news : List (Addr × Obj)} (J : Nat → (Str → Option Value) → Prop)
    (hh : A.handled = none) (hx : x.cps.all (· < 128) = true) (F : Fr h₀ env.locals s.heap m₀) (N : News h₀ env.locals s.heap news) (hj : J 0 m₀)
    (turn : ∀ (i : Nat) T c t' u' m₁ h tk own, x.cps[i]? = some c → IsTup h T #[.int (i : Int) t', .str ⟨#[c]⟩ u'] → J i m₁ → Fr h₀ env.locals h m₁ → News h₀ env.locals h (own ++ news) →
      wpAny (model prog w) A (assign (.Tuple elts k pos) env (.ref T)) (fun _ s₃ => wpAny (model prog w) A (execs body env) (InvPost h₀ env.locals (J (i + 1)) (own ++ news) { s with heap := h, toks := tk } Q) E s₃) E { s with heap := h, toks := tk })
    (done : ∀ m₁ h tk, J x.cps.size m₁ → Fr h₀ env.locals h m₁ → News h₀ env.locals h news → Q .next { s with heap := h, toks := tk }) :
    wpAny (model prog w) A (call (.type "enumerate") [.str x t]) (fun xv s₁ => wpAny (model prog w) A (pyIter xv) (fun it s₂ => TurnsAt prog w A h₀ env (.Tuple elts k pos) body Q E it s₂) E s₁) E s := by
  have hLs : env.locals < s.heap.objs.size := F.ns.lt
  have hab : h₀.objs.size ≤ env.locals := F.above
  refine call_enumerate_str fun h' he hit hsz hk => ?_
  have hit' : h'.IsStrIter s.heap.objs.size "str_ascii_iterator" x t 0 := by simpa [strIterType, hx] using hit
  refine wpAny_pyIter_enum he ?_
  have W := KTurns.ofWalksU (elts := elts) (k := k) (pos := pos) (WalksT.enumerateD (Draws.strAscii (prog := prog) (w := w) (A := A.in1) hh s.heap.objs.size x t) (s.heap.objs.size + 1) (Nat.succ_ne_self _) (fun hm => Nat.succ_ne_self _ (List.mem_singleton.mp hm)) (by simp)).toU
  refine loopT (s := { s with heap := h' }) W ?_ ?_ ?_ ⟨⟨_, he⟩, hit'⟩ (Fr.kept F hk) (News.kept N hk) J hj ?_ done
  · intro hm
    rcases List.mem_cons.mp hm with e | hm
    · exact Nat.ne_of_lt (Nat.lt_succ_of_lt hLs) e
    · exact Nat.ne_of_lt hLs (List.mem_singleton.mp hm)
  · intro b hb
    rcases List.mem_cons.mp hb with rfl | hb
    · exact Heap.get?_none_of_le (Nat.le_trans hab (Nat.le_of_lt (Nat.lt_succ_of_lt hLs)))
    · rw [List.mem_singleton.mp hb]; exact Heap.get?_none_of_le (Nat.le_trans hab (Nat.le_of_lt hLs))
  · intro p hp hm
    have hq1 : p.1 < s.heap.objs.size := Heap.lt_size (N p hp).1
    rcases List.mem_cons.mp hm with e1 | hb
    · exact Nat.ne_of_lt (Nat.lt_succ_of_lt hq1) e1
    · exact Nat.ne_of_lt hq1 (List.mem_singleton.mp hb)
  · rintro i v m₁ h tk own hi ⟨T, vals, rfl, ⟨t', y, ⟨c, u', hc, rfl⟩, rfl⟩, hT⟩ hJ F₁ N₁
    exact turn i T c t' u' m₁ h tk own hc hT hJ F₁ N₁
end
end Mine
end
section
open PySem PySem.W PySem.Calls PyProof.Rows PyProof PyProof.Rows.LCg
set_option Elab.async false
namespace Mine
noncomputable abbrev tests (ifs : List Expr) (env : Env) : Sem Bool := forIn ifs true fun c r => if r = true then do let ok ← isTrue c env (eval c env); pure (ForInStep.yield ok) else pure (ForInStep.yield r)
section
variable {prog : Program} {w : World} {A : Around} {E : Value → Shared → Prop} {s : Shared} {h₀ : Heap} {L : Addr} {m : Str → Option Value} {env : Env}
theorem compLoop_gen {elt target iter : Expr} {ifs : List Expr} {scope : Scope} {pos : Pos} {it acc : Value} {env : Env} {R : Result → Shared → Prop} (I : Nat → Shared → Prop)
    (turn : ∀ n s, I n s → wpAny (model prog w) A (pyNext it) (fun r s₁ => match r with
      | none => R (.ok .next) s₁
      | some v => wpAny (model prog w) A (letOwnedTupleGo target it v) (fun _ s₁' => wpAny (model prog w) A (assign target env v) (fun _ s₂ =>
          wpAny (model prog w) A (tests ifs env) (fun ok s₃ =>
            if ok = true then wpAny (model prog w) A (eval elt env) (fun x s₄ =>
              wpAny (model prog w) A (call (.builtin "list.append") [acc, x]) (fun _ s₅ => ∃ m, m < n ∧ I m s₅) (notedBy (model prog w) A env fun e s' => R (.error e) s') s₄) (notedBy (model prog w) A env fun e s' => R (.error e) s') s₃
            else ∃ m, m < n ∧ I m s₃) (notedBy (model prog w) A env fun e s' => R (.error e) s') s₂) (notedBy (model prog w) A env fun e s' => R (.error e) s') s₁') (notedBy (model prog w) A env fun e s' => R (.error e) s') s₁) (notedBy (model prog w) A env fun e s' => R (.error e) s') s)
    (n : Nat) (h : I n s) : codeAny (model prog w) A (.compLoop (.ListComp elt [⟨target, iter, ifs, 0⟩] scope pos) 0 it acc env) R s := by
  refine codeAny_loop rfl I (fun n s hI => ?_) n h
  show wpAny _ A ((compTurn (.ListComp elt [⟨target, iter, ifs, 0⟩] scope pos) 0 it acc env).onRaise (fun x => do noteFrame x env; theTreesLotGoes x)) _ _ s
  refine wpAny_noted ?_
  rw [compTurn_list]
  refine wpAny_bind (wpAny_standAt (wpAny_bind (wpAny_mono (turn n s hI) (fun r s₁ h₁ => ?_) fun _ _ h' => h')))
  cases r with
  | none => exact wpAny_pure h₁
  | some v =>
    refine wpAny_bind (wpAny_mono h₁ (fun _ s₁' h₁' => ?_) fun _ _ h' => h')
    refine wpAny_bind (wpAny_mono h₁' (fun _ s₂ h₂ => wpAny_bind (wpAny_mono h₂ (fun ok s₃ h₃ => ?_) fun _ _ h' => h')) fun _ _ h' => h')
    cases ok with
    | false => exact wpAny_pure ⟨rfl, h₃⟩
    | true => exact wpAny_bind (wpAny_bind (wpAny_mono h₃ (fun x s₄ h₄ => wpAny_bind (wpAny_mono h₄ (fun _ s₅ h₅ => wpAny_pure (wpAny_pure ⟨rfl, h₅⟩)) fun _ _ h' => h')) fun _ _ h' => h'))

/-- the end of a turn of a comprehension -/
noncomputable def CEnd (h₀ : Heap) (L : Addr) (m : Str → Option Value) (news : List (Addr × Obj)) (s₁ : Shared) (I : Addr) (oI : Obj) (C D : Addr) (ys : List Value) (P : Prop) (s₂ : Shared) : Prop :=
  ∃ h' tk oC m', s₂ = { s₁ with heap := h', toks := tk } ∧ Fr h₀ L h' m ∧ News h₀ L h' ((I, oI) :: (C, oC) :: (D, lst ys) :: news) ∧ NsObj oC m' ∧ P
theorem CEnd.intro {h₀ : Heap} {L I C D : Addr} {m : Str → Option Value} {news : List (Addr × Obj)} {s₁ : Shared} {oI oC : Obj} {ys : List Value} {P : Prop} {h' : Heap} {tk : Nat} {m' : Str → Option Value}
    (F : Fr h₀ L h' m) (N : News h₀ L h' ((I, oI) :: (C, oC) :: (D, lst ys) :: news)) (hC : NsObj oC m') (p : P) : CEnd h₀ L m news s₁ I oI C D ys P { s₁ with heap := h', toks := tk } := ⟨h', tk, oC, m', rfl, F, N, hC, p⟩

theorem comp_block {elt target iter : Expr} {ifs : List Expr} {scope : Scope} {cl : List (Str × Addr)} {pos : Pos} {s₂ : Shared} {I : Addr} {fp : List Addr} {n : Nat} {P Md : Nat → Value → Heap → Prop} {St : Nat → Heap → Prop} {news : List (Addr × Obj)}
    {Inv : Nat → List Value → Prop} {RR : Value → Addr → Result → Shared → Prop}
    (W : KTurns prog w A target I fp [I] n P Md St) (hself : ∀ (s : Shared) (Q : Value → Shared → Prop) (E : Value → Shared → Prop), St 0 s.heap → Q (.ref I) s → wpAny (model prog w) A (pyIter (.ref I)) Q E s)
    (hsz : n ≤ sizeLine) (hIo : ∀ i h, St i h → ∃ o, h.get? I = some o)
    (hSt : ∀ i h h' o, St i h → h.get? I = some o → h'.get? I = some o → (∀ b o, h₀.get? b = some o → h'.get? b = some o) → News h₀ L h' news → St i h')
    (hcell : ∀ y ∈ scope.names, y.2 ≠ .cell) (hkind : scope.kind = .function) (hst : St 0 s₂.heap) (hfp : ∀ b ∈ fp, b < s₂.heap.objs.size)
    (F : Fr h₀ L s₂.heap m) (N : News h₀ L s₂.heap news) (hIL : L ≠ I) (hI₀ : h₀.get? I = none) (off : ∀ p ∈ news, p.1 ≠ I) (hinv : Inv 0 [])
    (hlen : ∀ i ys, Inv i ys → ys.length ≤ i)
    (turn : ∀ i v ys C D oI oC m₂ h tk (E' : Value → Shared → Prop), i < n → P i v h → Inv i ys → NsObj oC m₂ → Fr h₀ L h m → News h₀ L h ((I, oI) :: (C, oC) :: (D, lst ys) :: news) → Off3 I C D news → ((@Ne Nat I C) ∧ (@Ne Nat I D) ∧ (@Ne Nat C D)) →
      wpAny (model prog w) A (assign target (compEnvC scope cl C env) v) (fun _ s₃ => wpAny (model prog w) A (tests ifs (compEnvC scope cl C env)) (fun ok s₄ =>
        if ok = true then wpAny (model prog w) A (eval elt (compEnvC scope cl C env)) (fun y => CEnd h₀ L m news { s₂ with heap := h, toks := tk } I oI C D ys (Inv (i + 1) (ys ++ [y]))) E' s₄
        else CEnd h₀ L m news { s₂ with heap := h, toks := tk } I oI C D ys (Inv (i + 1) ys) s₄) E' s₃) E' { s₂ with heap := h, toks := tk })
    (hRR : ∀ D C h tk m' ys, Fr h₀ L h m → News h₀ L h ((D, lst ys) :: news) → h.Ns C m' → h₀.get? C = none → h₀.get? D = none → C ≠ L → D ≠ L → C ≠ D → (∀ p ∈ news, p.1 ≠ C ∧ p.1 ≠ D) → Inv n ys → RR (.ref D) C (.ok .next) { s₂ with heap := h, toks := tk }) :
    wpAny (model prog w) A (newList []) (fun acc s₃ => wpAny (model prog w) A (newFunctionEnv scope env.globals cl [] env.qual none .none (some env)) (fun cenv s₄ =>
      codeAny (model prog w) A (.compStart (.ListComp elt [⟨target, iter, ifs, 0⟩] scope pos) 0 (.ref I) acc { cenv with scope := relabel scope env }) (RR acc cenv.locals) s₄) E s₃) E s₂ := by
  refine wpAny_newObj_type (wpAny_newFunctionEnv hcell (by intro y hy; simp at hy) (fun h₁ hns₁ hsb₁ => ?_) hkind)
  dsimp only at hns₁ hsb₁ ⊢
  generalize hH2 : s₂.heap.push { cls := .type "list", dict := none, data := .seq ([] : List Value).toArray } = H2 at hns₁ hsb₁ ⊢
  have hC : H2.objs.size = s₂.heap.objs.size + 1 := by rw [← hH2, Heap.size_push]
  have hDC : s₂.heap.objs.size ≠ H2.objs.size := by rw [hC]; exact Nat.ne_of_lt (Nat.lt_succ_self _)
  have below : ∀ b, b < s₂.heap.objs.size → b ≠ H2.objs.size ∧ b ≠ s₂.heap.objs.size := fun b hb => ⟨by rw [hC]; exact Nat.ne_of_lt (Nat.lt_succ_of_lt hb), Nat.ne_of_lt hb⟩
  have hDf : s₂.heap.objs.size ∉ fp := fun hm => Nat.lt_irrefl _ (hfp _ hm)
  have hIf : I ∈ fp := W.sub I (List.mem_singleton.mpr rfl)
  have hIlt : I < s₂.heap.objs.size := hfp I hIf
  have old : ∀ b o, s₂.heap.get? b = some o → h₁.get? b = some o := fun b o e => hsb₁.extBut b o (below b (Heap.lt_size e)).1 (Heap.get?_push_of_some _ (hH2 ▸ Heap.get?_push_of_some _ e))
  have hacc : h₁.get? s₂.heap.objs.size = some (lst []) := hsb₁.extBut _ _ hDC (Heap.get?_push_of_some _ (hH2 ▸ Heap.get?_push_size _ rfl))
  have hst₁ : St 0 h₁ := W.frame _ _ _ hst fun b _ o e => old b o e
  have fresh₀ : ∀ a, s₂.heap.objs.size ≤ a → h₀.get? a = none := fun a ha => by
    cases e : h₀.get? a with
    | none => rfl
    | some o' => exact absurd (Heap.lt_size (F.keep a o' e)) (Nat.not_lt.mpr ha)
  have hD₀ : h₀.get? s₂.heap.objs.size = none := fresh₀ _ (Nat.le_refl _)
  have hC₀ : h₀.get? H2.objs.size = none := fresh₀ _ (by rw [hC]; exact Nat.le_succ _)
  have hLlt : L < s₂.heap.objs.size := F.ns.lt
  have hDL : s₂.heap.objs.size ≠ L := Ne.symm (below L hLlt).2
  have hCL : H2.objs.size ≠ L := Ne.symm (below L hLlt).1
  have hCI : I ≠ H2.objs.size := (below I hIlt).1
  have hDI : I ≠ s₂.heap.objs.size := (below I hIlt).2
  have off₀ : Off3 I H2.objs.size s₂.heap.objs.size news := Off3.of fun p hp => ⟨off p hp, (below _ (Heap.lt_size (N p hp).1)).1, (below _ (Heap.lt_size (N p hp).1)).2⟩
  have off3 := off₀.mem
  have loop : ∀ s₃ : Shared, s₃ = { s₂ with heap := h₁, toks := s₂.toks + ([] : List (Str × Value)).length } →
      codeAny (model prog w) A (.compLoop (.ListComp elt [⟨target, iter, ifs, 0⟩] scope pos) 0 (.ref I) (.ref s₂.heap.objs.size) (compEnvC scope cl H2.objs.size env))
        (RR (.ref s₂.heap.objs.size) H2.objs.size) s₃ := by
    rintro s₃ rfl
    refine compLoop_gen
      (fun k s' => ∃ h' tk i ys m', s' = { s₂ with heap := h', toks := tk } ∧ i ≤ n ∧ k = n + 1 - i ∧ St i h' ∧ Fr h₀ L h' m ∧ h'.Ns H2.objs.size m' ∧ News h₀ L h' ((s₂.heap.objs.size, lst ys) :: news) ∧ Inv i ys) ?_ (n + 1)
      ⟨h₁, _, 0, [], _, rfl, Nat.zero_le _, rfl, hst₁, F.keeps old, hns₁, fun p hp => ?_, hinv⟩
    · rintro k s' ⟨h', tk, i, ys, m', rfl, hi, rfl, hst', F', hn', N', hI'⟩
      by_cases hlt : i < n
      · refine W.item i _ _ _ hlt hst' fun v h₂ tk₂ hMd hk₂ => ?_
        refine W.go i v _ _ _ hMd fun h₃ hP hst₃ hk₃ => ?_
        have hk : ∀ b o, b ∉ [I] → h'.get? b = some o → h₃.get? b = some o := fun b o hb e => hk₃ b o hb (hk₂ b o hb e)
        have hn₃ : h₃.Ns H2.objs.size m' := hn'.at' fun o e => hk _ o (by simpa using Ne.symm hCI) e
        obtain ⟨oI, heI⟩ := hIo _ _ hst₃
        obtain ⟨oC, heC, hoC⟩ := ns_obj hn₃
        have F₃ : Fr h₀ L h₃ m := fr_but F' hk hIL hI₀
        have N₂ : News h₀ L h₃ ((s₂.heap.objs.size, lst ys) :: news) := news_but N' hk fun p hp => by
          rcases List.mem_cons.mp hp with rfl | hp
          · exact Ne.symm hDI
          · exact (off3 p hp).1
        have N₃ : News h₀ L h₃ ((I, oI) :: (H2.objs.size, oC) :: (s₂.heap.objs.size, lst ys) :: news) := fun p hp => by
          rcases List.mem_cons.mp hp with rfl | hp
          · exact ⟨heI, Ne.symm hIL, hI₀⟩
          · rcases List.mem_cons.mp hp with rfl | hp
            · exact ⟨heC, hCL, hC₀⟩
            · exact N₂ p hp
        refine wpAny_mono (turn i v ys H2.objs.size s₂.heap.objs.size oI oC _ h₃ tk₂ _ hlt hP hI' hoC F₃ N₃ off₀ ⟨hCI, hDI, Ne.symm hDC⟩) (fun _ s₃ q₃ => wpAny_mono q₃ (fun ok s₄ q₄ => ?_) fun _ _ e => e) fun _ _ e => e
        have fin : ∀ (P : Prop) s₅, CEnd h₀ L m news { s₂ with heap := h₃, toks := tk₂ } I oI H2.objs.size s₂.heap.objs.size ys P s₅ → ∃ h₅ tk₅ m₅, s₅ = { s₂ with heap := h₅, toks := tk₅ } ∧ St (i + 1) h₅ ∧ Fr h₀ L h₅ m ∧ h₅.Ns H2.objs.size m₅ ∧ News h₀ L h₅ ((s₂.heap.objs.size, lst ys) :: news) ∧ P := by
          rintro P s₅ ⟨h₅, tk₅, oC₅, m₅, rfl, F₅, N₅, hoC₅, p⟩
          have zI := (N₅ (I, oI) List.mem_cons_self).1
          have zC := (N₅ (H2.objs.size, oC₅) (List.mem_cons_of_mem _ List.mem_cons_self)).1
          have N₆ : News h₀ L h₅ ((s₂.heap.objs.size, lst ys) :: news) := fun p hp => N₅ p (List.mem_cons_of_mem _ (List.mem_cons_of_mem _ hp))
          exact ⟨h₅, tk₅, m₅, rfl, hSt _ _ _ _ hst₃ heI zI F₅.keep fun p hp => N₆ p (List.mem_cons_of_mem _ hp), F₅, hoC₅.ns zC, N₆, p⟩
        cases ok with
        | false =>
          obtain ⟨h₅, tk₅, m₅, rfl, st₅, F₅, n₅, N₅, p⟩ := fin _ _ q₄
          exact ⟨n + 1 - (i + 1), by (first | lia | omega), h₅, tk₅, i + 1, ys, m₅, rfl, hlt, rfl, st₅, F₅, n₅, N₅, p⟩
        | true =>
          refine wpAny_mono q₄ (fun y s₅ q₅ => ?_) fun _ _ e => e
          obtain ⟨h₅, tk₅, m₅, rfl, st₅, F₅, n₅, N₅, p⟩ := fin _ _ q₅
          have zD := (N₅ (s₂.heap.objs.size, lst ys) List.mem_cons_self).1
          refine append_at (hsz := by show ys.toArray.size ≤ sizeLine; rw [List.size_toArray]; exact Nat.le_trans (hlen i ys hI') (Nat.le_trans hi hsz)) zD fun h₆ hs₆ hD₆ => ?_
          refine ⟨n + 1 - (i + 1), by (first | lia | omega), h₆, tk₅, i + 1, ys ++ [y], m₅, rfl, hlt, rfl, W.frame _ _ _ st₅ fun b hb o e => hs₆.extBut b o (fun q => hDf (q ▸ hb)) e, F₅.change hs₆ hDL hD₀, n₅.sameBut hs₆ (Ne.symm hDC), fun p hp => ?_, p⟩
          rcases List.mem_cons.mp hp with rfl | hp
          · exact ⟨hD₆.trans (congrArg some (lst_snoc ys y)), hDL, hD₀⟩
          · exact ⟨hs₆.extBut _ _ (off3 p hp).2.2 (N₅ p (List.mem_cons_of_mem _ hp)).1, (N₅ p (List.mem_cons_of_mem _ hp)).2⟩
      · obtain rfl : i = n := Nat.le_antisymm hi (Nat.not_lt.mp hlt)
        refine W.done _ _ _ hst' fun h₂ tk₂ hk₂ => ?_
        exact hRR _ _ h₂ tk₂ _ ys (fr_but F' hk₂ hIL hI₀) (news_but N' hk₂ fun p hp => by
          rcases List.mem_cons.mp hp with rfl | hp
          · exact Ne.symm hDI
          · exact (off3 p hp).1) (hn'.at' fun o e => hk₂ _ o (by simpa using Ne.symm hCI) e) hC₀ hD₀ hCL hDL (Ne.symm hDC) (fun p hp => ⟨(off3 p hp).2.1, (off3 p hp).2.2⟩) hI'
    · rcases List.mem_cons.mp hp with rfl | hp
      · exact ⟨hacc, hDL, hD₀⟩
      · exact ⟨old _ _ (N p hp).1, (N p hp).2⟩
  exact codeAny_compStart_list (loop _ rfl) (hself _ _ _ hst₁ (loop _ rfl))
end
end Mine
end
section
open PySem PySem.W PySem.Calls PyProof.Rows PyProof PyProof.Rows.LCg
set_option Elab.async false
namespace Mine
section
variable {prog : Program} {w : World} {A : Around} {E : Value → Shared → Prop} {s : Shared} {h₀ : Heap} {L : Addr} {m : Str → Option Value} {env : Env}
noncomputable abbrev Turn (prog : Program) (w : World) (A : Around) (h₀ : Heap) (L : Addr) (m : Str → Option Value) (env : Env) (elt target : Expr) (ifs : List Expr) (scope : Scope) (cl : List (Str × Addr)) (s₂ : Shared) (I : Addr) (news : List (Addr × Obj)) (Inv : Nat → List Value → Prop) (i : Nat) (v : Value) (P : Heap → Prop) : Prop :=
  ∀ ys C D oI oC m₂ h tk (E' : Value → Shared → Prop), P h → Inv i ys → NsObj oC m₂ → Fr h₀ L h m → News h₀ L h ((I, oI) :: (C, oC) :: (D, lst ys) :: news) → Off3 I C D news → ((@Ne Nat I C) ∧ (@Ne Nat I D) ∧ (@Ne Nat C D)) →
      wpAny (model prog w) A (assign target (compEnvC scope cl C env) v) (fun _ s₃ => wpAny (model prog w) A (tests ifs (compEnvC scope cl C env)) (fun ok s₄ =>
        if ok = true then wpAny (model prog w) A (eval elt (compEnvC scope cl C env)) (fun y => CEnd h₀ L m news { s₂ with heap := h, toks := tk } I oI C D ys (Inv (i + 1) (ys ++ [y]))) E' s₄
        else CEnd h₀ L m news { s₂ with heap := h, toks := tk } I oI C D ys (Inv (i + 1) ys) s₄) E' s₃) E' { s₂ with heap := h, toks := tk }
noncomputable def CompAt (prog : Program) (w : World) (A : Around) (h₀ : Heap) (L : Addr) (m : Str → Option Value) (env : Env) (elt target : Expr) (ifs : List Expr) (scope : Scope) (cl : List (Str × Addr)) (Fin : Shared → List Value → List (Addr × Obj) → Prop) (it : Value) (s₂ : Shared) : Prop :=
  ∃ (I : Addr) (fp : List Addr) (n : Nat) (P Md : Nat → Value → Heap → Prop) (St : Nat → Heap → Prop) (news : List (Addr × Obj)) (Inv : Nat → List Value → Prop), it = .ref I ∧
    KTurns prog w A target I fp [I] n P Md St ∧ (∀ (s : Shared) (Q : Value → Shared → Prop) (E : Value → Shared → Prop), St 0 s.heap → Q (.ref I) s → wpAny (model prog w) A (pyIter (.ref I)) Q E s) ∧
    n ≤ sizeLine ∧ (∀ i h, St i h → ∃ o, h.get? I = some o) ∧
    (∀ i h h' o, St i h → h.get? I = some o → h'.get? I = some o → (∀ b o, h₀.get? b = some o → h'.get? b = some o) → News h₀ L h' news → St i h') ∧
    St 0 s₂.heap ∧ (∀ b ∈ fp, b < s₂.heap.objs.size) ∧ Fr h₀ L s₂.heap m ∧ News h₀ L s₂.heap news ∧ L ≠ I ∧ h₀.get? I = none ∧ (∀ p ∈ news, p.1 ≠ I) ∧ Inv 0 [] ∧ (∀ i ys, Inv i ys → ys.length ≤ i) ∧
    (∀ i v, i < n → Turn prog w A h₀ L m env elt target ifs scope cl s₂ I news Inv i v (P i v)) ∧ ∀ ys, Inv n ys → Fin s₂ ys news
noncomputable abbrev FinX (h₀ : Heap) (L : Addr) (m : Str → Option Value) (Q : Value → Shared → Prop) (s₂ : Shared) (ys : List Value) (news : List (Addr × Obj)) : Prop :=
  ∀ D h tk, Fr h₀ L h m → News h₀ L h ((D, lst ys) :: news) → (∀ p ∈ news, p.1 ≠ D) → Q (.ref D) { s₂ with heap := h, toks := tk }
noncomputable abbrev FinY (h₀ : Heap) (L : Addr) (m : Str → Option Value) (y : Str) (Q : Flow → Shared → Prop) (s₂ : Shared) (ys : List Value) (news : List (Addr × Obj)) : Prop :=
  ∀ D h tk, Fr h₀ L h (fun z => if z = y then some (.ref D) else m z) → News h₀ L h ((D, lst ys) :: news) → (∀ p ∈ news, p.1 ≠ D) → Q .next { s₂ with heap := h, toks := tk }

theorem ListComp_E {elt target iter : Expr} {ifs : List Expr} {scope : Scope} {cl : List (Str × Addr)} {pos : Pos} {Q : Value → Shared → Prop} (_F : Fr h₀ L s.heap m)
    (hclos : closureFor scope env = pure cl) (hcell : ∀ y ∈ scope.names, y.2 ≠ .cell) (hkind : scope.kind = .function)
    (hnames : ∀ y ∈ scope.names, y.2 = .local → scope.names.lookup y.1 = some .local)
    (h : wpAny (model prog w) A (eval iter env) (fun xv s₁ => wpAny (model prog w) A (pyIter xv) (CompAt prog w A h₀ L m env elt target ifs scope cl (FinX h₀ L m Q)) E s₁) E s)
    (hs : ∀ x, foldedSetIterable iter env x = pure x := by intro _; rfl) :
    wpAny (model prog w) A (eval (.ListComp elt [⟨target, iter, ifs, 0⟩] scope pos) env) Q E s := by
  rw [eval_ListComp]
  refine wpAny_comprehension_free (use := none) rfl hs hclos hkind hnames (wpAny_mono h (fun xv s₁ h₁ => wpAny_mono h₁ (fun it s₂ h₂ => ?_) fun _ _ e => e) fun _ _ e => e)
  obtain ⟨I, fp, n, P, Md, St, news, Inv, rfl, W, hself, hsz, hIo, hSt, hst, hfp, F, N, hIL, hI₀, off, hinv, hlen, turn, fin⟩ := h₂
  refine comp_block W hself hsz hIo hSt hcell hkind hst hfp F N hIL hI₀ off hinv hlen (fun i v ys C D oI oC m₂ h tk E' hi hP => turn i v hi ys C D oI oC m₂ h tk E' hP) ?_
  intro D C h tk m' ys F' N' hn hC₀ hD₀ hCL hDL hCD offCD hI
  refine ⟨m', hn, fun h'' hs'' => fin ys hI D h'' tk (F'.change hs'' hCL hC₀) (fun p hp => ?_) fun p hp => (offCD p hp).2⟩
  refine ⟨hs''.extBut _ _ ?_ (N' p hp).1, (N' p hp).2⟩
  rcases List.mem_cons.mp hp with rfl | hp
  · exact Ne.symm hCD
  · exact (offCD p hp).1

theorem ListComp_A {elt target iter : Expr} {ifs : List Expr} {y : Str} {py : Pos} {scope : Scope} {cl : List (Str × Addr)} {pos spos : Pos} {Q : Flow → Shared → Prop} (_F : Fr h₀ env.locals s.heap m)
    (hsw : swapsWith (.ListComp elt [⟨target, iter, ifs, 0⟩] scope pos) (some (.Name y py)) spos.line env = pure true)
    (hclos : closureFor scope env = pure cl) (hcell : ∀ y ∈ scope.names, y.2 ≠ .cell) (hkind : scope.kind = .function)
    (hnames : ∀ y ∈ scope.names, y.2 = .local → scope.names.lookup y.1 = some .local)
    (hy : env.kindOf y = some .local) (hp : (env.scope.kind == .class || (env.scope.kind == .module && env.locals != env.globals)) = false)
    (h : wpAny (model prog w) A (eval iter env) (fun xv s₁ => wpAny (model prog w) A (pyIter xv) (CompAt prog w A h₀ env.locals m env elt target ifs scope cl (FinY h₀ env.locals m y Q)) E s₁) E s)
    (hs : ∀ x, foldedSetIterable iter env x = pure x := by intro _; rfl) :
    wpAny (model prog w) A (exec (.Assign [.Name y py] (.ListComp elt [⟨target, iter, ifs, 0⟩] scope pos) spos) env) Q E s := by
  rw [exec_Assign_Name_used _ _ _ _ hsw]
  refine wpAny_bind (wpAny_standAt (wpAny_bind ?_))
  show wpAny _ A (do let _ ← comprehension (.ListComp elt [⟨target, iter, ifs, 0⟩] scope pos) scope env _ (newList []) false (eval iter env) (some (assign (.Name y py) env))) _ _ s
  refine wpAny_bind (wpAny_mono (wpAny_comprehension_free (use := some (assign (.Name y py) env)) (Q := fun _ s' => Q .next s') rfl hs hclos hkind hnames
    (wpAny_mono h (fun xv s₁ h₁ => wpAny_mono h₁ (fun it s₂ h₂ => ?_) fun _ _ e => e) fun _ _ e => e)) (fun _ s' hq => wpAny_pure (wpAny_pure hq)) fun _ _ e => e)
  obtain ⟨I, fp, n, P, Md, St, news, Inv, rfl, W, hself, hsz, hIo, hSt, hst, hfp, F, N, hIL, hI₀, off, hinv, hlen, turn, fin⟩ := h₂
  refine comp_block W hself hsz hIo hSt hcell hkind hst hfp F N hIL hI₀ off hinv hlen (fun i v ys C D oI oC m₂ h tk E' hi hP => turn i v hi ys C D oI oC m₂ h tk E' hP) ?_
  intro D C h' tk m' ys F' N' hn hC₀ hD₀ hCL hDL hCD offCD hI
  show wpAny _ A (assign (.Name y py) env (.ref D)) _ _ _
  refine wpAny_assign_Name (wpAny_storeName_local hy F'.ns (fun h₂ hn₂ hs₂ => ?_) hp)
  have hL₀ : h₀.get? env.locals = none := Heap.get?_none_of_le F'.above
  have F₂ : Fr h₀ env.locals h₂ (fun z => if z = y then some (.ref D) else m z) := ⟨hn₂, fun b o e => hs₂.extBut b o (fun q => by rw [q, hL₀] at e; cases e) (F'.keep b o e), F'.above⟩
  refine ⟨m', hn.sameBut hs₂ hCL, fun h'' hs'' => fin ys hI D h'' _ (F₂.change hs'' hCL hC₀) (fun p hp => ?_) fun p hp => (offCD p hp).2⟩
  have z : h₂.get? p.1 = some p.2 := hs₂.extBut _ _ (N' p hp).2.1 (N' p hp).1
  refine ⟨hs''.extBut _ _ ?_ z, (N' p hp).2⟩
  rcases List.mem_cons.mp hp with rfl | hp
  · exact Ne.symm hCD
  · exact (offCD p hp).1

/-- a sequence that stands: in the base, or in the ledger -/
noncomputable def Stands (h₀ : Heap) (news : List (Addr × Obj)) (G : Heap → Prop) : Prop := ∀ (L : Addr) (h : Heap), (∀ b o, h₀.get? b = some o → h.get? b = some o) → News h₀ L h news → G h
theorem stands_list {l : Addr} {its : Array Value} {news : List (Addr × Obj)} (x : h₀.IsList l its) : Stands h₀ news (fun h => h.IsList l its) := fun _ _ k _ => let ⟨o, e, r⟩ := x; ⟨o, k _ _ e, r⟩
theorem stands_tup {l : Addr} {its : Array Value} {news : List (Addr × Obj)} (x : IsTup h₀ l its) : Stands h₀ news (fun h => IsTup h l its) := fun _ _ k _ => let ⟨o, e, r⟩ := x; ⟨o, k _ _ e, r⟩
theorem stands_listL {l : Addr} {o : Obj} {its : Array Value} {n : Nat} {news : List (Addr × Obj)} (x : (l, o) ∈ news) (hc : o.cls = .type "list") (hd : o.data = .seq its n) : Stands h₀ news (fun h => h.IsList l its) := fun _ _ _ N => ⟨o, (N _ x).1, hc, n, hd⟩
theorem stands_tupL {l : Addr} {o : Obj} {its : Array Value} {n : Nat} {news : List (Addr × Obj)} (x : (l, o) ∈ news) (hc : o.cls = .type "tuple") (hd : o.data = .seq its n) : Stands h₀ news (fun h => IsTup h l its) := fun _ _ _ N => ⟨o, (N _ x).1, hc, n, hd⟩

/-- the source: a list -/
theorem compAt_list {elt target : Expr} {ifs : List Expr} {scope : Scope} {cl : List (Str × Addr)} {Fin : Shared → List Value → List (Addr × Obj) → Prop} {l : Addr} {vs : List Value} {news : List (Addr × Obj)} (Inv : Nat → List Value → Prop)
    (hh : A.handled = none) (hl : Stands h₀ news (fun h => h.IsList l vs.toArray)) (hsz : vs.length ≤ sizeLine) (F : Fr h₀ L s.heap m) (N : News h₀ L s.heap news)
    (hgo : ∀ I i v (s : Shared) (Q : Unit → Shared → Prop) (E : Value → Shared → Prop), s.heap.IsListIter I l i → Q () s → wpAny (model prog w) A (letOwnedTupleGo target (.ref I) v) Q E s)
    (hinv : Inv 0 []) (hlen : ∀ i ys, Inv i ys → ys.length ≤ i)
    (turn : ∀ I i v h₂, i < vs.length → vs[i]? = some v → Turn prog w A h₀ L m env elt target ifs scope cl { s with heap := h₂ } I news Inv i v (fun _ => True))
    (fin : ∀ ys h₂, Inv vs.length ys → Fin { s with heap := h₂ } ys news) :
    wpAny (model prog w) A (pyIter (.ref l)) (CompAt prog w A h₀ L m env elt target ifs scope cl Fin) E s := by
  have hls := hl L _ F.keep N
  obtain ⟨ol, hol, _⟩ := id hls
  have hlt : l < s.heap.objs.size := Heap.lt_size hol
  refine wpAny_pyIter_list hls ?_
  have W := Walks.list (prog := prog) (w := w) hh s.heap.objs.size l (Nat.ne_of_lt hlt) vs.toArray
  have hz : vs.toArray.size = vs.length := List.size_toArray
  rw [hz] at W
  have up : ∀ b o, s.heap.get? b = some o → (s.heap.push { cls := .type "list_iterator", data := .fields #[.ref l, .int 0 0] }).get? b = some o := fun b o e => Heap.get?_push_of_some _ e
  refine ⟨s.heap.objs.size, _, vs.length, _, _, _, news, Inv, rfl, KTurns.ofWalks W fun i v s Q E st q => hgo _ i v s Q E st.1 q, fun s Q E st q => W.self 0 s Q E st q, hsz, ?_, ?_, ⟨⟨_, Heap.get?_push_size _ rfl, rfl, rfl⟩, hls.push _⟩, ?_,
    F.keeps up, N.grown up, Nat.ne_of_lt F.ns.lt, next_is_new F, fun p hp => Nat.ne_of_lt (Heap.lt_size (N p hp).1), hinv, hlen, ?_, fun ys hi => fin ys _ hi⟩
  · intro i h st
    obtain ⟨o, e, _⟩ := st.1
    exact ⟨o, e⟩
  · intro i h h' o st e e' k N'
    refine ⟨?_, hl L _ k N'⟩
    obtain ⟨o', q, r⟩ := st.1
    rw [e] at q; cases q
    exact ⟨o, e', r⟩
  · intro b hb
    show b < (s.heap.push _).objs.size
    rw [Heap.size_push]
    rcases List.mem_cons.mp hb with rfl | hb
    · exact Nat.lt_succ_self _
    · rw [List.mem_singleton.mp hb]; exact Nat.lt_succ_of_lt hlt
  · intro i v hi ys C D oI oC m₂ h tk E' hP
    exact turn _ i v _ hi (by simpa using hP) ys C D oI oC m₂ h tk E' trivial
/-- the source: a tuple -/
theorem compAt_tup {elt target : Expr} {ifs : List Expr} {scope : Scope} {cl : List (Str × Addr)} {Fin : Shared → List Value → List (Addr × Obj) → Prop} {l : Addr} {vs : List Value} {news : List (Addr × Obj)} (Inv : Nat → List Value → Prop)
    (hh : A.handled = none) (hl : Stands h₀ news (fun h => IsTup h l vs.toArray)) (hsz : vs.length ≤ sizeLine) (F : Fr h₀ L s.heap m) (N : News h₀ L s.heap news)
    (hgo : ∀ I v (s : Shared) (Q : Unit → Shared → Prop) (E : Value → Shared → Prop), Q () s → wpAny (model prog w) A (letOwnedTupleGo target (.ref I) v) Q E s)
    (hinv : Inv 0 []) (hlen : ∀ i ys, Inv i ys → ys.length ≤ i)
    (turn : ∀ I i v h₂, i < vs.length → vs[i]? = some v → Turn prog w A h₀ L m env elt target ifs scope cl { s with heap := h₂ } I news Inv i v (fun _ => True))
    (fin : ∀ ys h₂, Inv vs.length ys → Fin { s with heap := h₂ } ys news) :
    wpAny (model prog w) A (pyIter (.ref l)) (CompAt prog w A h₀ L m env elt target ifs scope cl Fin) E s := by
  have hls := hl L _ F.keep N
  obtain ⟨ol, hol, _⟩ := id hls
  have hlt : l < s.heap.objs.size := Heap.lt_size hol
  refine wpAny_pyIter_tuple hls ?_
  have W := Walks.tuple (prog := prog) (w := w) hh s.heap.objs.size l (Nat.ne_of_lt hlt) vs.toArray
  have hz : vs.toArray.size = vs.length := List.size_toArray
  rw [hz] at W
  have up : ∀ b o, s.heap.get? b = some o → (s.heap.push { cls := .type "tuple_iterator", data := .fields #[.ref l, .int 0 0] }).get? b = some o := fun b o e => Heap.get?_push_of_some _ e
  refine ⟨s.heap.objs.size, _, vs.length, _, _, _, news, Inv, rfl, KTurns.ofWalks W fun i v s Q E st q => hgo _ v s Q E q, fun s Q E st q => W.self 0 s Q E st q, hsz, ?_, ?_, ⟨⟨_, Heap.get?_push_size _ rfl, rfl, rfl⟩, IsTup.keeps hls up⟩, ?_,
    F.keeps up, N.grown up, Nat.ne_of_lt F.ns.lt, next_is_new F, fun p hp => Nat.ne_of_lt (Heap.lt_size (N p hp).1), hinv, hlen, ?_, fun ys hi => fin ys _ hi⟩
  · intro i h st
    obtain ⟨o, e, _⟩ := st.1
    exact ⟨o, e⟩
  · intro i h h' o st e e' k N'
    refine ⟨?_, hl L _ k N'⟩
    obtain ⟨o', q, r⟩ := st.1
    rw [e] at q; cases q
    exact ⟨o, e', r⟩
  · intro b hb
    show b < (s.heap.push _).objs.size
    rw [Heap.size_push]
    rcases List.mem_cons.mp hb with rfl | hb
    · exact Nat.lt_succ_self _
    · rw [List.mem_singleton.mp hb]; exact Nat.lt_succ_of_lt hlt
  · intro i v hi ys C D oI oC m₂ h tk E' hP
    exact turn _ i v _ hi (by simpa using hP) ys C D oI oC m₂ h tk E' trivial
end
end Mine
end
section
open PySem PySem.W PySem.Calls PyProof.Rows PyProof PyProof.Rows.LCg
set_option Elab.async false
namespace Mine
section
variable {prog : Program} {w : World} {A : Around} {E : Value → Shared → Prop} {s : Shared} {h₀ : Heap} {L : Addr} {m : Str → Option Value} {env : Env} {scope : Scope} {cl : List (Str × Addr)} {I C D : Addr} {oI oC : Obj} {m₂ : Str → Option Value} {ys : List Value} {news : List (Addr × Obj)} {Q : Unit → Shared → Prop}
theorem setC {h h' : Heap} {mC : Str → Option Value} (hn : h'.Ns C mC) (hs : Heap.SameBut C h h') (F : Fr h₀ L h m) (N : News h₀ L h ((I, oI) :: (C, oC) :: (D, lst ys) :: news)) (off : Off3 I C D news) (ne : (@Ne Nat I C) ∧ (@Ne Nat I D) ∧ (@Ne Nat C D)) :
    ∃ oC', NsObj oC' mC ∧ Fr h₀ L h' m ∧ News h₀ L h' ((I, oI) :: (C, oC') :: (D, lst ys) :: news) := by
  obtain ⟨oC', heC, hoC⟩ := ns_obj hn
  have zC := N (C, oC) (List.mem_cons_of_mem _ List.mem_cons_self)
  refine ⟨oC', hoC, F.change hs zC.2.1 zC.2.2, fun p hp => ?_⟩
  have off3 := off.mem
  rcases List.mem_cons.mp hp with rfl | hp
  · have z := N _ List.mem_cons_self
    exact ⟨hs.extBut _ _ ne.1 z.1, z.2⟩
  · rcases List.mem_cons.mp hp with rfl | hp
    · exact ⟨heC, zC.2⟩
    · have z := N p (List.mem_cons_of_mem _ (List.mem_cons_of_mem _ hp))
      refine ⟨hs.extBut _ _ ?_ z.1, z.2⟩
      rcases List.mem_cons.mp hp with rfl | hp
      · exact Ne.symm ne.2.2
      · exact (off3 p hp).2.1
theorem assignC1 {x : Str} {px : Pos} {v : Value} (hx : (compEnvC scope cl C env).kindOf x = some .local) (hkind : scope.kind = .function) (hC : NsObj oC m₂) (F : Fr h₀ L s.heap m) (N : News h₀ L s.heap ((I, oI) :: (C, oC) :: (D, lst ys) :: news))
    (off : Off3 I C D news) (ne : (@Ne Nat I C) ∧ (@Ne Nat I D) ∧ (@Ne Nat C D))
    (h : ∀ h' oC' tk', NsObj oC' (fun y => if y = x then some v else m₂ y) → Fr h₀ L h' m → News h₀ L h' ((I, oI) :: (C, oC') :: (D, lst ys) :: news) → Q () { s with heap := h', toks := tk' }) :
    wpAny (model prog w) A (assign (.Name x px) (compEnvC scope cl C env) v) Q E s := by
  have zC := N (C, oC) (List.mem_cons_of_mem _ List.mem_cons_self)
  refine wpAny_assign_Name (wpAny_storeName_local hx (hC.ns zC.1) (fun h₁ hn₁ hs₁ => ?_) (by simp [compEnvC, relabel, hkind]))
  obtain ⟨oC', a, b, c⟩ := setC hn₁ hs₁ F N off ne
  exact h h₁ oC' _ a b c
theorem assignC2 {x y : Str} {px py tp : Pos} {k : Nat} {T : Addr} {a b : Value} (hh : A.handled = none) (ht : IsTup s.heap T #[a, b]) (hx : (compEnvC scope cl C env).kindOf x = some .local) (hy : (compEnvC scope cl C env).kindOf y = some .local) (hkind : scope.kind = .function)
    (hC : NsObj oC m₂) (F : Fr h₀ L s.heap m) (N : News h₀ L s.heap ((I, oI) :: (C, oC) :: (D, lst ys) :: news))
    (off : Off3 I C D news) (ne : (@Ne Nat I C) ∧ (@Ne Nat I D) ∧ (@Ne Nat C D))
    (h : ∀ h' oC' tk', NsObj oC' (fun z => if z = y then some b else if z = x then some a else m₂ z) → Fr h₀ L h' m → News h₀ L h' ((I, oI) :: (C, oC') :: (D, lst ys) :: news) → Q () { s with heap := h', toks := tk' }) :
    wpAny (model prog w) A (assign (.Tuple [.Name x px, .Name y py] k tp) (compEnvC scope cl C env) (.ref T)) Q E s := by
  refine assign_Tuple_tuple hh ht rfl rfl fun h₁ he => ?_
  have k₁ : Keeps s.heap h₁ := fun b o e => he b o (Nat.ne_of_lt (Heap.lt_size e)) e
  have F₁ := Fr.kept F k₁
  have N₁ := News.kept N k₁
  have zC := N₁ (C, oC) (List.mem_cons_of_mem _ List.mem_cons_self)
  refine assignInOrder_cons (wpAny_assign_Name (wpAny_storeName_local hx (hC.ns zC.1) (fun h₂ hn₂ hs₂ => ?_) (by simp [compEnvC, relabel, hkind])))
  obtain ⟨oC₂, c2, F₂, N₂⟩ := setC hn₂ hs₂ F₁ N₁ off ne
  refine assignInOrder_cons (wpAny_assign_Name (wpAny_storeName_local hy hn₂ (fun h₃ hn₃ hs₃ => ?_) (by simp [compEnvC, relabel, hkind])))
  obtain ⟨oC₃, c3, F₃, N₃⟩ := setC hn₃ hs₃ F₂ N₂ off ne
  exact assignInOrder_nil (h h₃ oC₃ _ c3 F₃ N₃)
theorem tests_nil {env : Env} {Q : Bool → Shared → Prop} (h : Q true s) : wpAny (model prog w) A (tests [] env) Q E s := wpAny_pure h
theorem tests_one {env : Env} {c : Expr} {Q : Bool → Shared → Prop} (h : wpAny (model prog w) A (isTrue c env (eval c env)) Q E s) : wpAny (model prog w) A (tests [c] env) Q E s := wpAny_tests_one h
end
end Mine
end
section
open PySem PySem.W PySem.Calls PyProof.Rows PyProof PyProof.Rows.LCg
set_option Elab.async false
namespace Mine
section
variable {prog : Program} {w : World} {A : Around} {E : Value → Shared → Prop} {s : Shared} {env : Env} {h₀ : Heap} {x : Str} {body : List Stmt} {Q : Flow → Shared → Prop}
/-- over a tuple that stands in the base -/
theorem iterTupV {l : Addr} {vs : List Value} {m₀ : Str → Option Value} {news : List (Addr × Obj)} (J : Nat → (Str → Option Value) → Prop)
    (hh : A.handled = none) (hl : IsTup h₀ l vs.toArray) (F : Fr h₀ env.locals s.heap m₀) (N : News h₀ env.locals s.heap news) (hj : J 0 m₀)
    (turn : ∀ i v m₁ h tk own, i < vs.length → vs[i]? = some v → J i m₁ → Fr h₀ env.locals h (fun y => if y = x then some v else m₁ y) → News h₀ env.locals h (own ++ news) →
      wpAny (model prog w) A (execs body env) (InvPost h₀ env.locals (J (i + 1)) (own ++ news) { s with heap := h, toks := tk } Q) E { s with heap := h, toks := tk })
    (done : ∀ m₁ h tk, J vs.length m₁ → Fr h₀ env.locals h m₁ → News h₀ env.locals h news → Q .next { s with heap := h, toks := tk }) :
    wpAny (model prog w) A (pyIter (.ref l)) (fun it s₂ => LoopAtV prog w A h₀ env x body Q E it s₂) E s := by
  have hls : IsTup s.heap l vs.toArray := IsTup.keeps hl F.keep
  obtain ⟨ol, hol, _⟩ := id hl
  have hlt : l < h₀.objs.size := Heap.lt_size hol
  have hne : l ≠ s.heap.objs.size := Nat.ne_of_lt (Nat.lt_trans (Nat.lt_of_lt_of_le hlt F.above) F.ns.lt)
  refine wpAny_pyIter_tuple hls ?_
  have W := Walks.tuple (prog := prog) (w := w) hh s.heap.objs.size l hne vs.toArray
  rw [List.size_toArray] at W
  refine loopV (s := { s with heap := _ }) W ?_ ?_ ?_ ⟨⟨_, Heap.get?_push_size _ rfl, rfl, rfl⟩, IsTup.keeps hls fun _ _ e => Heap.get?_push_of_some _ e⟩ (F.push _) (fun p hp => ⟨Heap.get?_push_of_some _ (N p hp).1, (N p hp).2⟩) J hj ?_ done
  · intro hm
    rcases List.mem_cons.mp hm with e | hm
    · exact absurd F.ns.lt (e ▸ Nat.lt_irrefl _)
    · exact absurd (Nat.lt_of_lt_of_le hlt F.above) ((List.mem_singleton.mp hm) ▸ Nat.lt_irrefl _)
  · intro b hb
    rw [List.mem_singleton.mp hb]
    exact next_is_new F
  · intro p hp hI
    exact absurd (Heap.lt_size (N p hp).1) ((List.mem_singleton.mp hI) ▸ Nat.lt_irrefl _)
  · intro i v m₁ h tk own hi hP
    exact turn i v m₁ h tk own hi (by simpa using hP)
end
section
variable {M : Model} {A : Around} {E : Value → Shared → Prop} {s : Shared} {h₀ : Heap} {L C c : Addr} {env : Env} {scope : Scope} {cl : List (Str × Addr)} {led : List (Addr × Obj)} {o oC : Obj} {mC : Str → Option Value} {x : Str} {pos : Pos} {v : Value} {Q : Value → Shared → Prop}
theorem nameC (N : News h₀ L s.heap led) (hm : (C, oC) ∈ led) (hC : NsObj oC mC) (hv : mC x = some v) (h : Q v s)
    (hk : scope.kind = .function := by rfl) (hx : (compEnvC scope cl C env).kindOf x = some .local := by rfl) (hd : (x == ("__debug__" : Str)) = false := by decide) :
    wpAny M A (eval (.Name x pos) (compEnvC scope cl C env)) Q E s := wpAny_Name (wpAny_loadName_local hk hx (hC.ns (N _ hm).1) hv h) hd
theorem nameCC (N : News h₀ L s.heap led) (hc : cl.lookup x = some c) (hm : (c, o) ∈ led) (hd : o.data = .cell (some v)) (h : Q v s)
    (hk : scope.kind = .function := by rfl) (hx : (compEnvC scope cl C env).kindOf x = some .cell := by rfl) (hb : (x == ("__debug__" : Str)) = false := by decide) :
    wpAny M A (eval (.Name x pos) (compEnvC scope cl C env)) Q E s := wpAny_Name (wpAny_loadName_cell hk hx hc ⟨o, N.get hm, hd⟩ h) hb
theorem nameC1 (N : News h₀ L s.heap led) (hm : (C, oC) ∈ led) (hC : NsObj oC mC) (hv : mC x = some v) (h : Q v s) (hk : scope.kind = .function) (hx : (compEnvC scope cl C env).kindOf x = some .local) (hd : (x == ("__debug__" : Str)) = false) :
    wpAny M A (eval (.Name x pos) (compEnvC scope cl C env)) Q E s := nameC N hm hC hv h hk hx hd
theorem nameCC1 (N : News h₀ L s.heap led) (hc : cl.lookup x = some c) (hm : (c, o) ∈ led) (hd : o.data = .cell (some v)) (h : Q v s) (hk : scope.kind = .function) (hx : (compEnvC scope cl C env).kindOf x = some .cell) (hb : (x == ("__debug__" : Str)) = false) :
    wpAny M A (eval (.Name x pos) (compEnvC scope cl C env)) Q E s := nameCC N hc hm hd h hk hx hb
end
section
variable {prog : Program} {w : World} {A : Around} {E : Value → Shared → Prop} {s : Shared} {h₀ : Heap} {L : Addr} {m : Str → Option Value} {news : List (Addr × Obj)} {Q : Value → Shared → Prop}
theorem tupleOf_list {D : Addr} {ys : List Value} (F : Fr h₀ L s.heap m) (N : News h₀ L s.heap news) (hl : s.heap.IsList D ys.toArray) (hsz : ys.length ≤ sizeLine)
    (h : ∀ T h', Fr h₀ L h' m → News h₀ L h' ((T, { cls := .type "tuple", data := .seq ys.toArray }) :: news) → (∀ p ∈ news, p.1 < T) → Q (.ref T) { s with heap := h' }) :
    wpAny (model prog w) A (call (.type "tuple") [.ref D]) Q E s := by
  refine call_tuple_list hl (fun h' hk => ?_) (by rw [List.size_toArray]; exact hsz)
  have F' := Fr.kept F hk
  have N' := News.kept N hk
  exact h _ _ (F'.push _) (N'.push F' _) fun p hp => Heap.lt_size (N' p hp).1
end
theorem item_tupleT1 {prog : Program} {w : World} {A : Around} {E : Value → Shared → Prop} {s : Shared} {value slice : Expr} {t : Addr} {l : List Value} {k : Int} {u : Tok} {j : Nat} {x : Value} {Q : Value → Shared → Prop} (ht : IsTup s.heap t l.toArray)
    (hlo : -(2 ^ 63) ≤ k) (hhi : k < 2 ^ 63) (hj : seqIndex? k l.length = some j) (hx : l[j]? = some x) (h : Q x s)
    (hs : subscripted slice false (.ref t) (.int k u) = operate [.ref t, .int k u] (getItem (.ref t) (.int k u))) : wpAny (model prog w) A (subscriptTail value slice (.ref t) (.int k u)) Q E s := item_tupleT ht hlo hhi hj hx h hs
end Mine
end
section
open PySem PySem.W PySem.Calls PyProof.Rows PyProof PyProof.Rows.LCg
set_option Elab.async false
namespace Mine
/-- a list compared with an empty one -/
theorem eq_nil {prog : Program} {w : World} {A : Around} {E : Value → Shared → Prop} {s : Shared} {l b : Addr} {ys : List Value} {Q : Value → Shared → Prop} (hl : s.heap.IsList l ys.toArray) (hb : s.heap.IsList b #[]) (hu : A.units < cLine)
    (h : ∀ t, (t = true ↔ ys = []) → Q (.bool t) s) : wpAny (model prog w) A (compareOp .Eq (.ref l) (.ref b)) Q E s := by
  cases ys with
  | nil =>
    refine PySem.SeqAt.eq_listAt (e := fun _ => true) hl hb rfl hu (fun i hi => ?_) ?_
    · simp at hi
    · exact h _ (by simp)
  | cons y ys => exact PySem.SeqAt.eq_list_lengthsAt hl hb (by simp) hu (h false (by simp))
theorem goList {prog : Program} {w : World} {A : Around} {E : Value → Shared → Prop} {s : Shared} {elts : List Expr} {k : Nat} {pos : Pos} {I l : Addr} {i : Nat} {v : Value} {Q : Unit → Shared → Prop} (hit : s.heap.IsListIter I l i) (h : Q () s) :
    wpAny (model prog w) A (letOwnedTupleGo (.Tuple elts k pos) (.ref I) v) Q E s := by
  cases v with
  | ref a => exact wpAny_letOwnedTupleGo_listiter hit h
  | _ => exact wpAny_pure h
section
variable {prog : Program} {w : World} {A : Around} {E : Value → Shared → Prop} {s : Shared} {env : Env} {h₀ : Heap} {x : Str} {px : Pos} {body : List Stmt} {Q : Flow → Shared → Prop}
/-- a loop whose own name is a cell -/
theorem loopCell {c I : Addr} {fp wr : List Addr} {n : Nat} {P : Nat → Value → Prop} {Md : Nat → Value → Heap → Prop} {St : Nat → Heap → Prop} {m₀ : Str → Option Value} {rest : List (Addr × Obj)} {o : Obj} {v₀ : Option Value}
    (hc : env.cells.lookup x = some c) (hx : env.kindOf x = some .cell) (hk : env.scope.kind = .function)
    (W : KTurns prog w A (.Name x px) I fp wr n (fun i v _ => P i v) Md St) (hLf : env.locals ∉ fp) (hcf : c ∉ fp) (hwr : ∀ b ∈ wr, h₀.get? b = none) (hnw : ∀ p ∈ rest, p.1 ∉ wr ∧ p.1 ≠ c) (hst : St 0 s.heap)
    (F : Fr h₀ env.locals s.heap m₀) (N : News h₀ env.locals s.heap ((c, o) :: rest)) (ho : o.data = .cell v₀) (J : Nat → (Str → Option Value) → Prop) (hj : J 0 m₀)
    (turn : ∀ i v m₁ o' h tk own, i < n → P i v → J i m₁ → o'.data = .cell (some v) → Fr h₀ env.locals h m₁ → News h₀ env.locals h (own ++ ((c, o') :: rest)) → (∀ p ∈ own, p.1 ∈ fp) →
      wpAny (model prog w) A (execs body env) (InvPost h₀ env.locals (J (i + 1)) (own ++ ((c, o') :: rest)) { s with heap := h, toks := tk } Q) E { s with heap := h, toks := tk })
    (done : ∀ m₁ o' v h tk, J n m₁ → o'.data = .cell v → Fr h₀ env.locals h m₁ → News h₀ env.locals h ((c, o') :: rest) → Q .next { s with heap := h, toks := tk }) :
    TurnsAt prog w A h₀ env (.Name x px) body Q E (.ref I) s := by
  have hcw : c ∉ wr := fun h => hcf (W.sub _ h)
  refine ⟨I, fp, wr, n, _, Md, St, m₀, (c, o) :: rest, fun i m nx => ∃ o' v', nx = (c, o') :: rest ∧ o'.data = .cell v' ∧ J i m, rfl, W, hLf, hwr, ?_, hst, F, N, ⟨o, v₀, rfl, ho, hj⟩, ?_, ?_⟩
  · intro p hp
    rcases List.mem_cons.mp hp with rfl | hp
    · exact hcw
    · exact (hnw p hp).1
  · rintro i v m₁ news₁ h tk own hi hP ⟨o₁, v₁, rfl, ho₁, hJ⟩ hoff hown _ _ _ F₁ N₁
    have zc := N₁ (c, o₁) (List.mem_append_right _ List.mem_cons_self)
    refine wpAny_assign_Name (wpAny_storeName_cell hk hx hc ⟨o₁, zc.1, ho₁⟩ fun h₂ hv₂ hs₂ => ?_)
    obtain ⟨o₂, ho₂, hd₂⟩ := hv₂
    have F₂ : Fr h₀ env.locals h₂ m₁ := F₁.change hs₂ zc.2.1 zc.2.2
    have N₂ : News h₀ env.locals h₂ (own ++ ((c, o₂) :: rest)) := fun p hp => by
      rcases List.mem_append.mp hp with h1 | h1
      · have z := N₁ p (List.mem_append_left _ h1)
        exact ⟨hs₂.extBut _ _ (fun q => hcf (q ▸ hown p h1)) z.1, z.2⟩
      · rcases List.mem_cons.mp h1 with rfl | h2
        · exact ⟨ho₂, zc.2⟩
        · have z := N₁ p (List.mem_append_right _ (List.mem_cons_of_mem _ h2))
          exact ⟨hs₂.extBut _ _ (hnw p h2).2 z.1, z.2⟩
    refine wpAny_mono (turn i v m₁ o₂ h₂ tk own hi hP hJ hd₂ F₂ N₂ hown) (fun f s₃ q => ?_) fun _ _ e => e
    have fin : InvEnd h₀ env.locals (J (i + 1)) (own ++ ((c, o₂) :: rest)) { s with heap := h₂, toks := tk } s₃ → LoopStepU h₀ env.locals wr own (fun m nx => ∃ o' v', nx = (c, o') :: rest ∧ o'.data = .cell v' ∧ J (i + 1) m) { s with heap := h, toks := tk } .next s₃ := by
      rintro ⟨h', tk', m', news', e, F', N', hn, hm⟩
      refine ⟨rfl, h', tk', m', (c, o₂) :: rest, e, F', fun p hp => N' p (hn p hp), ?_, o₂, _, rfl, hd₂, hm⟩
      intro p hp
      rcases List.mem_cons.mp hp with rfl | hp
      · exact hcw
      · exact (hnw p hp).1
    cases f with
    | ret v => exact .ret q
    | brk => exact .brk q
    | next => exact .next (fin q)
    | cont => exact .cont (fin q)
  · rintro h' tk m' news' F' N' _ ⟨o', v', rfl, hd, hJ⟩
    exact done m' o' v' h' tk hJ hd F' N'

/-- over a list of the ledger's, the loop's own name a cell -/
theorem iterListCell {c l : Addr} {vs : List Value} {m₀ : Str → Option Value} {rest : List (Addr × Obj)} {o ol : Obj} {k : Nat} {v₀ : Option Value} (J : Nat → (Str → Option Value) → Prop)
    (hh : A.handled = none) (hc : env.cells.lookup x = some c) (hx : env.kindOf x = some .cell) (hk : env.scope.kind = .function)
    (hm : (l, ol) ∈ rest) (hcl : ol.cls = .type "list") (hd : ol.data = .seq vs.toArray k) (hnc : ∀ p ∈ rest, p.1 ≠ c)
    (F : Fr h₀ env.locals s.heap m₀) (N : News h₀ env.locals s.heap ((c, o) :: rest)) (ho : o.data = .cell v₀) (hj : J 0 m₀)
    (turn : ∀ i v m₁ o' h tk own, i < vs.length → vs[i]? = some v → J i m₁ → o'.data = .cell (some v) → Fr h₀ env.locals h m₁ → News h₀ env.locals h (own ++ ((c, o') :: rest)) → (∀ p ∈ own, p.1 ≠ c) →
      wpAny (model prog w) A (execs body env) (InvPost h₀ env.locals (J (i + 1)) (own ++ ((c, o') :: rest)) { s with heap := h, toks := tk } Q) E { s with heap := h, toks := tk })
    (done : ∀ m₁ o' v h tk, J vs.length m₁ → o'.data = .cell v → Fr h₀ env.locals h m₁ → News h₀ env.locals h ((c, o') :: rest) → Q .next { s with heap := h, toks := tk }) :
    wpAny (model prog w) A (pyIter (.ref l)) (fun it s₂ => TurnsAt prog w A h₀ env (.Name x px) body Q E it s₂) E s := by
  have zl := N (l, ol) (List.mem_cons_of_mem _ hm)
  have zc := N (c, o) List.mem_cons_self
  have hls : s.heap.IsList l vs.toArray := ⟨ol, zl.1, hcl, k, hd⟩
  have hlt : l < s.heap.objs.size := Heap.lt_size zl.1
  refine wpAny_pyIter_list hls ?_
  have W := Walks.list (prog := prog) (w := w) hh s.heap.objs.size l (Nat.ne_of_lt hlt) vs.toArray
  have hz : vs.toArray.size = vs.length := List.size_toArray
  rw [hz] at W
  have hcf : c ∉ [s.heap.objs.size, l] := by
    intro hm'
    rcases List.mem_cons.mp hm' with e | hm'
    · exact absurd (Heap.lt_size zc.1) (e ▸ Nat.lt_irrefl _)
    · exact hnc _ hm (List.mem_singleton.mp hm').symm
  refine loopCell (s := { s with heap := _ }) hc hx hk (KTurns.ofWalks W fun i v s Q E st q => wpAny_pure q) ?_ hcf ?_ ?_ ⟨⟨_, Heap.get?_push_size _ rfl, rfl, rfl⟩, hls.at fun o e => Heap.get?_push_of_some _ e⟩ (F.push _) (fun p hp => ⟨Heap.get?_push_of_some _ (N p hp).1, (N p hp).2⟩) ho J hj ?_ done
  · intro hm'
    rcases List.mem_cons.mp hm' with e | hm'
    · exact absurd F.ns.lt (e ▸ Nat.lt_irrefl _)
    · exact zl.2.1 (List.mem_singleton.mp hm').symm
  · intro b hb
    rw [List.mem_singleton.mp hb]
    exact next_is_new F
  · intro p hp
    refine ⟨fun hI => ?_, hnc p hp⟩
    exact absurd (Heap.lt_size (N p (List.mem_cons_of_mem _ hp)).1) ((List.mem_singleton.mp hI) ▸ Nat.lt_irrefl _)
  · intro i v m₁ o' h tk own hi hP hJ hd' F₁ N₁ hown
    exact turn i v m₁ o' h tk own hi (by simpa using hP) hJ hd' F₁ N₁ fun p hp e => hcf (e ▸ hown p hp)
end
end Mine
end
section
open PySem PySem.W PySem.Calls PyProof.Rows PyProof PyProof.Rows.LCg
set_option Elab.async false
namespace Mine
noncomputable abbrev comp2 (elt t0 i0 : Expr) (x1 : Str) (p1 : Pos) (i1 : Expr) (scope : Scope) (pos : Pos) : Expr := .ListComp elt [⟨t0, i0, [], 0⟩, ⟨.Name x1 p1, i1, [], 0⟩] scope pos
section
variable {prog : Program} {w : World} {A : Around} {E : Value → Shared → Prop} {s : Shared} {elt t0 i0 i1 : Expr} {x1 : Str} {p1 : Pos} {scope : Scope} {pos : Pos} {it acc : Value} {env : Env} {R : Result → Shared → Prop}
theorem compTurn_out : compTurn (comp2 elt t0 i0 x1 p1 i1 scope pos) 0 it acc env = (do
      standAt i0.pos
      match ← pyNext it with
      | none => pure (.done .next)
      | some v =>
        letOwnedTupleGo t0 it v
        assign t0 env v
        let x ← eval i1 env
        standAt i1.pos
        let x ← foldedSetIterable i1 env x
        let _ ← runOwn (.compStart (comp2 elt t0 i0 x1 p1 i1 scope pos) 1 (← holding [x] (pyIter x)) acc env) env
        again (.compLoop (comp2 elt t0 i0 x1 p1 i1 scope pos) 0 it acc env)) := by rfl
theorem compTurn_in : compTurn (comp2 elt t0 i0 x1 p1 i1 scope pos) 1 it acc env = (do
      standAt i1.pos
      match ← pyNext it with
      | none => pure (.done .next)
      | some v =>
        letOwnedTupleGo (.Name x1 p1) it v
        assign (.Name x1 p1) env v
        (do let _ ← call (.builtin "list.append") [acc, ← eval elt env])
        again (.compLoop (comp2 elt t0 i0 x1 p1 i1 scope pos) 1 it acc env)) := by rfl
theorem loop_in (I : Nat → Shared → Prop)
    (turn : ∀ n s, I n s → wpAny (model prog w) A (pyNext it) (fun r s₁ => match r with
      | none => R (.ok .next) s₁
      | some v => wpAny (model prog w) A (assign (.Name x1 p1) env v) (fun _ s₂ => wpAny (model prog w) A (eval elt env) (fun x s₄ =>
              wpAny (model prog w) A (call (.builtin "list.append") [acc, x]) (fun _ s₅ => ∃ m, m < n ∧ I m s₅) (notedBy (model prog w) A env fun e s' => R (.error e) s') s₄) (notedBy (model prog w) A env fun e s' => R (.error e) s') s₂)
            (notedBy (model prog w) A env fun e s' => R (.error e) s') s₁) (notedBy (model prog w) A env fun e s' => R (.error e) s') s)
    (n : Nat) (h : I n s) : codeAny (model prog w) A (.compLoop (comp2 elt t0 i0 x1 p1 i1 scope pos) 1 it acc env) R s := by
  refine codeAny_loop rfl I (fun n s hI => ?_) n h
  show wpAny _ A ((compTurn (comp2 elt t0 i0 x1 p1 i1 scope pos) 1 it acc env).onRaise (fun x => do noteFrame x env; theTreesLotGoes x)) _ _ s
  refine wpAny_noted ?_
  rw [compTurn_in]
  refine wpAny_bind (wpAny_standAt (wpAny_bind (wpAny_mono (turn n s hI) (fun r s₁ h₁ => ?_) fun _ _ h' => h')))
  cases r with
  | none => exact wpAny_pure h₁
  | some v =>
    refine wpAny_bind (wpAny_pure ?_)
    exact wpAny_bind (wpAny_mono h₁ (fun _ s₂ h₂ => wpAny_bind (wpAny_bind (wpAny_mono h₂ (fun x s₄ h₄ => wpAny_bind (wpAny_mono h₄ (fun _ s₅ h₅ => wpAny_pure (wpAny_pure ⟨rfl, h₅⟩)) fun _ _ h' => h')) fun _ _ h' => h'))) fun _ _ h' => h')
theorem loop_out (I : Nat → Shared → Prop) (hs : ∀ x, foldedSetIterable i1 env x = pure x)
    (turn : ∀ n s, I n s → wpAny (model prog w) A (pyNext it) (fun r s₁ => match r with
      | none => R (.ok .next) s₁
      | some v => wpAny (model prog w) A (letOwnedTupleGo t0 it v) (fun _ s₁' => wpAny (model prog w) A (assign t0 env v) (fun _ s₂ => wpAny (model prog w) A (eval i1 env) (fun x s₃ =>
              wpAny (model prog w) A (pyIter x) (fun it2 s₄ => codeAny (model prog w) A (.compStart (comp2 elt t0 i0 x1 p1 i1 scope pos) 1 it2 acc env)
                (fun r s' => match r with | .ok _ => ∃ m, m < n ∧ I m s' | .error e => cameBackBy (model prog w) A env (notedBy (model prog w) A env fun e s' => R (.error e) s') e s') s₄) (notedBy (model prog w) A env fun e s' => R (.error e) s') s₃) (notedBy (model prog w) A env fun e s' => R (.error e) s') s₂)
            (notedBy (model prog w) A env fun e s' => R (.error e) s') s₁') (notedBy (model prog w) A env fun e s' => R (.error e) s') s₁) (notedBy (model prog w) A env fun e s' => R (.error e) s') s)
    (n : Nat) (h : I n s) : codeAny (model prog w) A (.compLoop (comp2 elt t0 i0 x1 p1 i1 scope pos) 0 it acc env) R s := by
  refine codeAny_loop rfl I (fun n s hI => ?_) n h
  show wpAny _ A ((compTurn (comp2 elt t0 i0 x1 p1 i1 scope pos) 0 it acc env).onRaise (fun x => do noteFrame x env; theTreesLotGoes x)) _ _ s
  refine wpAny_noted ?_
  rw [compTurn_out]
  refine wpAny_bind (wpAny_standAt (wpAny_bind (wpAny_mono (turn n s hI) (fun r s₁ h₁ => ?_) fun _ _ h' => h')))
  cases r with
  | none => exact wpAny_pure h₁
  | some v =>
    refine wpAny_bind (wpAny_mono h₁ (fun _ s₁' h₁' => ?_) fun _ _ h' => h')
    refine wpAny_bind (wpAny_mono h₁' (fun _ s₂ h₂ => wpAny_bind (wpAny_mono h₂ (fun x s₃ h₃ => wpAny_bind (wpAny_standAt (wpAny_bind (wpAny_of_eq (hs x) ?_)))) fun _ _ h' => h')) fun _ _ h' => h')
    refine wpAny_bind (wpAny_holding (wpAny_mono h₃ (fun it2 s₄ h₄ => wpAny_bind (wpAny_runOwn (codeAny_mono h₄ fun r s' hr => ?_))) fun _ _ h' => h'))
    cases r with
    | ok f => exact wpAny_pure ⟨rfl, hr⟩
    | error e => exact hr
theorem start_in (h0 : codeAny (model prog w) A (.compLoop (comp2 elt t0 i0 x1 p1 i1 scope pos) 1 it acc env) R s)
    (h : wpAny (model prog w) A (pyIter it) (fun it' s' => codeAny (model prog w) A (.compLoop (comp2 elt t0 i0 x1 p1 i1 scope pos) 1 it' acc env) R s') (notedBy (model prog w) A env fun x s' => R (.error x) s') s) :
    codeAny (model prog w) A (.compStart (comp2 elt t0 i0 x1 p1 i1 scope pos) 1 it acc env) R s := by
  refine codeAny_of_tree ?_
  show wpAny _ _ ((compStart (comp2 elt t0 i0 x1 p1 i1 scope pos) 1 it acc env).onRaise (fun x => do noteFrame x env; standAt theWindowsPlace)) _ _ s
  refine wpAny_notedAt ?_
  unfold compStart
  show wpAny _ _ (ask >>= _) _ _ s
  refine wpAny_bind (wpAny_askSetting (wpAny_ite ?_))
  split
  · first
      | exact wpAny_bind (wpAny_pure (wpAny_pure (And.intro rfl h0)))
      | exact wpAny_pure (And.intro rfl h0)
  · first
      | exact wpAny_bind (wpAny_rule (wpAny_bind (wpAny_standAt (wpAny_bind (wpAny_mono h (fun it' s' h' => wpAny_pure (And.intro rfl h')) fun _ _ x => x)))))
      | (refine wpAny_bind (wpAny_rule ?_); show wpAny _ _ (standAt i1.pos >>= _) _ _ s; exact wpAny_bind (wpAny_standAt (wpAny_bind (wpAny_mono h (fun it' s' h' => wpAny_pure (And.intro rfl h')) fun _ _ x => x))))
theorem start_out (h0 : codeAny (model prog w) A (.compLoop (comp2 elt t0 i0 x1 p1 i1 scope pos) 0 it acc env) R s)
    (h : wpAny (model prog w) A (pyIter it) (fun it' s' => codeAny (model prog w) A (.compLoop (comp2 elt t0 i0 x1 p1 i1 scope pos) 0 it' acc env) R s') (notedBy (model prog w) A env fun x s' => R (.error x) s') s) :
    codeAny (model prog w) A (.compStart (comp2 elt t0 i0 x1 p1 i1 scope pos) 0 it acc env) R s := codeAny_compStart_list h0 h
end
end Mine
end
section
open PySem PySem.W PySem.Calls PyProof.Rows PyProof PyProof.Rows.LCg
set_option Elab.async false
namespace Mine
section
variable {prog : Program} {w : World} {A : Around} {E : Value → Shared → Prop} {s : Shared} {h₀ : Heap} {L : Addr} {m : Str → Option Value} {env : Env} {elt t0 i0 i1 : Expr} {x1 : Str} {p1 : Pos} {scope : Scope} {pos : Pos} {cl : List (Str × Addr)}
/-- what the inner source is -/
noncomputable def Src2 (h₀ : Heap) (L : Addr) (m : Str → Option Value) (news : List (Addr × Obj)) (s₂ : Shared) (I : Addr) (oI : Obj) (C D : Addr) (ys : List Value) (P : List Value → Prop) (xv : Value) (s₄ : Shared) : Prop :=
  ∃ l ws h' tk oC m', xv = .ref l ∧ s₄ = { s₂ with heap := h', toks := tk } ∧ h₀.IsList l ws.toArray ∧ Fr h₀ L h' m ∧ News h₀ L h' ((I, oI) :: (C, oC) :: (D, lst ys) :: news) ∧ NsObj oC m' ∧ P ws
/-- the end of an inner turn -/
noncomputable def CEnd2 (h₀ : Heap) (L : Addr) (m : Str → Option Value) (news : List (Addr × Obj)) (s₁ : Shared) (I2 : Addr) (o2 : Obj) (I : Addr) (oI : Obj) (C D : Addr) (ys : List Value) (P : Prop) (s₂ : Shared) : Prop :=
  ∃ h' tk oC m', s₂ = { s₁ with heap := h', toks := tk } ∧ Fr h₀ L h' m ∧ News h₀ L h' ((I2, o2) :: (I, oI) :: (C, oC) :: (D, lst ys) :: news) ∧ NsObj oC m' ∧ P

/-- the inner loop -/
theorem inner_loop {s₂ : Shared} {I C D l : Addr} {oI oC : Obj} {ws ys : List Value} {mC : Str → Option Value} {news : List (Addr × Obj)} {Inv2 : Nat → List Value → Prop} {R : Result → Shared → Prop}
    (hh : A.handled = none) (hl : h₀.IsList l ws.toArray) (F : Fr h₀ L s₂.heap m) (N : News h₀ L s₂.heap ((I, oI) :: (C, oC) :: (D, lst ys) :: news)) (hC : NsObj oC mC) (off : Off3 I C D news) (ne : (@Ne Nat I C) ∧ (@Ne Nat I D) ∧ (@Ne Nat C D))
    (hlen : ∀ j ys, Inv2 j ys → ys.length ≤ 1000) (hinv : Inv2 0 ys)
    (turn : ∀ j v ys I2 o2 oC m₂ h tk (E' : Value → Shared → Prop), ws[j]? = some v → Inv2 j ys → NsObj oC m₂ → Fr h₀ L h m → News h₀ L h ((I2, o2) :: (I, oI) :: (C, oC) :: (D, lst ys) :: news) → (@Ne Nat I2 C) →
      wpAny (model prog w) A (assign (.Name x1 p1) (compEnvC scope cl C env) v) (fun _ s₃ => wpAny (model prog w) A (eval elt (compEnvC scope cl C env)) (fun y => CEnd2 h₀ L m news { s₂ with heap := h, toks := tk } I2 o2 I oI C D ys (Inv2 (j + 1) (ys ++ [y]))) E' s₃) E' { s₂ with heap := h, toks := tk })
    (done : ∀ ys h tk oC m', Inv2 ws.length ys → Fr h₀ L h m → News h₀ L h ((I, oI) :: (C, oC) :: (D, lst ys) :: news) → NsObj oC m' → R (.ok .next) { s₂ with heap := h, toks := tk }) :
    wpAny (model prog w) A (pyIter (.ref l)) (fun it2 s₄ => codeAny (model prog w) A (.compStart (comp2 elt t0 i0 x1 p1 i1 scope pos) 1 it2 (.ref D) (compEnvC scope cl C env)) R s₄) E s₂ := by
  have hls : s₂.heap.IsList l ws.toArray := hl.at fun o e => F.keep l o e
  obtain ⟨ol, hol, _⟩ := id hls
  have hlt : l < s₂.heap.objs.size := Heap.lt_size hol
  refine wpAny_pyIter_list hls ?_
  have W := Walks.list (prog := prog) (w := w) hh s₂.heap.objs.size l (Nat.ne_of_lt hlt) ws.toArray
  have hz : ws.toArray.size = ws.length := List.size_toArray
  rw [hz] at W
  have up : ∀ b o, s₂.heap.get? b = some o → (s₂.heap.push { cls := .type "list_iterator", data := .fields #[.ref l, .int 0 0] }).get? b = some o := fun b o e => Heap.get?_push_of_some _ e
  have hI₀ : h₀.get? s₂.heap.objs.size = none := next_is_new F
  have hIL : L ≠ s₂.heap.objs.size := Nat.ne_of_lt F.ns.lt
  have off3 := off.mem
  have zN : ∀ p ∈ (I, oI) :: (C, oC) :: (D, lst ys) :: news, p.1 ≠ s₂.heap.objs.size := fun p hp => Nat.ne_of_lt (Heap.lt_size (N p hp).1)
  have nI : I ≠ s₂.heap.objs.size := zN _ List.mem_cons_self
  have nC : C ≠ s₂.heap.objs.size := zN (C, oC) (List.mem_cons_of_mem _ List.mem_cons_self)
  have nD : D ≠ s₂.heap.objs.size := zN (D, lst ys) (List.mem_cons_of_mem _ (List.mem_cons_of_mem _ List.mem_cons_self))
  have nn : ∀ p ∈ news, p.1 ≠ s₂.heap.objs.size := fun p hp => zN p (List.mem_cons_of_mem _ (List.mem_cons_of_mem _ (List.mem_cons_of_mem _ hp)))
  have zD0 := N (D, lst ys) (List.mem_cons_of_mem _ (List.mem_cons_of_mem _ List.mem_cons_self))
  have hDL : D ≠ L := zD0.2.1
  have hD₀ : h₀.get? D = none := zD0.2.2
  have hlD : l ≠ D := fun e => by
    obtain ⟨o', ho', _⟩ := hl
    rw [e] at ho'
    have hD₀' : h₀.get? D = none := hD₀
    rw [hD₀'] at ho'; cases ho'
  have loop : ∀ s₃ : Shared, s₃ = { s₂ with heap := s₂.heap.push { cls := .type "list_iterator", data := .fields #[.ref l, .int 0 0] } } →
      codeAny (model prog w) A (.compLoop (comp2 elt t0 i0 x1 p1 i1 scope pos) 1 (.ref s₂.heap.objs.size) (.ref D) (compEnvC scope cl C env)) R s₃ := by
    rintro s₃ rfl
    refine loop_in (fun k s' => ∃ h' tk j ys oC m', s' = { s₂ with heap := h', toks := tk } ∧ j ≤ ws.length ∧ k = ws.length + 1 - j ∧ (h'.IsListIter s₂.heap.objs.size l j ∧ h'.IsList l ws.toArray) ∧ Fr h₀ L h' m ∧ News h₀ L h' ((I, oI) :: (C, oC) :: (D, lst ys) :: news) ∧ NsObj oC m' ∧ Inv2 j ys) ?_ (ws.length + 1)
      ⟨_, s₂.toks, 0, ys, oC, mC, rfl, Nat.zero_le _, rfl, ⟨⟨_, Heap.get?_push_size _ rfl, rfl, rfl⟩, hls.push _⟩, F.keeps up, N.grown up, hC, hinv⟩
    rintro k s' ⟨h', tk, j, ys, oC, m', rfl, hj, rfl, hst', F', N', hC', hI'⟩
    by_cases hlt' : j < ws.length
    · refine W.item j _ _ _ hlt' hst' fun v h₃ tk₃ hP hst₃ hk₃ => ?_
      have hP' : ws[j]? = some v := by simpa using hP
      obtain ⟨o2, he2, hr2⟩ := id hst₃.1
      have F₃ : Fr h₀ L h₃ m := fr_but F' hk₃ hIL hI₀
      have N₃ : News h₀ L h₃ ((s₂.heap.objs.size, o2) :: (I, oI) :: (C, oC) :: (D, lst ys) :: news) := fun p hp => by
        rcases List.mem_cons.mp hp with rfl | hp
        · exact ⟨he2, Ne.symm hIL, hI₀⟩
        · refine (news_but N' hk₃ fun p hp => ?_) p hp
          rcases List.mem_cons.mp hp with rfl | hp
          · exact nI
          · rcases List.mem_cons.mp hp with rfl | hp
            · exact nC
            · rcases List.mem_cons.mp hp with rfl | hp
              · exact nD
              · exact nn p hp
      refine wpAny_mono (turn j v ys s₂.heap.objs.size o2 oC m' h₃ tk₃ _ hP' hI' hC' F₃ N₃ (Ne.symm nC)) (fun _ s₃ q₃ => wpAny_mono q₃ (fun y s₄ q₄ => ?_) fun _ _ e => e) fun _ _ e => e
      obtain ⟨h₅, tk₅, oC₅, m₅, rfl, F₅, N₅, hoC₅, p⟩ := q₄
      have z2 := (N₅ (s₂.heap.objs.size, o2) List.mem_cons_self).1
      have N₆ : News h₀ L h₅ ((I, oI) :: (C, oC₅) :: (D, lst ys) :: news) := fun p hp => N₅ p (List.mem_cons_of_mem _ hp)
      have zD := (N₆ (D, lst ys) (List.mem_cons_of_mem _ (List.mem_cons_of_mem _ List.mem_cons_self))).1
      refine append_at (hsz := by show ys.toArray.size ≤ sizeLine; rw [List.size_toArray, sizeLine_eq]; have := hlen j ys hI'; (first | lia | omega)) zD fun h₆ hs₆ hD₆ => ?_
      refine ⟨ws.length + 1 - (j + 1), by (first | lia | omega), h₆, tk₅, j + 1, ys ++ [y], oC₅, m₅, rfl, hlt', rfl, ⟨⟨o2, hs₆.extBut _ _ (Ne.symm nD) z2, hr2⟩, hl.at fun o e => hs₆.extBut _ _ hlD (F₅.keep l o e)⟩, F₅.change hs₆ hDL hD₀, fun p hp => ?_, hoC₅, p⟩
      rcases List.mem_cons.mp hp with rfl | hp
      · have z := N₆ _ List.mem_cons_self
        exact ⟨hs₆.extBut _ _ ne.2.1 z.1, z.2⟩
      · rcases List.mem_cons.mp hp with rfl | hp
        · have z := N₆ _ (List.mem_cons_of_mem _ List.mem_cons_self)
          exact ⟨hs₆.extBut _ _ ne.2.2 z.1, z.2⟩
        · rcases List.mem_cons.mp hp with rfl | hp
          · exact ⟨hD₆.trans (congrArg some (lst_snoc ys y)), hDL, hD₀⟩
          · have z := N₆ p (List.mem_cons_of_mem _ (List.mem_cons_of_mem _ (List.mem_cons_of_mem _ hp)))
            exact ⟨hs₆.extBut _ _ (off3 p hp).2.2 z.1, z.2⟩
    · obtain rfl : j = ws.length := Nat.le_antisymm hj (Nat.not_lt.mp hlt')
      refine W.done _ _ _ hst' fun h₃ tk₃ hk₃ => ?_
      refine done ys h₃ tk₃ oC m' hI' (fr_but F' hk₃ hIL hI₀) (news_but N' hk₃ fun p hp => ?_) hC'
      rcases List.mem_cons.mp hp with rfl | hp
      · exact nI
      · rcases List.mem_cons.mp hp with rfl | hp
        · exact nC
        · rcases List.mem_cons.mp hp with rfl | hp
          · exact nD
          · exact nn p hp
  exact start_in (loop _ rfl) (W.self 0 _ _ _ ⟨⟨_, Heap.get?_push_size _ rfl, rfl, rfl⟩, hls.push _⟩ (loop _ rfl))
end
end Mine
end
section
open PySem PySem.W PySem.Calls PyProof.Rows PyProof PyProof.Rows.LCg
set_option Elab.async false
namespace Mine
section
variable {prog : Program} {w : World} {A : Around} {E : Value → Shared → Prop} {s : Shared} {h₀ : Heap} {L : Addr} {m : Str → Option Value} {env : Env} {elt t0 i0 i1 : Expr} {x1 : Str} {p1 : Pos} {scope : Scope} {pos : Pos} {cl : List (Str × Addr)}
theorem comp2_block {s₂ : Shared} {I : Addr} {fp : List Addr} {n : Nat} {P Md : Nat → Value → Heap → Prop} {St : Nat → Heap → Prop} {news : List (Addr × Obj)}
    {Inv : Nat → List Value → Prop} {Inner : Nat → List Value → Prop} {Inv2 : Nat → List Value → Nat → List Value → Prop} {RR : Value → Addr → Result → Shared → Prop} (hh : A.handled = none) (hs1 : ∀ env x, foldedSetIterable i1 env x = pure x)
    (W : KTurns prog w A t0 I fp [I] n P Md St) (hself : ∀ (s : Shared) (Q : Value → Shared → Prop) (E : Value → Shared → Prop), St 0 s.heap → Q (.ref I) s → wpAny (model prog w) A (pyIter (.ref I)) Q E s)
    (hIo : ∀ i h, St i h → ∃ o, h.get? I = some o)
    (hSt : ∀ i h h' o, St i h → h.get? I = some o → h'.get? I = some o → (∀ b o, h₀.get? b = some o → h'.get? b = some o) → News h₀ L h' news → St i h')
    (hcell : ∀ y ∈ scope.names, y.2 ≠ .cell) (hkind : scope.kind = .function) (hst : St 0 s₂.heap) (hfp : ∀ b ∈ fp, b < s₂.heap.objs.size)
    (F : Fr h₀ L s₂.heap m) (N : News h₀ L s₂.heap news) (hIL : L ≠ I) (hI₀ : h₀.get? I = none) (off : ∀ p ∈ news, p.1 ≠ I) (hinv : Inv 0 [])
    (h2a : ∀ i ws ys, Inner i ws → Inv i ys → Inv2 i ws 0 ys) (h2b : ∀ i ws ys, Inner i ws → Inv2 i ws ws.length ys → Inv (i + 1) ys) (hlen : ∀ i ws j ys, Inv2 i ws j ys → ys.length ≤ 1000)
    (turn : ∀ i v ys C D oI oC m₂ h tk (E' : Value → Shared → Prop), i < n → P i v h → Inv i ys → NsObj oC m₂ → Fr h₀ L h m → News h₀ L h ((I, oI) :: (C, oC) :: (D, lst ys) :: news) → Off3 I C D news → ((@Ne Nat I C) ∧ (@Ne Nat I D) ∧ (@Ne Nat C D)) →
      wpAny (model prog w) A (assign t0 (compEnvC scope cl C env) v) (fun _ s₃ => wpAny (model prog w) A (eval i1 (compEnvC scope cl C env)) (Src2 h₀ L m news { s₂ with heap := h, toks := tk } I oI C D ys (Inner i)) E' s₃) E' { s₂ with heap := h, toks := tk })
    (turn2 : ∀ i j v ws ys I2 o2 oI C D oC m₂ h tk (E' : Value → Shared → Prop), Inner i ws → ws[j]? = some v → Inv2 i ws j ys → NsObj oC m₂ → Fr h₀ L h m → News h₀ L h ((I2, o2) :: (I, oI) :: (C, oC) :: (D, lst ys) :: news) → Off3 I C D news → ((@Ne Nat I C) ∧ (@Ne Nat I D) ∧ (@Ne Nat C D)) → (@Ne Nat I2 C) →
      wpAny (model prog w) A (assign (.Name x1 p1) (compEnvC scope cl C env) v) (fun _ s₃ => wpAny (model prog w) A (eval elt (compEnvC scope cl C env)) (fun y => CEnd2 h₀ L m news { s₂ with heap := h, toks := tk } I2 o2 I oI C D ys (Inv2 i ws (j + 1) (ys ++ [y]))) E' s₃) E' { s₂ with heap := h, toks := tk })
    (hRR : ∀ D C h tk m' ys, Fr h₀ L h m → News h₀ L h ((D, lst ys) :: news) → h.Ns C m' → h₀.get? C = none → h₀.get? D = none → C ≠ L → D ≠ L → C ≠ D → (∀ p ∈ news, p.1 ≠ C ∧ p.1 ≠ D) → Inv n ys → RR (.ref D) C (.ok .next) { s₂ with heap := h, toks := tk }) :
    wpAny (model prog w) A (newList []) (fun acc s₃ => wpAny (model prog w) A (newFunctionEnv scope env.globals cl [] env.qual none .none (some env)) (fun cenv s₄ =>
      codeAny (model prog w) A (.compStart (comp2 elt t0 i0 x1 p1 i1 scope pos) 0 (.ref I) acc { cenv with scope := relabel scope env }) (RR acc cenv.locals) s₄) E s₃) E s₂ := by
  refine wpAny_newObj_type (wpAny_newFunctionEnv hcell (by intro y hy; simp at hy) (fun h₁ hns₁ hsb₁ => ?_) hkind)
  dsimp only at hns₁ hsb₁ ⊢
  generalize hH2 : s₂.heap.push { cls := .type "list", dict := none, data := .seq ([] : List Value).toArray } = H2 at hns₁ hsb₁ ⊢
  have hC : H2.objs.size = s₂.heap.objs.size + 1 := by rw [← hH2, Heap.size_push]
  have hDC : s₂.heap.objs.size ≠ H2.objs.size := by rw [hC]; exact Nat.ne_of_lt (Nat.lt_succ_self _)
  have below : ∀ b, b < s₂.heap.objs.size → b ≠ H2.objs.size ∧ b ≠ s₂.heap.objs.size := fun b hb => ⟨by rw [hC]; exact Nat.ne_of_lt (Nat.lt_succ_of_lt hb), Nat.ne_of_lt hb⟩
  have hIf : I ∈ fp := W.sub I (List.mem_singleton.mpr rfl)
  have hIlt : I < s₂.heap.objs.size := hfp I hIf
  have old : ∀ b o, s₂.heap.get? b = some o → h₁.get? b = some o := fun b o e => hsb₁.extBut b o (below b (Heap.lt_size e)).1 (Heap.get?_push_of_some _ (hH2 ▸ Heap.get?_push_of_some _ e))
  have hacc : h₁.get? s₂.heap.objs.size = some (lst []) := hsb₁.extBut _ _ hDC (Heap.get?_push_of_some _ (hH2 ▸ Heap.get?_push_size _ rfl))
  have hst₁ : St 0 h₁ := W.frame _ _ _ hst fun b _ o e => old b o e
  have fresh₀ : ∀ a, s₂.heap.objs.size ≤ a → h₀.get? a = none := fun a ha => by
    cases e : h₀.get? a with
    | none => rfl
    | some o' => exact absurd (Heap.lt_size (F.keep a o' e)) (Nat.not_lt.mpr ha)
  have hD₀ : h₀.get? s₂.heap.objs.size = none := fresh₀ _ (Nat.le_refl _)
  have hC₀ : h₀.get? H2.objs.size = none := fresh₀ _ (by rw [hC]; exact Nat.le_succ _)
  have hLlt : L < s₂.heap.objs.size := F.ns.lt
  have hDL : s₂.heap.objs.size ≠ L := Ne.symm (below L hLlt).2
  have hCL : H2.objs.size ≠ L := Ne.symm (below L hLlt).1
  have hCI : I ≠ H2.objs.size := (below I hIlt).1
  have hDI : I ≠ s₂.heap.objs.size := (below I hIlt).2
  have off₀ : Off3 I H2.objs.size s₂.heap.objs.size news := Off3.of fun p hp => ⟨off p hp, (below _ (Heap.lt_size (N p hp).1)).1, (below _ (Heap.lt_size (N p hp).1)).2⟩
  have off3 := off₀.mem
  have loop : ∀ s₃ : Shared, s₃ = { s₂ with heap := h₁, toks := s₂.toks + ([] : List (Str × Value)).length } →
      codeAny (model prog w) A (.compLoop (comp2 elt t0 i0 x1 p1 i1 scope pos) 0 (.ref I) (.ref s₂.heap.objs.size) (compEnvC scope cl H2.objs.size env))
        (RR (.ref s₂.heap.objs.size) H2.objs.size) s₃ := by
    rintro s₃ rfl
    refine loop_out
      (fun k s' => ∃ h' tk i ys m', s' = { s₂ with heap := h', toks := tk } ∧ i ≤ n ∧ k = n + 1 - i ∧ St i h' ∧ Fr h₀ L h' m ∧ h'.Ns H2.objs.size m' ∧ News h₀ L h' ((s₂.heap.objs.size, lst ys) :: news) ∧ Inv i ys) (hs1 _) ?_ (n + 1)
      ⟨h₁, _, 0, [], _, rfl, Nat.zero_le _, rfl, hst₁, F.keeps old, hns₁, fun p hp => ?_, hinv⟩
    · rintro k s' ⟨h', tk, i, ys, m', rfl, hi, rfl, hst', F', hn', N', hI'⟩
      by_cases hlt : i < n
      · refine W.item i _ _ _ hlt hst' fun v h₂ tk₂ hMd hk₂ => ?_
        refine W.go i v _ _ _ hMd fun h₃ hP hst₃ hk₃ => ?_
        have hk : ∀ b o, b ∉ [I] → h'.get? b = some o → h₃.get? b = some o := fun b o hb e => hk₃ b o hb (hk₂ b o hb e)
        have hn₃ : h₃.Ns H2.objs.size m' := hn'.at' fun o e => hk _ o (by simpa using Ne.symm hCI) e
        obtain ⟨oI, heI⟩ := hIo _ _ hst₃
        obtain ⟨oC, heC, hoC⟩ := ns_obj hn₃
        have F₃ : Fr h₀ L h₃ m := fr_but F' hk hIL hI₀
        have N₂ : News h₀ L h₃ ((s₂.heap.objs.size, lst ys) :: news) := news_but N' hk fun p hp => by
          rcases List.mem_cons.mp hp with rfl | hp
          · exact Ne.symm hDI
          · exact (off3 p hp).1
        have N₃ : News h₀ L h₃ ((I, oI) :: (H2.objs.size, oC) :: (s₂.heap.objs.size, lst ys) :: news) := fun p hp => by
          rcases List.mem_cons.mp hp with rfl | hp
          · exact ⟨heI, Ne.symm hIL, hI₀⟩
          · rcases List.mem_cons.mp hp with rfl | hp
            · exact ⟨heC, hCL, hC₀⟩
            · exact N₂ p hp
        refine wpAny_mono (turn i v ys H2.objs.size s₂.heap.objs.size oI oC _ h₃ tk₂ _ hlt hP hI' hoC F₃ N₃ off₀ ⟨hCI, hDI, Ne.symm hDC⟩) (fun _ s₃ q₃ => wpAny_mono q₃ (fun xv s₄ q₄ => ?_) fun _ _ e => e) fun _ _ e => e
        obtain ⟨l, ws, h₄, tk₄, oC₄, m₄, rfl, rfl, hl, F₄, N₄, hC₄, hin⟩ := q₄
        refine inner_loop (s₂ := { s₂ with heap := h₄, toks := tk₄ }) (Inv2 := Inv2 i ws) hh hl F₄ N₄ hC₄ off₀ ⟨hCI, hDI, Ne.symm hDC⟩ (hlen i ws) (h2a i ws ys hin hI') (fun j v ys I2 o2 oC m₂ h tk E' hv hI2 hC2 F2 N2 ne2 => turn2 i j v ws ys I2 o2 oI _ _ oC m₂ h tk E' hin hv hI2 hC2 F2 N2 off₀ ⟨hCI, hDI, Ne.symm hDC⟩ ne2) ?_
        intro ys₅ h₅ tk₅ oC₅ m₅ hI₅ F₅ N₅ hC₅
        have zI := (N₅ (I, oI) List.mem_cons_self).1
        have zC := (N₅ (H2.objs.size, oC₅) (List.mem_cons_of_mem _ List.mem_cons_self)).1
        have N₆ : News h₀ L h₅ ((s₂.heap.objs.size, lst ys₅) :: news) := fun p hp => N₅ p (List.mem_cons_of_mem _ (List.mem_cons_of_mem _ hp))
        exact ⟨n + 1 - (i + 1), by (first | lia | omega), h₅, tk₅, i + 1, ys₅, m₅, rfl, hlt, rfl, hSt _ _ _ _ hst₃ heI zI F₅.keep fun p hp => N₆ p (List.mem_cons_of_mem _ hp), F₅, hC₅.ns zC, N₆, h2b i ws ys₅ hin hI₅⟩
      · obtain rfl : i = n := Nat.le_antisymm hi (Nat.not_lt.mp hlt)
        refine W.done _ _ _ hst' fun h₂ tk₂ hk₂ => ?_
        exact hRR _ _ h₂ tk₂ _ ys (fr_but F' hk₂ hIL hI₀) (news_but N' hk₂ fun p hp => by
          rcases List.mem_cons.mp hp with rfl | hp
          · exact Ne.symm hDI
          · exact (off3 p hp).1) (hn'.at' fun o e => hk₂ _ o (by simpa using Ne.symm hCI) e) hC₀ hD₀ hCL hDL (Ne.symm hDC) (fun p hp => ⟨(off3 p hp).2.1, (off3 p hp).2.2⟩) hI'
    · rcases List.mem_cons.mp hp with rfl | hp
      · exact ⟨hacc, hDL, hD₀⟩
      · exact ⟨old _ _ (N p hp).1, (N p hp).2⟩
  exact start_out (loop _ rfl) (hself _ _ _ hst₁ (loop _ rfl))

/-- a comprehension of two loops: the outer over a list that stands, the inner over lists of the base -/
theorem ListComp2_E {Q : Value → Shared → Prop} {l : Addr} {vs : List Value} {news : List (Addr × Obj)} (Inv : Nat → List Value → Prop) (Inner : Nat → List Value → Prop) (Inv2 : Nat → List Value → Nat → List Value → Prop) (hh : A.handled = none)
    (F : Fr h₀ L s.heap m) (N : News h₀ L s.heap news) (hl : Stands h₀ news (fun h => h.IsList l vs.toArray))
    (hclos : closureFor scope env = pure cl) (hcell : ∀ y ∈ scope.names, y.2 ≠ .cell) (hkind : scope.kind = .function)
    (hnames : ∀ y ∈ scope.names, y.2 = .local → scope.names.lookup y.1 = some .local)
    (hev : ∀ (Q' : Value → Shared → Prop) (E' : Value → Shared → Prop), Q' (.ref l) s → wpAny (model prog w) A (eval i0 env) Q' E' s)
    (hgo : ∀ I i v (s : Shared) (Q : Unit → Shared → Prop) (E : Value → Shared → Prop), s.heap.IsListIter I l i → Q () s → wpAny (model prog w) A (letOwnedTupleGo t0 (.ref I) v) Q E s)
    (hinv : Inv 0 [])
    (h2a : ∀ i ws ys, Inner i ws → Inv i ys → Inv2 i ws 0 ys) (h2b : ∀ i ws ys, Inner i ws → Inv2 i ws ws.length ys → Inv (i + 1) ys) (hlen : ∀ i ws j ys, Inv2 i ws j ys → ys.length ≤ 1000)
    (turn : ∀ I i v ys C D oI oC m₂ h tk (E' : Value → Shared → Prop), vs[i]? = some v → Inv i ys → NsObj oC m₂ → Fr h₀ L h m → News h₀ L h ((I, oI) :: (C, oC) :: (D, lst ys) :: news) → Off3 I C D news → ((@Ne Nat I C) ∧ (@Ne Nat I D) ∧ (@Ne Nat C D)) →
      wpAny (model prog w) A (assign t0 (compEnvC scope cl C env) v) (fun _ s₃ => wpAny (model prog w) A (eval i1 (compEnvC scope cl C env)) (Src2 h₀ L m news s I oI C D ys (Inner i)) E' s₃) E' { s with heap := h, toks := tk })
    (turn2 : ∀ i j v ws ys I I2 o2 oI C D oC m₂ h tk (E' : Value → Shared → Prop), Inner i ws → ws[j]? = some v → Inv2 i ws j ys → NsObj oC m₂ → Fr h₀ L h m → News h₀ L h ((I2, o2) :: (I, oI) :: (C, oC) :: (D, lst ys) :: news) → Off3 I C D news → ((@Ne Nat I C) ∧ (@Ne Nat I D) ∧ (@Ne Nat C D)) → (@Ne Nat I2 C) →
      wpAny (model prog w) A (assign (.Name x1 p1) (compEnvC scope cl C env) v) (fun _ s₃ => wpAny (model prog w) A (eval elt (compEnvC scope cl C env)) (fun y => CEnd2 h₀ L m news { s with heap := h, toks := tk } I2 o2 I oI C D ys (Inv2 i ws (j + 1) (ys ++ [y]))) E' s₃) E' { s with heap := h, toks := tk })
    (fin : ∀ D h tk ys, Inv vs.length ys → Fr h₀ L h m → News h₀ L h ((D, lst ys) :: news) → (∀ p ∈ news, p.1 ≠ D) → Q (.ref D) { s with heap := h, toks := tk })
    (hs : ∀ x, foldedSetIterable i0 env x = pure x := by intro _; rfl) (hs1 : ∀ env x, foldedSetIterable i1 env x = pure x := by intro _ _; rfl) :
    wpAny (model prog w) A (eval (comp2 elt t0 i0 x1 p1 i1 scope pos) env) Q E s := by
  rw [eval_ListComp]
  have hls := hl L _ F.keep N
  obtain ⟨ol, hol, _⟩ := id hls
  have hlt : l < s.heap.objs.size := Heap.lt_size hol
  have W := Walks.list (prog := prog) (w := w) hh s.heap.objs.size l (Nat.ne_of_lt hlt) vs.toArray
  have hz : vs.toArray.size = vs.length := List.size_toArray
  rw [hz] at W
  have up : ∀ b o, s.heap.get? b = some o → (s.heap.push { cls := .type "list_iterator", data := .fields #[.ref l, .int 0 0] }).get? b = some o := fun b o e => Heap.get?_push_of_some _ e
  refine wpAny_comprehension_free (use := none) rfl hs hclos hkind hnames (hev _ _ (wpAny_pyIter_list hls ?_))
  refine comp2_block (Inner := Inner) (Inv2 := Inv2) (P := fun i v _ => vs.toArray[i]? = some v) hh hs1 (KTurns.ofWalks W fun i v s Q E st q => hgo _ i v s Q E st.1 q) (fun s Q E st q => W.self 0 s Q E st q) ?_ ?_ hcell hkind ⟨⟨_, Heap.get?_push_size _ rfl, rfl, rfl⟩, hls.push _⟩ ?_ (F.keeps up) (N.grown up) (Nat.ne_of_lt F.ns.lt) (next_is_new F) (fun p hp => Nat.ne_of_lt (Heap.lt_size (N p hp).1)) hinv h2a h2b hlen ?_ ?_ ?_
  · intro i h st
    obtain ⟨o, e, _⟩ := st.1
    exact ⟨o, e⟩
  · intro i h h' o st e e' k N'
    refine ⟨?_, hl L _ k N'⟩
    obtain ⟨o', q, r⟩ := st.1
    rw [e] at q; cases q
    exact ⟨o, e', r⟩
  · intro b hb
    show b < (s.heap.push _).objs.size
    rw [Heap.size_push]
    rcases List.mem_cons.mp hb with rfl | hb
    · exact Nat.lt_succ_self _
    · rw [List.mem_singleton.mp hb]; exact Nat.lt_succ_of_lt hlt
  · intro i v ys C D oI oC m₂ h tk E' hi hP hI hoC F' N' off ne
    exact turn _ i v ys C D oI oC m₂ h tk E' (by simpa using hP) hI hoC F' N' off ne
  · intro i j v ws ys I2 o2 oI C D oC m₂ h tk E' hin hv hI hoC F' N' off ne ne2
    exact turn2 i j v ws ys _ I2 o2 oI C D oC m₂ h tk E' hin hv hI hoC F' N' off ne ne2
  · intro D C h tk m' ys F' N' hn hC₀ hD₀ hCL hDL hCD offCD hI
    refine ⟨m', hn, fun h'' hs'' => fin D h'' tk ys hI (F'.change hs'' hCL hC₀) (fun p hp => ?_) fun p hp => (offCD p hp).2⟩
    refine ⟨hs''.extBut _ _ ?_ (N' p hp).1, (N' p hp).2⟩
    rcases List.mem_cons.mp hp with rfl | hp
    · exact Ne.symm hCD
    · exact (offCD p hp).1
end
end Mine
end
section
open PySem PySem.W PySem.Calls PyProof.Rows PyProof PyProof.Rows.LCg
set_option Elab.async false
namespace Mine
section
variable {prog : Program} {w : World} {A : Around} {E : Value → Shared → Prop} {s : Shared} {h₀ : Heap} {L I C D : Addr} {oI oC : Obj} {ys : List Value} {m m₂ : Str → Option Value} {news : List (Addr × Obj)} {env : Env} {scope : Scope} {cl : List (Str × Addr)} {Q : Unit → Shared → Prop}
theorem assignC1b {I2 : Addr} {o2 : Obj} {x : Str} {px : Pos} {v : Value} (hx : (compEnvC scope cl C env).kindOf x = some .local) (hkind : scope.kind = .function) (hC : NsObj oC m₂) (F : Fr h₀ L s.heap m) (N : News h₀ L s.heap ((I2, o2) :: (I, oI) :: (C, oC) :: (D, lst ys) :: news))
    (off : Off3 I C D news) (ne : (@Ne Nat I C) ∧ (@Ne Nat I D) ∧ (@Ne Nat C D)) (ne2 : (@Ne Nat I2 C))
    (h : ∀ h' oC' tk', NsObj oC' (fun y => if y = x then some v else m₂ y) → Fr h₀ L h' m → News h₀ L h' ((I2, o2) :: (I, oI) :: (C, oC') :: (D, lst ys) :: news) → Q () { s with heap := h', toks := tk' }) :
    wpAny (model prog w) A (assign (.Name x px) (compEnvC scope cl C env) v) Q E s := by
  have zC := N (C, oC) (List.mem_cons_of_mem _ (List.mem_cons_of_mem _ List.mem_cons_self))
  have z2 := N (I2, o2) List.mem_cons_self
  refine wpAny_assign_Name (wpAny_storeName_local hx (hC.ns zC.1) (fun h₁ hn₁ hs₁ => ?_) (by simp [compEnvC, relabel, hkind]))
  obtain ⟨oC', a, b, c⟩ := setC hn₁ hs₁ F (fun p hp => N p (List.mem_cons_of_mem _ hp)) off ne
  refine h h₁ oC' _ a b fun p hp => ?_
  rcases List.mem_cons.mp hp with rfl | hp
  · exact ⟨hs₁.extBut _ _ ne2 z2.1, z2.2⟩
  · exact c p hp
end
section
variable {M : Model} {A : Around} {E : Value → Shared → Prop} {s : Shared} {h₀ : Heap} {L : Addr} {m mg mb : Str → Option Value} {env : Env} {K : Frag} {p : Program} {loose : List Str} {x : Str} {pos : Pos} {v : Value} {Q : Value → Shared → Prop}
/-- a builtin's name, in any function's scope -/
theorem nameBC (F : Fr h₀ L s.heap m) (X : K.In h₀) (T : TopRead p loose mg mb h₀) (e : nsIn K mainGlobals x = some none) (hv : bootBuiltins x = some v) (hn : x ≠ "__name__") (h : Q v s)
    (hg : env.globals = mainGlobals) (hb : env.builtins = builtinsNs) (hk : env.scope.kind = .function) (hx : env.kindOf x = some .globalImplicit) (hd : (x == ("__debug__" : Str)) = false) : wpAny M A (eval (.Name x pos) env) Q E s :=
  Name_function_global hk hx (loadGlobal_builtin (env := env) (by rw [hg]; exact T.g.keeps F.keep) (mg_none_of X T.g e) (by rw [hb]; exact T.b.keeps F.keep) ((T.builtins x hn).trans hv) h) hd
end
end Mine
end
section
open PySem PySem.W PySem.Calls PyProof.Rows PyProof
set_option Elab.async false
set_option maxRecDepth 100000
set_option maxHeartbeats 1000000
namespace Mine
/-- capitals at the spots -/
noncomputable def capsL (l : List Nat) (ps : List Nat) : List Nat := ps.foldl (fun l p => l.take p ++ [65 + sig p] ++ l.drop (p + 1)) l
theorem capsL_snoc (l ps : List Nat) (p : Nat) : capsL l (ps ++ [p]) = (capsL l ps).take p ++ [65 + sig p] ++ (capsL l ps).drop (p + 1) := by
  unfold capsL; rw [List.foldl_append]; rfl
theorem capsL_len : ∀ (ps l : List Nat), (∀ p ∈ ps, p < l.length) → (capsL l ps).length = l.length
  | [], _, _ => rfl
  | p :: ps, l, h => by
    have e : (l.take p ++ [65 + sig p] ++ l.drop (p + 1)).length = l.length := by
      have := h p (.head _)
      simp only [List.length_append, List.length_take, List.length_cons, List.length_nil, List.length_drop]; (first | lia | omega)
    show (capsL (l.take p ++ [65 + sig p] ++ l.drop (p + 1)) ps).length = _
    rw [capsL_len ps _ fun q hq => by rw [e]; exact h q (.tail _ hq), e]
theorem ints_get {vs : List Value} {ps : List Nat} {i : Nat} {v : Value} (h : IntsAre vs (ps.map fun n : Nat => (n : Int))) (e : vs[i]? = some v) : ∃ n, ps[i]? = some n ∧ ∃ t, v = .int (n : Int) t := by
  have hl := h.length
  obtain ⟨hi, _⟩ := List.getElem?_eq_some_iff.mp e
  rw [hl, List.length_map] at hi
  obtain ⟨t, ht⟩ := h.get i ((ps[i] : Nat) : Int) (by rw [List.getElem?_map, List.getElem?_eq_getElem hi]; rfl)
  rw [ht] at e
  exact ⟨ps[i], List.getElem?_eq_getElem hi, t, (Option.some.inj e).symm⟩
theorem take_snoc {α : Type} {l : List α} {i : Nat} {a : α} (h : l[i]? = some a) : l.take (i + 1) = l.take i ++ [a] := by
  simp [List.take_add_one, h]

theorem text_con (w : World) (mg mb : Str → Option Value) (l : List Nat) (t : Tok) (a : Addr) (vs : List Value) (ps : List Nat) (hvs : IntsAre vs (ps.map fun n : Nat => (n : Int))) (hl : l.length < 400) (hps : ∀ p ∈ ps, p < l.length) :
    Con w mg mb 97 [.str (S l) t, .ref a] 2 (fun h => h.IsList a vs.toArray) (fun tl r => IsStr r (capsL l ps)) := by
  w_on
  w_top on
  k_with_none
  k_with "exec Assign" => ((fail_if_success (with_reducible show wpAny _ _ _ qk _ _)); refine letQ ?_; intro qk ek; walk_at "exec Assign")
  k_with "exec If" => ((fail_if_success (with_reducible show wpAny _ _ _ qk _ _)); refine letQ ?_; intro qk ek; walk_at "exec If")
  k_with "eval Call" => ((fail_if_success (with_reducible show wpAny _ _ _ qk _ _)); refine letQ ?_; intro qk ek; walk_at "eval Call")
  k_with "eval BinOp" => ((fail_if_success (with_reducible show wpAny _ _ _ qk _ _)); refine letQ ?_; intro qk ek; walk_at "eval BinOp")
  k_with "eval Subscript" => ((fail_if_success (with_reducible show wpAny _ _ _ qk _ _)); refine letQ ?_; intro qk ek; walk_at "eval Subscript")
  k_with "isTrue Compare" => ((fail_if_success (with_reducible show wpAny _ _ _ qk _ _)); refine letQ ?_; intro qk ek; walk_at "isTrue Compare")
  k_with "isTrue BoolOp" => ((fail_if_success (with_reducible show wpAny _ _ _ qk _ _)); refine letQ ?_; intro qk ek; walk_at "isTrue BoolOp")
  k_with "callWith" => ((fail_if_success (with_reducible show wpAny _ _ _ qk _ _)); refine letQ ?_; intro qk ek; walk_at "callWith")
  k_with "eval Compare" => ((fail_if_success (with_reducible show wpAny _ _ _ qk _ _)); refine letQ ?_; intro qk ek; walk_at "eval Compare")
  k_with "eval Call Attribute" => ((fail_if_success (with_reducible show wpAny _ _ _ qk _ _)); refine letQ ?_; intro qk ek; walk_at "eval Call Attribute")
  k_with "exec For Name Name cons nil" => refine stop ?_
  k_with "pyIter ref" => refine stop ?_
  k_with "binaryOp Add str str" => (k_here; refine PyProof.Rows.add_str ?_ ?_; rotate_left; (· (simp only [slice_take, slice_drop, Str.length_append, S_len, S_cps, sizeLine_eq, List.length_cons, List.length_nil, List.length_append, List.length_take, List.length_drop]; omega)); intro _ _)
  k_with "call ref" => refine stop ?_
  unfold Con
  k_fill
  intro dp un gd fr s Q E vp lo X T hpre hd hu hret
  k_dflt (refine' enter ?k1 ?k2 ?k6 ?k7 ?k8 ?k9 ?kB ?_ ?c2 ?c3 ?c4 ?c5; (case k1 => assumption); (case k2 => assumption); (case k6 => k_is); (case k7 => k_is); (case k8 => first | exact roomA hd | (show dp < recursionLimit; omega)); (case k9 => first | exact BindsTo.of_eq rfl | exact binds_K (by assumption) rfl (by k_is) rfl rfl rfl); (case c5 => decide); (case kB => exact locs rfl); (case c2 => exact rfl); (case c3 => exact rfl); (case c4 => exact rfl); k_whole; intro L' h' F' N'; (try dsimp only); (show wpAny _ _ _ _ _ _); k_fold)
  k_steps
  refine stopped ?_
  refine For_invV s.heap rfl rfl ?_
  k_steps
  refine stopped ?_
  refine iterListV (fun i m => HasStr m (Str.ofString "plain") (capsL l (ps.take i))) rfl hpre (by k_asm) (by k_asm) (HasStr.of rfl rfl) ?_ ?_
  · intro i v m₁ h tk own hi hv hJ F N
    obtain ⟨tp, hm⟩ := hJ
    obtain ⟨n, hn, tn, rfl⟩ := ints_get hvs hv
    have hp : n < l.length := hps n (List.mem_of_getElem? hn)
    have F := Fr.told F (x := Str.ofString "plain") hm
    have hl1 : (capsL l (ps.take i)).length = l.length := capsL_len _ _ fun q hq => hps q (List.mem_of_mem_take hq)
    have hl2 : (S (capsL l (ps.take i))).length = l.length := by rw [S_len, hl1]
    clear F' N'
    k_steps
    refine stopped ?_
    k_dflt (refine' Con.useS (sign_con _ _ _ _ 65 _ _ ?ua1 ?ua2) ?uk1 ?uk2 ?uk3 ?uk4 ?uk5 ?uk6 ?uk7 ?_; (case ua1 => (first | lia | omega)); (case ua2 => decide); (case uk1 => k_asm); (case uk2 => k_asm); (case uk3 => k_asm); (case uk4 => k_asm); (case uk5 => trivial); (case uk6 => first | exact roomB hd (by decide) | lia | omega | (dsimp only [AR]; omega)); (case uk7 => first | exact roomC hu (by decide) | lia | omega | (dsimp only [AR]; omega)); k_whole)
    intro t9 h9 tk9 F9 N9
    k_steps
    try dsimp only
    refine InvEnd.intro (by k_asm) (by k_asm) (fun p hp => hp) (HasStr.of rfl ?_)
    rw [take_snoc hn, capsL_snoc, slice_take]
    have e : ((n : Int) + 1) = ((n + 1 : Nat) : Int) := by (first | lia | omega)
    rw [e, slice_drop, S_append, S_append]
    rfl
  · intro m₁ h tk hJ F N
    obtain ⟨tp, hm⟩ := hJ
    have F := Fr.told F (x := Str.ofString "plain") hm
    have e : vs.length = ps.length := by rw [hvs.length, List.length_map]
    rw [e, List.take_length] at F
    k_steps
    try dsimp only
    refine hret _ [] _ _ (Fr.keep (by k_asm)) (fun _ h9 => nomatch h9) (IsStr.of rfl)

end Mine
end
section
open PySem PySem.W PySem.Calls PyProof.Rows PyProof
set_option Elab.async false
set_option maxRecDepth 100000
set_option maxHeartbeats 1000000
namespace Mine
theorem item_S {l : List Nat} {i c : Nat} (h : l[i]? = some c) : Txt.item (S l) (i : Int) = ⟨#[c]⟩ := by
  have e : Txt.charAt (S l) (i : Int) = some c := StrLaws.at_nonneg (by (first | lia | omega)) (by simpa [S] using h)
  unfold Txt.item
  rw [e]; rfl
/-- what stands between two texts with one beginning has it too -/
theorem between : ∀ {p a b l : List Nat}, p <+: a → p <+: b → ¬ l < a → ¬ b < l → p <+: l
  | [], _, _, _, _, _, _, _ => List.nil_prefix
  | c :: p, [], _, _, h, _, _, _ => by simp at h
  | c :: p, _ :: _, [], _, _, h, _, _ => by simp at h
  | c :: p, x :: a, y :: b, [], _, _, h3, _ => absurd (List.nil_lt_cons x a) h3
  | c :: p, x :: a, y :: b, d :: l, h1, h2, h3, h4 => by
    obtain ⟨rfl, g1⟩ := List.cons_prefix_cons.mp h1
    obtain ⟨rfl, g2⟩ := List.cons_prefix_cons.mp h2
    rw [List.cons_lt_cons_iff] at h3 h4
    have e : d = c := by
      rcases Nat.lt_trichotomy d c with q | q | q
      · exact absurd (.inl q) h3
      · exact q
      · exact absurd (.inl q) h4
    subst e
    exact List.cons_prefix_cons.mpr ⟨rfl, between g1 g2 (fun q => h3 (.inr ⟨rfl, q⟩)) fun q => h4 (.inr ⟨rfl, q⟩)⟩
theorem prefix_lt : ∀ {a b : List Nat}, a <+: b → a.length < b.length → a < b
  | [], x :: b, _, _ => List.nil_lt_cons x b
  | [], [], _, h => absurd h (Nat.lt_irrefl _)
  | c :: a, [], h, _ => by simp at h
  | c :: a, x :: b, h, hl => by
    obtain ⟨rfl, g⟩ := List.cons_prefix_cons.mp h
    rw [List.cons_lt_cons_iff]
    exact .inr ⟨rfl, prefix_lt g (by simpa using hl)⟩

theorem prefix_con (w : World) (mg mb : Str → Option Value) (a : Addr) (vs : List Value) (ls : List (List Nat)) (hvs : All2 IsStr vs ls) (hne : ls ≠ []) (h3 : ∀ l ∈ ls, l.length < 1000) (h4 : ∀ l ∈ ls, ∀ c ∈ l, c < 128) :
    Con w mg mb 49 [.ref a] 1 (fun h => IsTup h a vs.toArray) (fun tl r => ∃ p, IsStr r p ∧ (∀ l ∈ ls, p <+: l) ∧ ∀ q, (∀ l ∈ ls, q <+: l) → q <+: p) := by
  w_on
  w_top on
  k_with_none
  k_with "exec Assign" => ((fail_if_success (with_reducible show wpAny _ _ _ qk _ _)); refine letQ ?_; intro qk ek; walk_at "exec Assign")
  k_with "exec If" => ((fail_if_success (with_reducible show wpAny _ _ _ qk _ _)); refine letQ ?_; intro qk ek; walk_at "exec If")
  k_with "eval Call" => ((fail_if_success (with_reducible show wpAny _ _ _ qk _ _)); refine letQ ?_; intro qk ek; walk_at "eval Call")
  k_with "eval BinOp" => ((fail_if_success (with_reducible show wpAny _ _ _ qk _ _)); refine letQ ?_; intro qk ek; walk_at "eval BinOp")
  k_with "eval Subscript" => ((fail_if_success (with_reducible show wpAny _ _ _ qk _ _)); refine letQ ?_; intro qk ek; walk_at "eval Subscript")
  k_with "isTrue Compare" => ((fail_if_success (with_reducible show wpAny _ _ _ qk _ _)); refine letQ ?_; intro qk ek; walk_at "isTrue Compare")
  k_with "isTrue BoolOp" => ((fail_if_success (with_reducible show wpAny _ _ _ qk _ _)); refine letQ ?_; intro qk ek; walk_at "isTrue BoolOp")
  k_with "callWith" => ((fail_if_success (with_reducible show wpAny _ _ _ qk _ _)); refine letQ ?_; intro qk ek; walk_at "callWith")
  k_with "eval Compare" => ((fail_if_success (with_reducible show wpAny _ _ _ qk _ _)); refine letQ ?_; intro qk ek; walk_at "eval Compare")
  k_with "eval Call Attribute" => ((fail_if_success (with_reducible show wpAny _ _ _ qk _ _)); refine letQ ?_; intro qk ek; walk_at "eval Call Attribute")
  k_with "call builtin:max" => (k_here; (refine max_strs rfl (IsTup.keeps (by assumption) (Fr.keep (by k_asm))) (by assumption) (by assumption) ?_); intro hi thi9 h9 tk9 hhi hhb9 K9; refine kept_on K9 (by k_asm) (by k_asm) ?_; intro F9 N9; (try k_sweep))
  k_with "call builtin:min" => (k_here; (refine min_strs rfl (IsTup.keeps (by assumption) (Fr.keep (by k_asm))) (by assumption) (by assumption) ?_); intro lo tlo9 h9 tk9 hlo hlb9 K9; refine kept_on K9 (by k_asm) (by k_asm) ?_; intro F9 N9; (try k_sweep))
  k_with "exec For Tuple Call cons nil" => refine stop ?_
  k_with "call type:enumerate" => refine stop ?_
  unfold Con
  k_fill
  intro dp un gd fr s Q E vp lo X T hpre hd hu hret
  k_dflt (refine' enter ?k1 ?k2 ?k6 ?k7 ?k8 ?k9 ?kB ?_ ?c2 ?c3 ?c4 ?c5; (case k1 => assumption); (case k2 => assumption); (case k6 => k_is); (case k7 => k_is); (case k8 => first | exact roomA hd | (show dp < recursionLimit; omega)); (case k9 => first | exact BindsTo.of_eq rfl | exact binds_K (by assumption) rfl (by k_is) rfl rfl rfl); (case c5 => decide); (case kB => exact locs rfl); (case c2 => exact rfl); (case c3 => exact rfl); (case c4 => exact rfl); k_whole; intro L' h' F' N'; (try dsimp only); (show wpAny _ _ _ _ _ _); k_fold)
  k_steps
  refine stopped ?_
  rename (∀ l' ∈ ls, ¬ _ < l') => hmax
  rename (∀ l' ∈ ls, ¬ l' < _) => hmin
  refine For_turns (h₀ := s.heap) (by k_asm) ?_
  k_steps
  refine stopped ?_
  have h128 : (S lo).cps.all (· < 128) = true := by
    have := h4 lo hlo
    simpa [S] using this
  refine enumStr (fun i m => (HasStr m (Str.ofString "s1") lo ∧ HasStr m (Str.ofString "s2") hi) ∧ lo.take i = hi.take i) rfl h128 (by k_asm) (by k_asm) ⟨⟨HasStr.of rfl rfl, HasStr.of rfl rfl⟩, rfl⟩ ?_ ?_
  · rintro i T c t' u' m₁ h tk own hc hT ⟨⟨⟨t1, h1⟩, ⟨t2, h2⟩⟩, hJ⟩ F N
    have hc' : lo[i]? = some c := by simpa using hc
    have hil : i < lo.length := (List.getElem?_eq_some_iff.mp hc').1
    have hlt : i < hi.length := by
      refine Nat.lt_of_not_le fun hge => hmin hi hhi ?_
      have e : hi = lo.take i := by rw [hJ, List.take_of_length_le hge]
      refine prefix_lt (e ▸ List.take_prefix i lo) ?_
      rw [e, List.length_take]; (first | lia | omega)
    have hci : hi[i]? = some hi[i] := List.getElem?_eq_getElem hlt
    have hlt' : ((i : Nat) : Int) < (S hi).length := by rw [S_len]; (first | lia | omega)
    have hle := h3 hi hhi
    have hle' : (S hi).length < 1000 := by rw [S_len]; exact hle
    have hle1 : (S lo).length < 1000 := by rw [S_len]; exact h3 lo hlo
    have F := Fr.told (Fr.told F (x := Str.ofString "s1") h1) (x := Str.ofString "s2") (by exact h2)
    refine assign_pair rfl hT F N rfl rfl rfl ?_
    intro h' tk' F9 N9
    k_steps
    · refine hret _ [] _ _ (Fr.keep (by k_asm)) (fun _ h9 => nomatch h9) ⟨lo.take i, IsStr.of (slice_take _ _), ?_, ?_⟩
      · intro l hl
        exact between (List.take_prefix i lo) (hJ ▸ List.take_prefix i hi) (hmin l hl) (hmax l hl)
      · intro q hq
        have hne' : ((⟨#[c]⟩ : Str) != Txt.item (S hi) (i : Int)) = true := by assumption
        rw [item_S hci] at hne'
        have hq1 := hq lo hlo
        have hq2 := hq hi hhi
        refine List.prefix_of_prefix_length_le hq1 (List.take_prefix i lo) ?_
        refine Nat.le_of_not_lt fun hgt => ?_
        rw [List.length_take, Nat.min_eq_left (Nat.le_of_lt hil)] at hgt
        have e1 : q[i]? = some c := by
          rw [← hc']; exact (List.prefix_iff_getElem?.mp hq1 i hgt).symm ▸ (List.getElem?_eq_getElem hgt)
        have e2 : q[i]? = some hi[i] := by
          rw [← hci]; exact (List.prefix_iff_getElem?.mp hq2 i hgt).symm ▸ (List.getElem?_eq_getElem hgt)
        rw [e1] at e2
        rw [← Option.some.inj e2] at hne'
        simp at hne'
    · refine InvEnd.intro (by k_asm) (by k_asm) (fun p hp => hp) ⟨⟨HasStr.of rfl rfl, HasStr.of rfl rfl⟩, ?_⟩
      have hne' : ((⟨#[c]⟩ : Str) != Txt.item (S hi) (i : Int)) = false := by assumption
      rw [item_S hci] at hne'
      have e : c = hi[i] := by simpa using hne'
      rw [take_snoc hc', take_snoc hci, hJ, e]
  · rintro m₁ h tk ⟨⟨⟨t1, h1⟩, _⟩, hJ⟩ F N
    have F := Fr.told F (x := Str.ofString "s1") h1
    k_steps
    try dsimp only
    have e : (S lo).cps.size = lo.length := by simp
    rw [e, List.take_length] at hJ
    refine hret _ [] _ _ (Fr.keep (by k_asm)) (fun _ h9 => nomatch h9) ⟨lo, IsStr.of rfl, ?_, fun q hq => hq lo hlo⟩
    intro l hl
    exact between (List.prefix_refl lo) (hJ ▸ List.take_prefix _ hi) (hmin l hl) (hmax l hl)

end Mine
end
section
open PySem PySem.W PySem.Calls PyProof.Rows PyProof
set_option Elab.async false
set_option maxRecDepth 100000
set_option maxHeartbeats 4000000
namespace Mine

theorem kind_con (w : World) (mg mb : Str → Option Value) (x y : Str) (t u : Tok) :
    Con w mg mb 35 [.str y u, .str x t] 1 (fun h => True) (fun tl r => IsStr r []) := by
  w_on
  w_top on
  k_with_none
  unfold Con
  k_fill
  intro dp un gd fr s Q E vp lo X T hpre hd hu hret
  k_dflt (refine' enter ?k1 ?k2 ?k6 ?k7 ?k8 ?k9 ?kB ?_ ?c2 ?c3 ?c4 ?c5; (case k1 => assumption); (case k2 => assumption); (case k6 => k_is); (case k7 => k_is); (case k8 => first | exact roomA hd | (show dp < recursionLimit; omega)); (case k9 => first | exact BindsTo.of_eq rfl | exact binds_K (by assumption) rfl (by k_is) rfl rfl rfl); (case c5 => decide); (case kB => exact locs rfl); (case c2 => exact rfl); (case c3 => exact rfl); (case c4 => exact rfl); k_whole; intro L' h' F' N'; (try dsimp only); (show wpAny _ _ _ _ _ _); k_fold)
  k_steps
  all_goals try dsimp only
  all_goals (refine hret _ [] _ _ (Fr.keep (by k_asm)) (fun _ h9 => nomatch h9) (IsStr.of ?_))
  decide +kernel

end Mine
end
section
open PySem PySem.W PySem.Calls PyProof.Rows PyProof
set_option Elab.async false
set_option maxRecDepth 100000
set_option maxHeartbeats 4000000
namespace Mine

theorem fspath_con (w : World) (mg mb : Str → Option Value) (x y : Str) (t u : Tok) :
    Con w mg mb 42 [.str y u, .str x t] 2 (fun h => True) (fun tl r => IsStr r x.cps.toList) := by
  w_on
  w_top on
  k_with_none
  k_with "exec Assign" => ((fail_if_success (with_reducible show wpAny _ _ _ qk _ _)); refine letQ ?_; intro qk ek; walk_at "exec Assign")
  k_with "exec If" => ((fail_if_success (with_reducible show wpAny _ _ _ qk _ _)); refine letQ ?_; intro qk ek; walk_at "exec If")
  k_with "eval Call" => ((fail_if_success (with_reducible show wpAny _ _ _ qk _ _)); refine letQ ?_; intro qk ek; walk_at "eval Call")
  k_with "eval BinOp" => ((fail_if_success (with_reducible show wpAny _ _ _ qk _ _)); refine letQ ?_; intro qk ek; walk_at "eval BinOp")
  k_with "eval Subscript" => ((fail_if_success (with_reducible show wpAny _ _ _ qk _ _)); refine letQ ?_; intro qk ek; walk_at "eval Subscript")
  k_with "isTrue Compare" => ((fail_if_success (with_reducible show wpAny _ _ _ qk _ _)); refine letQ ?_; intro qk ek; walk_at "isTrue Compare")
  k_with "isTrue BoolOp" => ((fail_if_success (with_reducible show wpAny _ _ _ qk _ _)); refine letQ ?_; intro qk ek; walk_at "isTrue BoolOp")
  k_with "callWith" => ((fail_if_success (with_reducible show wpAny _ _ _ qk _ _)); refine letQ ?_; intro qk ek; walk_at "callWith")
  k_with "eval Compare" => ((fail_if_success (with_reducible show wpAny _ _ _ qk _ _)); refine letQ ?_; intro qk ek; walk_at "eval Compare")
  k_with "eval Call Attribute" => ((fail_if_success (with_reducible show wpAny _ _ _ qk _ _)); refine letQ ?_; intro qk ek; walk_at "eval Call Attribute")
  k_with "call ref" => (k_here; k_dflt (apply (Con.useS (kind_con w mg mb _ _ _ _)); (· k_asm); (· k_asm); (· k_asm); (· k_asm); (· trivial); (· first | exact roomB hd (by decide) | lia | omega | (dsimp only [AR]; omega)); (· first | exact roomC hu (by decide) | lia | omega | (dsimp only [AR]; omega)); k_whole; intro t9 h9 tk9 F9 N9; (try k_sweep)))
  unfold Con
  k_fill
  intro dp un gd fr s Q E vp lo X T hpre hd hu hret
  k_dflt (refine' enter ?k1 ?k2 ?k6 ?k7 ?k8 ?k9 ?kB ?_ ?c2 ?c3 ?c4 ?c5; (case k1 => assumption); (case k2 => assumption); (case k6 => k_is); (case k7 => k_is); (case k8 => first | exact roomA hd | (show dp < recursionLimit; omega)); (case k9 => first | exact BindsTo.of_eq rfl | exact binds_K (by assumption) rfl (by k_is) rfl rfl rfl); (case c5 => decide); (case kB => exact locs rfl); (case c2 => exact rfl); (case c3 => exact rfl); (case c4 => exact rfl); k_whole; intro L' h' F' N'; (try dsimp only); (show wpAny _ _ _ _ _ _); k_fold)
  k_steps
  all_goals try dsimp only
  all_goals (refine hret _ [] _ _ (Fr.keep (by k_asm)) (fun _ h9 => nomatch h9) (IsStr.of ?_))
  exact (S_of x).symm

end Mine
end
section
open PySem PySem.W PySem.Calls PyProof.Rows PyProof
set_option Elab.async false
set_option maxRecDepth 100000
set_option maxHeartbeats 1000000
namespace Mine
section
variable {prog : Program} {w : World} {A : Around} {E : Value → Shared → Prop} {s : Shared}
theorem truthy_tup1 {t : Addr} {v : Value} {vs : List Value} {Q : Bool → Shared → Prop} (ht : IsTup s.heap t (v :: vs).toArray) (hl : vs.length < 1000) (h : Q true { s with toks := s.toks + 1 + 1 }) : wpAny (model prog w) A (truthy (.ref t)) Q E s :=
  truthy_tuple ht (by simp only [List.size_toArray, List.length_cons]; (first | lia | omega)) (by simpa using h)
theorem item_tup0 {value : Expr} {pos : Pos} {t : Addr} {v : Value} {vs : List Value} {u : Tok} {Q : Value → Shared → Prop} (ht : IsTup s.heap t (v :: vs).toArray) (h : Q v s) :
    wpAny (model prog w) A (subscriptTail value (.Constant (.int 0) 0 pos) (.ref t) (.int 0 u)) Q E s :=
  item_tupleT (j := 0) ht (by decide) (by decide) (StrLaws.seqIndex_nonneg (by decide) (by simp only [List.length_cons]; (first | lia | omega))) rfl h
end
theorem kit_tup {h : Heap} {a : Addr} {its : Array Value} (x : IsTup h a its) : KitAt a "tuple" h := let ⟨o, e, c, _⟩ := x; ⟨o, e, c⟩

theorem cpre_con (w : World) (mg mb : Str → Option Value) (a : Addr) (vs : List Value) (ls : List (List Nat)) (hvs : All2 IsStr vs ls) (hne : ls ≠ []) (hn : ls.length < 100) (h3 : ∀ l ∈ ls, l.length < 1000) (h4 : ∀ l ∈ ls, ∀ c ∈ l, c < 128) :
    Con w mg mb 54 [.ref a] 4 (fun h => IsTup h a vs.toArray) (fun tl r => ∃ p, IsStr r p ∧ (∀ l ∈ ls, p <+: l) ∧ ∀ q, (∀ l ∈ ls, q <+: l) → q <+: p) := by
  w_on
  w_top on
  k_with_none
  k_with "exec Assign" => ((fail_if_success (with_reducible show wpAny _ _ _ qk _ _)); refine letQ ?_; intro qk ek; walk_at "exec Assign")
  k_with "exec If" => ((fail_if_success (with_reducible show wpAny _ _ _ qk _ _)); refine letQ ?_; intro qk ek; walk_at "exec If")
  k_with "eval Call" => ((fail_if_success (with_reducible show wpAny _ _ _ qk _ _)); refine letQ ?_; intro qk ek; walk_at "eval Call")
  k_with "eval BinOp" => ((fail_if_success (with_reducible show wpAny _ _ _ qk _ _)); refine letQ ?_; intro qk ek; walk_at "eval BinOp")
  k_with "eval Subscript" => ((fail_if_success (with_reducible show wpAny _ _ _ qk _ _)); refine letQ ?_; intro qk ek; walk_at "eval Subscript")
  k_with "isTrue Compare" => ((fail_if_success (with_reducible show wpAny _ _ _ qk _ _)); refine letQ ?_; intro qk ek; walk_at "isTrue Compare")
  k_with "isTrue BoolOp" => ((fail_if_success (with_reducible show wpAny _ _ _ qk _ _)); refine letQ ?_; intro qk ek; walk_at "isTrue BoolOp")
  k_with "callWith" => ((fail_if_success (with_reducible show wpAny _ _ _ qk _ _)); refine letQ ?_; intro qk ek; walk_at "callWith")
  k_with "eval Compare" => ((fail_if_success (with_reducible show wpAny _ _ _ qk _ _)); refine letQ ?_; intro qk ek; walk_at "eval Compare")
  k_with "eval Call Attribute" => ((fail_if_success (with_reducible show wpAny _ _ _ qk _ _)); refine letQ ?_; intro qk ek; walk_at "eval Call Attribute")
  k_with "call ref" => refine stop ?_
  k_with "exec For Name Name cons nil" => refine stop ?_
  k_with "pyIter ref" => refine stop ?_
  k_with "eval ListComp" => refine stop ?_
  k_with "call type:type" => (k_here; (with_reducible show wpAny _ _ (call (Value.type "type") [Value.ref _]) _ _ _); (refine kto_cont (T := "tuple") (kit_tup (IsTup.keeps (by assumption) (Fr.keep (by k_asm)))) (by decide) ?_))
  k_with "truthy ref" => (k_here; refine truthy_tup1 (IsTup.keeps (by assumption) (Fr.keep (by k_asm))) ?_ ?_; (· omega))
  k_with "eval Name" => (k_here; (rename LCg.NsObj _ _ => hC9); (with_reducible show wpAny _ _ (eval (Expr.Name _ _) (compEnvC _ _ _ _)) _ _ _); k_dflt (apply nameC1; (· k_asm); (· k_mem); (· exact hC9); (· rfl); rotate_left; (· rfl); (· rfl); (· decide); k_whole))
  k_with "call type:tuple" => (k_here; k_dflt (apply tupleOf_list; (· k_asm); (· k_asm); (· exact News.isList (by k_asm) (by k_mem)); (· (rw [sizeLine_eq]; omega)); k_whole); intro T9 h9 F9 N9 lt9; (try k_lt lt9); (try k_sweep))
  k_with "call ref" => (k_here; k_dflt (apply (Con.useS (kind_con w mg mb _ _ _ _)); (· k_asm); (· k_asm); (· k_asm); (· k_asm); (· trivial); (· first | exact roomB hd (by decide) | lia | omega | (dsimp only [AR]; omega)); (· first | exact roomC hu (by decide) | lia | omega | (dsimp only [AR]; omega)); k_whole; intro t9 h9 tk9 F9 N9; (try k_sweep)))
  k_with "call ref" => (k_here; k_dflt (apply (Con.useS (fspath_con w mg mb _ _ _ _)); (· k_asm); (· k_asm); (· k_asm); (· k_asm); (· trivial); (· first | exact roomB hd (by decide) | lia | omega | (dsimp only [AR]; omega)); (· first | exact roomC hu (by decide) | lia | omega | (dsimp only [AR]; omega)); k_whole; intro t9 h9 tk9 F9 N9; (try k_sweep)))
  k_with "subscriptTail Name" => (k_here; (with_reducible show wpAny _ _ (subscriptTail _ _ (Value.ref _) (Value.int _ _)) _ _ _); k_dflt (apply item_tup0; (· exact (IsTup.keeps (by assumption) (Fr.keep (by k_asm)))); k_whole))
  unfold Con
  k_fill
  intro dp un gd fr s Q E vp lo X T hpre hd hu hret
  k_dflt (refine' enter ?k1 ?k2 ?k6 ?k7 ?k8 ?k9 ?kB ?_ ?c2 ?c3 ?c4 ?c5; (case k1 => assumption); (case k2 => assumption); (case k6 => k_is); (case k7 => k_is); (case k8 => first | exact roomA hd | (show dp < recursionLimit; omega)); (case k9 => first | exact BindsTo.of_eq rfl | exact binds_K (by assumption) rfl (by k_is) rfl rfl rfl); (case c5 => decide); (case kB => exact locs rfl); (case c2 => exact rfl); (case c3 => exact rfl); (case c4 => exact rfl); k_whole; intro L' h' F' N'; (try dsimp only); (show wpAny _ _ _ _ _ _); k_fold)
  have hvl := hvs.length
  have hvs' := hvs
  cases hvs' with
  | nil => exact absurd rfl hne
  | cons hv hr =>
  rename_i v l vr lr
  obtain ⟨t, rfl⟩ := hv
  simp only [List.length_cons] at hvl hn
  k_steps
  refine stopped ?_
  refine For_invV s.heap rfl rfl ?_
  k_steps
  refine stopped ?_
  refine iterTupV (fun i m => m (Str.ofString "m") = some (.ref a)) rfl hpre (by k_asm) (by k_asm) rfl ?_ ?_
  · intro i v m₁ h tk own hi hv hJ F N
    obtain ⟨l', hl', t', rfl⟩ := hvs.get hv
    k_steps
    refine InvEnd.intro (by k_asm) (by k_asm) (fun p hp => hp) (by exact hJ)
  · intro m₁ h tk hJ F N
    have F := Fr.told F (x := Str.ofString "m") hJ
    k_steps
    refine stopped ?_
    refine ListComp_E (by k_asm) (closureFor_none (by decide)) (by decide) rfl (by decide) ?_
    k_steps
    refine stopped ?_
    refine compAt_tup (fun i ys => All2 IsStr ys ((l :: lr).take i)) rfl (stands_tup hpre) (by rw [sizeLine_eq]; simp only [List.length_cons]; (first | lia | omega)) (by k_asm) (by k_asm) (fun I v s Q E h => wpAny_pure h) .nil (fun i ys h => by rw [h.length, List.length_take]; (first | lia | omega)) ?_ ?_
    · intro I i v h₂ hi hv ys C D oI oC m₂ h tk E' _ hys hC F N off ne
      obtain ⟨l', hl', t', rfl⟩ := hvs.get hv
      refine assignC1 rfl rfl hC F N off ne ?_
      intro h' oC' tk' hC' F' N'
      refine tests_nil ?_
      rw [if_pos rfl]
      clear N F hC
      k_steps
      refine CEnd.intro (by k_asm) (by k_asm) (by assumption) ?_
      rw [take_snoc hl']
      exact hys.snoc (IsStr.of rfl)
    · intro ys h₂ hys D h tk F N off
      have e : (Value.str (S l) t :: vr).length = (l :: lr).length := hvs.length
      rw [e, List.take_length] at hys
      have hyl := hys.length
      simp only [List.length_cons] at hyl
      k_steps
      refine stopped ?_
      k_dflt (refine' Con.useV (prefix_con _ _ _ _ _ _ hys hne h3 h4) ?k1 ?k2 ?k3 ?k4 ?k5 ?k6 ?k7 ?_; (case k1 => k_asm); (case k2 => k_asm); (case k3 => k_asm); (case k4 => k_asm); (case k5 => exact News.isTup (by k_asm) (by k_mem)); (case k6 => first | exact roomB hd (by decide) | (first | lia | omega) | (dsimp only [AR]; (first | lia | omega))); (case k7 => first | exact roomC hu (by decide) | (first | lia | omega) | (dsimp only [AR]; (first | lia | omega))); k_whole)
      intro r tl h' tk' F' N' P'
      exact hret _ [] _ _ (Fr.keep (by k_asm)) (fun _ h9 => nomatch h9) P'

end Mine
end
section
open PySem PySem.W PySem.Calls PyProof.Rows PyProof
set_option Elab.async false
set_option maxRecDepth 100000
set_option maxHeartbeats 4000000
namespace Mine
theorem pairG_of {tl : List (Addr × Obj)} {a : Addr} {t u : Tok} {n : Nat} {x y : Int} {p : Nat × Nat} (h : (a, ({ cls := .type "tuple", data := .seq #[.int x t, .int y u] n } : Obj)) ∈ tl) (hx : x = (p.1 : Int)) (hy : y = (p.2 : Int)) : PairG (inL tl) (.ref a) p := by
  subst hx hy
  exact ⟨t, u, a, _, n, rfl, h, rfl, rfl⟩
theorem runsG_of {tl : List (Addr × Obj)} {a : Addr} {vs : List Value} {n : Nat} {ps ps' : List (Nat × Nat)} (h : (a, W.listOf vs.toArray n) ∈ tl) (hp : All2 (PairG (inL tl)) vs ps) (e : ps = ps') : RunsG (inL tl) (.ref a) ps' := by
  subst e
  exact ⟨vs, ⟨a, _, n, rfl, h, rfl, rfl⟩, hp⟩

theorem runs_con (w : World) (mg mb : Str → Option Value) (size longest shared : Nat) (t u v : Tok) (h1 : size < 1000) (hf1 : longest < 1000) (h3 : shared < 1000) :
    Con w mg mb 104 [.int (size : Int) t, .int (longest : Int) u, .int (shared : Int) v] 1 (fun h => True) (fun tl r => RunsG (inL tl) r (runsL size longest shared)) := by
  w_on
  w_top on
  k_with_none
  k_with "exec Assign" => ((fail_if_success (with_reducible show wpAny _ _ _ qk _ _)); refine letQ ?_; intro qk ek; walk_at "exec Assign")
  k_with "exec If" => ((fail_if_success (with_reducible show wpAny _ _ _ qk _ _)); refine letQ ?_; intro qk ek; walk_at "exec If")
  k_with "eval Call" => ((fail_if_success (with_reducible show wpAny _ _ _ qk _ _)); refine letQ ?_; intro qk ek; walk_at "eval Call")
  k_with "eval BinOp" => ((fail_if_success (with_reducible show wpAny _ _ _ qk _ _)); refine letQ ?_; intro qk ek; walk_at "eval BinOp")
  k_with "eval Subscript" => ((fail_if_success (with_reducible show wpAny _ _ _ qk _ _)); refine letQ ?_; intro qk ek; walk_at "eval Subscript")
  k_with "isTrue Compare" => ((fail_if_success (with_reducible show wpAny _ _ _ qk _ _)); refine letQ ?_; intro qk ek; walk_at "isTrue Compare")
  k_with "isTrue BoolOp" => ((fail_if_success (with_reducible show wpAny _ _ _ qk _ _)); refine letQ ?_; intro qk ek; walk_at "isTrue BoolOp")
  k_with "callWith" => ((fail_if_success (with_reducible show wpAny _ _ _ qk _ _)); refine letQ ?_; intro qk ek; walk_at "callWith")
  k_with "eval Compare" => ((fail_if_success (with_reducible show wpAny _ _ _ qk _ _)); refine letQ ?_; intro qk ek; walk_at "eval Compare")
  k_with "eval Call Attribute" => ((fail_if_success (with_reducible show wpAny _ _ _ qk _ _)); refine letQ ?_; intro qk ek; walk_at "eval Call Attribute")
  k_with "call builtin:list.append" => (dsimp only [List.cons_append, List.nil_append]; walk_at "call builtin:list.append")
  unfold Con
  k_fill
  intro dp un gd fr s Q E vp lo X T hpre hd hu hret
  k_dflt (refine' enter ?k1 ?k2 ?k6 ?k7 ?k8 ?k9 ?kB ?_ ?c2 ?c3 ?c4 ?c5; (case k1 => assumption); (case k2 => assumption); (case k6 => k_is); (case k7 => k_is); (case k8 => first | exact roomA hd | (show dp < recursionLimit; omega)); (case k9 => first | exact BindsTo.of_eq rfl | exact binds_K (by assumption) rfl (by k_is) rfl rfl rfl); (case c5 => decide); (case kB => exact locs rfl); (case c2 => exact rfl); (case c3 => exact rfl); (case c4 => exact rfl); k_whole; intro L' h' F' N'; (try dsimp only); (show wpAny _ _ _ _ _ _); k_fold)
  k_steps
  all_goals try dsimp only
  all_goals (refine hret _ _ _ _ (Fr.keep (by k_asm)) (newIn_of (by k_asm)) ?_)
  · refine runsG_of (vs := []) (by k_mem) .nil ?_
    unfold runsL; rw [if_pos (by (first | lia | omega))]
  · refine runsG_of (vs := [_]) (by k_mem) (.cons (pairG_of (p := (5, longest - 63)) (by k_mem) rfl ?_) .nil) ?_
    · show (longest : Int) - 63 = ((longest - 63 : Nat) : Int); (first | lia | omega)
    · unfold runsL; rw [if_neg (by (first | lia | omega)), if_pos (by (first | lia | omega))]
  · refine runsG_of (vs := [_, _]) (by k_mem) (.cons (pairG_of (p := (5, shared - 5)) (by k_mem) rfl ?_) (.cons (pairG_of (p := (shared + 41, size - 5)) (by k_mem) ?_ ?_) .nil)) ?_
    · show (shared : Int) - 5 = ((shared - 5 : Nat) : Int); (first | lia | omega)
    · show (shared : Int) + 41 = ((shared + 41 : Nat) : Int); (first | lia | omega)
    · show (size : Int) - 5 = ((size - 5 : Nat) : Int); (first | lia | omega)
    · unfold runsL; rw [if_neg (by (first | lia | omega)), if_neg (by (first | lia | omega)), if_pos (by (first | lia | omega)), if_pos (by (first | lia | omega))]; rfl
  · refine runsG_of (vs := [_]) (by k_mem) (.cons (pairG_of (p := (5, shared - 5)) (by k_mem) rfl ?_) .nil) ?_
    · show (shared : Int) - 5 = ((shared - 5 : Nat) : Int); (first | lia | omega)
    · unfold runsL; rw [if_neg (by (first | lia | omega)), if_neg (by (first | lia | omega)), if_pos (by (first | lia | omega)), if_neg (by (first | lia | omega))]; rfl
  · refine runsG_of (vs := [_]) (by k_mem) (.cons (pairG_of (p := (shared + 41, size - 5)) (by k_mem) ?_ ?_) .nil) ?_
    · show (shared : Int) + 41 = ((shared + 41 : Nat) : Int); (first | lia | omega)
    · show (size : Int) - 5 = ((size - 5 : Nat) : Int); (first | lia | omega)
    · unfold runsL; rw [if_neg (by (first | lia | omega)), if_neg (by (first | lia | omega)), if_neg (by (first | lia | omega)), if_pos (by (first | lia | omega))]; rfl
  · refine runsG_of (vs := []) (by k_mem) .nil ?_
    unfold runsL; rw [if_neg (by (first | lia | omega)), if_neg (by (first | lia | omega)), if_neg (by (first | lia | omega)), if_neg (by (first | lia | omega))]; rfl

end Mine
end
section
open PySem PySem.W PySem.Calls PyProof.Rows PyProof
set_option Elab.async false
set_option maxRecDepth 100000
set_option maxHeartbeats 1000000
namespace Mine
noncomputable def okP (p1 p2 : List Nat) (rs : List (Nat × Nat)) (p : Nat) : Prop := (p ∈ p1 ↔ p ∈ p2) ∨ ∃ r ∈ rs, r.1 ≤ p + 1 ∧ p + 1 < r.2
noncomputable def alikeP (one other : Nat × List Nat) (rs : List (Nat × Nat)) : Prop := one.1 = other.1 ∧ ∀ p ∈ one.2 ++ other.2, okP one.2 other.2 rs p
theorem any_mem {p : List Nat} {n : Nat} : ((p.map fun n : Nat => (n : Int)).any fun x => x == (n : Int)) = true ↔ n ∈ p := by
  simp only [List.any_map, List.any_eq_true, Function.comp, beq_iff_eq]
  constructor
  · rintro ⟨x, hx, e⟩
    have : x = n := by (first | lia | omega)
    exact this ▸ hx
  · exact fun h => ⟨n, h, rfl⟩
theorem any_ne {p1 p2 : List Nat} {n : Nat} (h : (((p1.map fun n : Nat => (n : Int)).any fun x => x == (n : Int)) != ((p2.map fun n : Nat => (n : Int)).any fun x => x == (n : Int))) = true) : ¬ (n ∈ p1 ↔ n ∈ p2) := by
  rw [← any_mem, ← any_mem]
  intro e
  have := Bool.eq_iff_iff.mpr e
  rw [this] at h
  simp at h
theorem any_eq {p1 p2 : List Nat} {n : Nat} (h : (((p1.map fun n : Nat => (n : Int)).any fun x => x == (n : Int)) != ((p2.map fun n : Nat => (n : Int)).any fun x => x == (n : Int))) = false) : (n ∈ p1 ↔ n ∈ p2) := by
  rw [← any_mem, ← any_mem]
  have : ((p1.map fun n : Nat => (n : Int)).any fun x => x == (n : Int)) = ((p2.map fun n : Nat => (n : Int)).any fun x => x == (n : Int)) := by simpa using h
  rw [this]
theorem all_snoc {α : Type} {P : α → Prop} {l : List α} {q : α} (h : ∀ r ∈ l, P r) (k : P q) : ∀ r ∈ l ++ [q], P r := by
  intro r hr
  rcases List.mem_append.mp hr with hr | hr
  · exact h r hr
  · rw [List.mem_singleton.mp hr]; exact k
theorem snoc_iff {α : Type} {P : α → Prop} {l : List α} {q : α} (h : ¬ P q) : (∀ r ∈ l, ¬ P r) ↔ ∀ r ∈ l ++ [q], ¬ P r := by
  constructor
  · intro e r hr
    rcases List.mem_append.mp hr with hr | hr
    · exact e r hr
    · rw [List.mem_singleton.mp hr]; exact h
  · exact fun e r hr => e r (List.mem_append_left _ hr)
theorem mem_swap2 {α : Type} {x y p : α} {own : List α} (h : p ∈ x :: y :: own) : p ∈ own ++ [x, y] := by
  simp only [List.mem_append, List.mem_cons, List.not_mem_nil, or_false] at h ⊢
  rcases h with h | h | h
  · exact .inr (.inl h)
  · exact .inr (.inr h)
  · exact .inl h
theorem mem_swap2' {α : Type} {x y p : α} {own : List α} (h : p ∈ own ++ [x, y]) : p ∈ x :: y :: own := by
  simp only [List.mem_append, List.mem_cons, List.not_mem_nil, or_false] at h ⊢
  rcases h with h | h | h
  · exact .inr (.inr h)
  · exact .inl h
  · exact .inr (.inl h)

theorem alike_con (w : World) (mg mb : Str → Option Value) (a b c l1 l2 : Addr) (n1 n2 : Nat) (t1 t2 : Tok) (vs1 vs2 vr : List Value) (p1 p2 : List Nat) (rs : List (Nat × Nat)) (h1 : IntsAre vs1 (p1.map fun n : Nat => (n : Int))) (h2 : IntsAre vs2 (p2.map fun n : Nat => (n : Int))) (hp1 : p1.length ≤ 4) (hp2 : p2.length ≤ 4) (hrl : rs.length ≤ 4) :
    Con w mg mb 109 [.ref a, .ref b, .ref c] 1 (fun h => IsTup h a [.int (n1 : Int) t1, .ref l1].toArray ∧ IsTup h b [.int (n2 : Int) t2, .ref l2].toArray ∧ h.IsList l1 vs1.toArray ∧ h.IsList l2 vs2.toArray ∧ h.IsList c vr.toArray ∧ All2 (PairG (inH h)) vr rs) (fun tl r => IsBool r (alikeP (n1, p1) (n2, p2) rs)) := by
  w_on
  w_top on
  k_with_none
  k_with "exec Assign" => ((fail_if_success (with_reducible show wpAny _ _ _ qk _ _)); refine letQ ?_; intro qk ek; walk_at "exec Assign")
  k_with "exec If" => ((fail_if_success (with_reducible show wpAny _ _ _ qk _ _)); refine letQ ?_; intro qk ek; walk_at "exec If")
  k_with "eval Call" => ((fail_if_success (with_reducible show wpAny _ _ _ qk _ _)); refine letQ ?_; intro qk ek; walk_at "eval Call")
  k_with "eval BinOp" => ((fail_if_success (with_reducible show wpAny _ _ _ qk _ _)); refine letQ ?_; intro qk ek; walk_at "eval BinOp")
  k_with "eval Subscript" => ((fail_if_success (with_reducible show wpAny _ _ _ qk _ _)); refine letQ ?_; intro qk ek; walk_at "eval Subscript")
  k_with "isTrue Compare" => ((fail_if_success (with_reducible show wpAny _ _ _ qk _ _)); refine letQ ?_; intro qk ek; walk_at "isTrue Compare")
  k_with "isTrue BoolOp" => ((fail_if_success (with_reducible show wpAny _ _ _ qk _ _)); refine letQ ?_; intro qk ek; walk_at "isTrue BoolOp")
  k_with "callWith" => ((fail_if_success (with_reducible show wpAny _ _ _ qk _ _)); refine letQ ?_; intro qk ek; walk_at "callWith")
  k_with "eval Compare" => ((fail_if_success (with_reducible show wpAny _ _ _ qk _ _)); refine letQ ?_; intro qk ek; walk_at "eval Compare")
  k_with "eval Call Attribute" => ((fail_if_success (with_reducible show wpAny _ _ _ qk _ _)); refine letQ ?_; intro qk ek; walk_at "eval Call Attribute")
  k_with "exec For Name BinOp cons nil" => refine stop ?_
  k_with "pyIter ref" => refine stop ?_
  k_with "eval ListComp" => refine stop ?_
  k_with "eval Name" => (k_here; (with_reducible show wpAny _ _ (eval (Expr.Name _ _) (compEnvC _ _ _ _)) _ _ _); k_dflt (apply nameCC1; (· k_asm); (· rfl); (· k_mem); (· k_asm); rotate_left; (· rfl); (· rfl); (· decide); k_whole))
  k_with "eval Name" => (k_here; (rename LCg.NsObj _ _ => hC9); (with_reducible show wpAny _ _ (eval (Expr.Name _ _) (compEnvC _ _ _ _)) _ _ _); k_dflt (apply nameC1; (· k_asm); (· k_mem); (· exact hC9); (· rfl); rotate_left; (· rfl); (· rfl); (· decide); k_whole))
  k_with "compareOp Eq ref ref" => (k_here; (apply eq_nil; (· exact News.isList (by k_asm) (by k_mem)); (· exact News.isList (by k_asm) (by k_mem)); (· first | omega | (dsimp only [AR, Around.deeper]; omega)); k_whole); intro b9 hb9)
  k_with "subscriptTail Name" => (k_here; (with_reducible show wpAny _ _ (subscriptTail _ _ (Value.ref _) (Value.int _ _)) _ _ _); k_dflt (apply item_tupleT1; (· exact (IsTup.keeps (by assumption) (Fr.keep (by k_asm)))); (· decide); (· decide); (· rfl); (· rfl); rotate_left; (· with_unfolding_all rfl); k_whole))
  unfold Con
  k_fill
  intro dp un gd fr s Q E vp lo X T hpre hd hu hret
  k_dflt (refine' enterC ?k1 ?k2 ?k6 ?k7 ?k8 ?k9 ?kB ?kD ?_ ?c2 ?c3 ?c4; (case k1 => assumption); (case k2 => assumption); (case k6 => k_is); (case k7 => k_is); (case k8 => first | exact roomA hd | (show dp < recursionLimit; omega)); (case k9 => first | exact BindsTo.of_eq rfl | exact binds_K (by assumption) rfl (by k_is) rfl rfl rfl); (case kB => exact rfl); (case kD => decide +kernel); (case c2 => exact rfl); (case c3 => exact rfl); (case c4 => exact rfl); k_whole; intro L' h' tk' cells' F' N' Y'; k_cells Y'; (try simp only [List.cons_append, List.nil_append] at N'); (try dsimp only); (show wpAny _ _ _ _ _ _); k_fold)
  obtain ⟨ha, hb, hl1, hl2, hc, hr⟩ := hpre
  try k_fold
  k_steps
  · refine hret _ [] _ _ (Fr.keep (by k_asm)) (fun _ h9 => nomatch h9) (IsBool.no fun h => ?_)
    have h9 : (n1 : Int) ≠ (n2 : Int) := by assumption
    exact h9 (congrArg (fun x : Nat => (x : Int)) h.1)
  · refine stopped ?_
    refine For_turns (h₀ := s.heap) (by k_asm) ?_
    try k_fold
    k_steps
    refine stopped ?_
    rename_i D ws hh F9 N9 hI9 lt9
    rename Obj => o'
    rename (o'.data = Data.cell _) => d1'
    have N10 : News s.heap L' hh [(L' + 1, o'), (D, W.listOf ws.toArray 0)] := fun p hp => N9 p (by rcases List.mem_cons.mp hp with rfl | hp; exact List.mem_cons_of_mem _ List.mem_cons_self; rw [List.mem_singleton.mp hp]; exact List.mem_cons_self)
    have hI : IntsAre ws ((p1 ++ p2).map fun n : Nat => (n : Int)) := by rw [List.map_append]; exact hI9
    refine iterListCell (fun i m => m = _ ∧ ∀ p ∈ (p1 ++ p2).take i, okP p1 p2 rs p) rfl rfl rfl rfl List.mem_cons_self rfl rfl (fun p hp => by rw [List.mem_singleton.mp hp]; exact Ne.symm (Nat.ne_of_lt lt9)) F9 N10 d1' ⟨rfl, fun p hp => by simp at hp⟩ ?_ ?_
    · rintro i v m₁ oc h tk own hi hv ⟨rfl, hJ⟩ hoc F N hown
      obtain ⟨n, hn, tn, rfl⟩ := ints_get hI hv
      have N2 : News s.heap L' h ((L' + 1, oc) :: (D, W.listOf ws.toArray 0) :: own) := fun p hp => N p (mem_swap2 hp)
      clear N N9 N10 F9
      try k_fold
      k_steps
      · refine stopped ?_
        refine ListComp_E (cl := [(Str.ofString "place", L' + 1)]) (by k_asm) rfl (by decide) rfl (by decide) ?_
        try k_fold
        k_steps
        refine stopped ?_
        have hvl := hr.length
        refine compAt_list (fun i ys => ys.length ≤ i ∧ (ys = [] ↔ ∀ r ∈ rs.take i, ¬ (r.1 ≤ n + 1 ∧ n + 1 < r.2))) rfl (stands_list hc) (by rw [sizeLine_eq]; (first | lia | omega)) (by k_asm) (by k_asm) (fun I i v s Q E hit h => goList hit h) ⟨Nat.le_refl _, by simp⟩ (fun i ys h => h.1) ?_ ?_
        · intro I j v h₂ hj hvj ys C D2 oI oC m₂ h' tk' E' _ hys hC F' N' off ne
          obtain ⟨q, hq, tq, uq, hP⟩ := hr.get hvj
          obtain ⟨T, rfl, hT⟩ := TupG.isTup hP
          refine assignC2 rfl (IsTup.keeps hT F'.keep) rfl rfl rfl hC F' N' off ne ?_
          intro h3 oC3 tk3 hC3 F3 N3
          refine tests_one ?_
          clear N' F' hC F N2
          try k_fold
          k_steps
          all_goals (refine CEnd.intro (by k_asm) (by k_asm) (by assumption) ⟨by first | (first | lia | omega) | (rw [List.length_append, List.length_singleton]; (first | lia | omega)), ?_⟩; rw [take_snoc hq])
          · constructor
            · intro e; simp at e
            · intro e
              exact absurd ⟨by (first | lia | omega), by (first | lia | omega)⟩ (e q (by simp))
          · rw [hys.2]
            exact snoc_iff fun e => by (first | lia | omega)
          · rw [hys.2]
            exact snoc_iff fun e => by (first | lia | omega)
        · intro ys h₂ hys D3 h3 tk3 F3 N3 off3
          clear N2 F
          rw [hvl, List.take_length] at hys
          try k_fold
          k_steps
          · refine hret _ [] _ _ (Fr.keep (by k_asm)) (fun _ h9 => nomatch h9) (IsBool.no ?_)
            rename (_ = true ↔ ys = []) => hb9
            rename (_ = true) => hb8
            have h9 : (((p1.map fun n : Nat => (n : Int)).any fun x => x == (n : Int)) != ((p2.map fun n : Nat => (n : Int)).any fun x => x == (n : Int))) = true := by assumption
            rintro ⟨_, h⟩
            rcases h n (List.mem_of_getElem? hn) with e | ⟨r, hr1, hr2⟩
            · exact any_ne h9 e
            · exact hys.2.mp (hb9.mp hb8) r hr1 hr2
          · refine InvEnd.intro (by k_asm) (by k_asm) ?_ ⟨rfl, ?_⟩
            · exact fun p hp => List.mem_cons_of_mem _ (List.mem_cons_of_mem _ (mem_swap2' hp))
            · rename (_ = true ↔ ys = []) => hb9
              rename (_ = false) => hb8
              rw [take_snoc hn]
              refine all_snoc hJ (.inr ?_)
              refine Classical.byContradiction fun hno => ?_
              have : ys = [] := hys.2.mpr fun r hr1 hr2 => hno ⟨r, hr1, hr2⟩
              have := hb9.mpr this
              rw [hb8] at this
              cases this
      · refine InvEnd.intro (by k_asm) (by k_asm) ?_ ⟨rfl, ?_⟩
        · exact fun p hp => mem_swap2' hp
        · have h9 : (((p1.map fun n : Nat => (n : Int)).any fun x => x == (n : Int)) != ((p2.map fun n : Nat => (n : Int)).any fun x => x == (n : Int))) = false := by assumption
          rw [take_snoc hn]
          exact all_snoc hJ (.inl (any_eq h9))
    · rintro m₁ o9 v9 h9 tk9 ⟨rfl, hJ⟩ hd9 F N
      have e : ws.length = (p1 ++ p2).length := by rw [hI.length, List.length_map]
      rw [e, List.take_length] at hJ
      clear F9 N9 N10
      try k_fold
      k_steps
      try dsimp only
      have e1 : (n1 : Int) = (n2 : Int) := by assumption
      exact hret _ [] _ _ (Fr.keep (by k_asm)) (fun _ h9 => nomatch h9) (IsBool.yes ⟨by show n1 = n2; (first | lia | omega), hJ⟩)

end Mine
end
section
open PySem PySem.W PySem.Calls PyProof.Rows PyProof
set_option Elab.async false
set_option maxRecDepth 100000
set_option maxHeartbeats 1000000
namespace Mine
theorem isList_keeps {h h' : Heap} {a : Addr} {its : Array Value} (x : h.IsList a its) (k : ∀ b o, h.get? b = some o → h'.get? b = some o) : h'.IsList a its := let ⟨o, e, r⟩ := x; ⟨o, k _ _ e, r⟩
theorem item_list0 {prog : Program} {w : World} {A : Around} {E : Value → Shared → Prop} {s : Shared} {value : Expr} {pos : Pos} {t : Addr} {v : Value} {vs : List Value} {u : Tok} {Q : Value → Shared → Prop} (ht : s.heap.IsList t (v :: vs).toArray) (h : Q v s) :
    wpAny (model prog w) A (subscriptTail value (.Constant (.int 0) 0 pos) (.ref t) (.int 0 u)) Q E s :=
  tail_any ht.typeIs slot_list_getitem.lookup (wpAny_getItem_list ht (by decide) (by decide) (by simp) h) (by with_unfolding_all rfl)
noncomputable def endsL (size : Nat) (K : List (Nat × List Nat)) : List Nat := (K.filter fun q => q.1 != size).map fun q => min q.1 size + 1
theorem ends_snoc {size : Nat} {K : List (Nat × List Nat)} {j : Nat} {q : Nat × List Nat} (hq : K[j]? = some q) : endsL size (K.take (j + 1)) = endsL size (K.take j) ++ (if q.1 = size then [] else [min q.1 size + 1]) := by
  rw [List.take_add_one, hq]
  unfold endsL
  rw [List.filter_append, List.map_append]
  congr 1
  by_cases h : q.1 = size <;> simp [h]
theorem ends_len (size : Nat) (K : List (Nat × List Nat)) : (endsL size K).length ≤ K.length := by unfold endsL; rw [List.length_map]; exact List.length_filter_le _ _
theorem ints_of {vs : List Value} {ns : List Int} (h : All2 IsInt vs ns) : IntsAre vs ns := by
  induction h with
  | nil => exact .nil
  | cons h _ ih => obtain ⟨t, rfl⟩ := h; exact .cons _ t ih
noncomputable def spotsL (K : List (Nat × List Nat)) : List Nat := K.flatMap fun q => q.2.map (· + 1)
theorem spots_snoc {K : List (Nat × List Nat)} {j : Nat} {q : Nat × List Nat} (hq : K[j]? = some q) : spotsL (K.take (j + 1)) = spotsL (K.take j) ++ q.2.map (· + 1) := by
  rw [List.take_add_one, hq]
  unfold spotsL
  rw [List.flatMap_append]
  simp
theorem spots_len (K : List (Nat × List Nat)) (h : ∀ q ∈ K, q.2.length ≤ 4) : (spotsL K).length ≤ 4 * K.length := by
  induction K with
  | nil => exact Nat.le_refl _
  | cons q K ih =>
    have := ih fun q hq => h q (List.mem_cons_of_mem _ hq)
    have h1 := h q List.mem_cons_self
    unfold spotsL at this ⊢
    rw [List.flatMap_cons, List.length_append, List.length_map, List.length_cons]
    (first | lia | omega)

theorem shared_con (w : World) (mg mb : Str → Option Value) (k : Addr) (vs : List Value) (size : Nat) (sp : List Nat) (ks : List (Nat × List Nat)) (hk : ks.length ≤ 8) (hsp : ∀ q ∈ (size, sp) :: ks, q.2.length ≤ 4) (hne : endsL size ((size, sp) :: ks) ++ spotsL ((size, sp) :: ks) ≠ []) :
    Con w mg mb 114 [.ref k] 1 (fun h => h.IsList k vs.toArray ∧ All2 (KindG (inH h)) vs ((size, sp) :: ks)) (fun tl r => ∃ x : Nat, IsInt r (x : Int) ∧ x ∈ endsL size ((size, sp) :: ks) ++ spotsL ((size, sp) :: ks) ∧ ∀ y ∈ endsL size ((size, sp) :: ks) ++ spotsL ((size, sp) :: ks), x ≤ y) := by
  w_on
  w_top on
  k_with_none
  k_with "exec Assign" => ((fail_if_success (with_reducible show wpAny _ _ _ qk _ _)); refine letQ ?_; intro qk ek; walk_at "exec Assign")
  k_with "exec If" => ((fail_if_success (with_reducible show wpAny _ _ _ qk _ _)); refine letQ ?_; intro qk ek; walk_at "exec If")
  k_with "eval Call" => ((fail_if_success (with_reducible show wpAny _ _ _ qk _ _)); refine letQ ?_; intro qk ek; walk_at "eval Call")
  k_with "eval BinOp" => ((fail_if_success (with_reducible show wpAny _ _ _ qk _ _)); refine letQ ?_; intro qk ek; walk_at "eval BinOp")
  k_with "eval Subscript" => ((fail_if_success (with_reducible show wpAny _ _ _ qk _ _)); refine letQ ?_; intro qk ek; walk_at "eval Subscript")
  k_with "isTrue Compare" => ((fail_if_success (with_reducible show wpAny _ _ _ qk _ _)); refine letQ ?_; intro qk ek; walk_at "isTrue Compare")
  k_with "isTrue BoolOp" => ((fail_if_success (with_reducible show wpAny _ _ _ qk _ _)); refine letQ ?_; intro qk ek; walk_at "isTrue BoolOp")
  k_with "callWith" => ((fail_if_success (with_reducible show wpAny _ _ _ qk _ _)); refine letQ ?_; intro qk ek; walk_at "callWith")
  k_with "eval Compare" => ((fail_if_success (with_reducible show wpAny _ _ _ qk _ _)); refine letQ ?_; intro qk ek; walk_at "eval Compare")
  k_with "eval Call Attribute" => ((fail_if_success (with_reducible show wpAny _ _ _ qk _ _)); refine letQ ?_; intro qk ek; walk_at "eval Call Attribute")
  k_with "exec Assign cons ListComp" => refine stop ?_
  k_with "pyIter ref" => refine stop ?_
  k_with "binaryOp Add ref ref" => refine stop ?_
  k_with "call builtin:min" => (k_here; (with_reducible show wpAny _ _ (call _ [Value.ref _]) _ _ _); refine stop ?_)
  k_with "eval ListComp" => refine stop ?_
  k_with "subscriptTail Name" => (k_here; (with_reducible show wpAny _ _ (subscriptTail _ _ (Value.ref _) (Value.int _ _)) _ _ _); k_dflt (apply item_list0; (· exact (isList_keeps (by assumption) (Fr.keep (by k_asm)))); k_whole))
  k_with "eval Name" => (k_here; (with_reducible show wpAny _ _ (eval (Expr.Name _ _) (compEnvC _ _ _ _)) _ _ _); k_dflt (apply nameBC; (· k_asm); (· k_asm); (· k_asm); (· k_is); (· boot_by_name); (· decide); rotate_left; (· rfl); (· rfl); (· rfl); (· rfl); (· decide); k_whole))
  k_with "eval Name" => (k_here; (with_reducible show wpAny _ _ (eval (Expr.Name _ _) (compEnvC _ _ _ _)) _ _ _); k_dflt (apply nameG_K; (· k_asm); (· k_asm); (· k_asm); (· k_is); rotate_left; (· rfl); (· rfl); (· rfl); (· decide); k_whole))
  k_with "eval Name" => (k_here; (with_reducible show wpAny _ _ (eval (Expr.Name _ _) (compEnvC _ _ _ _)) _ _ _); k_dflt (apply nameCC1; (· k_asm); (· rfl); (· k_mem); (· k_asm); rotate_left; (· rfl); (· rfl); (· decide); k_whole))
  k_with "eval Name" => (k_here; (rename LCg.NsObj _ _ => hC9); (with_reducible show wpAny _ _ (eval (Expr.Name _ _) (compEnvC _ _ _ _)) _ _ _); k_dflt (apply nameC1; (· k_asm); (· k_mem); (· exact hC9); (· rfl); rotate_left; (· rfl); (· rfl); (· decide); k_whole))
  k_with "subscriptTail Subscript" => (k_here; (with_reducible show wpAny _ _ (subscriptTail _ _ (Value.ref _) (Value.int _ _)) _ _ _); k_dflt (apply item_tupleT1; (· exact (IsTup.keeps (by assumption) (Fr.keep (by k_asm)))); (· decide); (· decide); (· rfl); (· rfl); rotate_left; (· with_unfolding_all rfl); k_whole))
  unfold Con
  k_fill
  intro dp un gd fr s Q E vp lo X T hpre hd hu hret
  k_dflt (refine' enterC ?k1 ?k2 ?k6 ?k7 ?k8 ?k9 ?kB ?kD ?_ ?c2 ?c3 ?c4; (case k1 => assumption); (case k2 => assumption); (case k6 => k_is); (case k7 => k_is); (case k8 => first | exact roomA hd | (show dp < recursionLimit; omega)); (case k9 => first | exact BindsTo.of_eq rfl | exact binds_K (by assumption) rfl (by k_is) rfl rfl rfl); (case kB => exact rfl); (case kD => decide +kernel); (case c2 => exact rfl); (case c3 => exact rfl); (case c4 => exact rfl); k_whole; intro L' h' tk' cells' F' N' Y'; k_cells Y'; (try simp only [List.cons_append, List.nil_append] at N'); (try dsimp only); (show wpAny _ _ _ _ _ _); k_fold)
  obtain ⟨hl, hvs⟩ := hpre
  have hvs' := hvs
  cases hvs' with
  | @cons v0 _ vs0 _ hv hr =>
  obtain ⟨t0, sv, hv0, hsv⟩ := hv
  obtain ⟨a0, rfl, hT0⟩ := TupG.isTup hv0
  have hlen := hvs.length
  simp only [List.length_cons] at hlen
  k_steps
  refine stopped ?_
  refine ListComp_A (cl := [(Str.ofString "size", L' + 1)]) (by k_asm) rfl rfl (by decide) rfl (by decide) rfl rfl ?_
  k_steps
  refine stopped ?_
  refine compAt_list (fun i ys => All2 IsInt ys ((endsL size (((size, sp) :: ks).take i)).map fun n : Nat => (n : Int))) rfl (stands_list hl) (by rw [sizeLine_eq]; simp only [List.length_cons]; (first | lia | omega)) (by k_asm) (by k_asm) (fun I i v s Q E hit h => goList hit h) .nil (fun i ys h => ?_) ?_ ?_
  · have := h.length; have e := ends_len size (((size, sp) :: ks).take i); rw [List.length_map] at this; rw [List.length_take] at e; show ys.length ≤ i; (first | lia | omega)
  · intro I j v h₂ hj hvj ys C D2 oI oC m₂ h' tk' E' _ hys hC F' N' off ne
    obtain ⟨q, hq, tq, svq, hP, hS⟩ := hvs.get hvj
    obtain ⟨T, rfl, hT⟩ := TupG.isTup hP
    refine assignC2 rfl (IsTup.keeps hT F'.keep) rfl rfl rfl hC F' N' off ne ?_
    intro h3 oC3 tk3 hC3 F3 N3
    refine tests_one ?_
    clear N' F' hC
    k_steps
    · refine CEnd.intro (by k_asm) (by k_asm) (by assumption) ?_
      show All2 IsInt (ys ++ [Value.int _ _]) (((endsL size (((size, sp) :: ks).take (j + 1)))).map fun n : Nat => (n : Int))
      rw [ends_snoc hq]
      rename ¬ ((q.fst : Int) = _) => e9
      rw [if_neg (fun e => e9 (congrArg Nat.cast e)), List.map_append]
      refine hys.snoc (IsInt.of ?_)
      show (if (size : Int) < (q.fst : Int) then (size : Int) else (q.fst : Int)) + 1 = ((min q.fst size + 1 : Nat) : Int)
      split <;> (first | lia | omega)
    · refine CEnd.intro (by k_asm) (by k_asm) (by assumption) ?_
      show All2 IsInt ys (((endsL size (((size, sp) :: ks).take (j + 1)))).map fun n : Nat => (n : Int))
      rw [ends_snoc hq]
      rename (q.fst : Int) = _ => e9
      rw [if_pos (Int.ofNat.inj e9), List.append_nil]
      exact hys
  · intro ys1 h₂ hys D3 h3 tk3 F3 N3 off3
    have hI1 := ints_of hys
    k_steps
    refine stopped ?_
    refine ListComp2_E (cl := []) (fun i ys => All2 IsInt ys ((spotsL (((size, sp) :: ks).take i)).map fun n : Nat => (n : Int)))
      (fun i ws => ∃ q, ((size, sp) :: ks)[i]? = some q ∧ IntsAre ws (q.2.map fun n : Nat => (n : Int)))
      (fun i ws j ys => ∃ q, ((size, sp) :: ks)[i]? = some q ∧ IntsAre ws (q.2.map fun n : Nat => (n : Int)) ∧ All2 IsInt ys ((spotsL (((size, sp) :: ks).take i) ++ (q.2.take j).map (· + 1)).map fun n : Nat => (n : Int)))
      rfl (by k_asm) (by k_asm) (stands_list hl) rfl (by decide) rfl (by decide) ?_ (fun I i v s Q E hit h => goList hit h) .nil ?_ ?_ ?_ ?_ ?_ ?_
    · intro Q' E' hq'
      k_steps
      exact hq'
    · rintro i ws ys ⟨q, hq, hw⟩ hy
      exact ⟨q, hq, hw, by simpa using hy⟩
    · rintro i ws ys ⟨q, hq, hw⟩ ⟨q', hq', hw', hy⟩
      rw [hq] at hq'; cases hq'
      have := hw.length; rw [List.length_map] at this
      rw [this, List.take_length] at hy
      show All2 IsInt ys _
      rw [spots_snoc hq]; exact hy
    · rintro i ws j ys ⟨q, hq, hw, hy⟩
      have e := hy.length
      have e2 := spots_len (((size, sp) :: ks).take i) fun q hq => hsp q (List.mem_of_mem_take hq)
      have e3 := hsp q (List.mem_of_getElem? hq)
      rw [List.length_map, List.length_append, List.length_map, List.length_take] at e
      rw [List.length_take, List.length_cons] at e2
      (first | lia | omega)
    · intro I i v ys C D oI oC m₂ h tk E' hvj hys hC F' N' off ne
      obtain ⟨q, hq, tq, svq, hP, hS⟩ := hvs.get hvj
      obtain ⟨T, rfl, hT⟩ := TupG.isTup hP
      refine assignC2 rfl (IsTup.keeps hT F'.keep) rfl rfl rfl hC F' N' off ne ?_
      intro h3 oC3 tk3 hC3 F3 N3
      clear N' F' hC
      obtain ⟨ws, hS1, hS2⟩ := hS
      obtain ⟨W9, rfl, hW9⟩ := ListG.isList hS1
      k_steps

      exact ⟨_, ws, _, _, _, _, rfl, rfl, hW9, by k_asm, by k_asm, by assumption, q, hq, hS2⟩
    · rintro i j v ws ys I I2 o2 oI C D oC m₂ h tk E' hin hvj ⟨q, hq, hw, hys⟩ hC F' N' off ne ne2
      obtain ⟨n, hn, tn, rfl⟩ := ints_get hw hvj
      refine assignC1b rfl rfl hC F' N' off ne ne2 ?_
      intro h3 oC3 tk3 hC3 F3 N3
      clear N' F' hC
      k_steps
      refine ⟨_, _, _, _, rfl, by k_asm, by k_asm, by assumption, q, hq, hw, ?_⟩
      rw [take_snoc hn]
      rw [List.map_append] at hys
      rw [List.map_append, List.map_append, List.map_append, ← List.append_assoc]
      exact hys.snoc (IsInt.of rfl)
    · intro D h tk ys hys2 F' N' hD
      have hz1 : (Value.ref a0 :: vs0).length = ((size, sp) :: ks).length := hvs.length
      rw [hz1, List.take_length] at hys2 hI1
      have hI2 := ints_of hys2
      have N4 := N'
      have F4 := F'
      clear F3 N3
      k_steps
      refine stopped ?_
      refine kmk_add_ints F4 N4 (vs := ys1) (ws := ys) ⟨_, (N4 (D3, LCg.lst ys1) (by simp)).1, rfl, _, rfl⟩ ⟨_, (N4 (D, LCg.lst ys) (by simp)).1, rfl, _, rfl⟩ hI1 hI2 ?_ ?_
      · intro D5 us h5 F5 N5 hlt5 hus
        rw [← List.map_append] at hus
        k_steps
        refine stopped ?_
        refine kso_min F5 N5 ⟨_, (N5 (D5, listOf us.toArray 0) List.mem_cons_self).1, rfl, _, rfl⟩ hus ?_ rfl ?_
        · rw [List.length_map]; exact List.length_pos_iff.mpr hne
        · intro h6 M t6 tk6 F6 N6 hM hmin
          k_steps

          obtain ⟨x, hx, rfl⟩ := List.mem_map.mp hM
          refine hret _ [] _ _ (Fr.keep (by k_asm)) (fun _ h9 => nomatch h9) ⟨x, ⟨_, rfl⟩, hx, fun y hy => ?_⟩
          have := hmin _ (List.mem_map.mpr ⟨y, hy, rfl⟩)
          exact Int.ofNat_le.mp this
      · have e1 := hI1.length; have e2 := hI2.length
        have e3 := ends_len size ((size, sp) :: ks)
        have e4 := spots_len ((size, sp) :: ks) hsp
        rw [List.length_map, List.length_map, sizeLine_eq]
        simp only [List.length_cons] at e3 e4
        (first | lia | omega)

end Mine
end
section
open PySem PySem.W PySem.Calls PyProof.Rows PyProof
set_option Elab.async false
set_option maxRecDepth 100000
namespace Mine.MF
theorem owner_map : Manifest.owners.lookup (String.ofList ['p', 'a', 'm'].reverse) = some Manifest.sig_map := by kernel_rfl
theorem slot_map_init : Slot "map" "__init__" "object.__init__" :=
  .of (owner := "object") (n := "__init__") (by rw [typeLookup_type, builtinLookup_eq_fast]; kernel_rfl) (by decide +kernel) (by decide +kernel) (by decide +kernel)
    (by first | exact .inl (by decide +kernel) | exact .inr (by decide +kernel)) (by rw [isSubtype_type]; kernel_rfl)
theorem slot_map_next : Slot "map" "__next__" "map.__next__" :=
  .of (owner := "map") (n := "__next__") (by rw [typeLookup_type, builtinLookup_eq_fast]; kernel_rfl) (by decide +kernel) (by decide +kernel) (by decide +kernel)
    (by first | exact .inl (by decide +kernel) | exact .inr (by decide +kernel)) (by rw [isSubtype_type]; kernel_rfl)
theorem slot_map_iter : Slot "map" "__iter__" "map.__iter__" :=
  .of (owner := "map") (n := "__iter__") (by rw [typeLookup_type, builtinLookup_eq_fast]; kernel_rfl) (by decide +kernel) (by decide +kernel) (by decide +kernel)
    (by first | exact .inl (by decide +kernel) | exact .inr (by decide +kernel)) (by rw [isSubtype_type]; kernel_rfl)
theorem args_map_next_1 (a : Value) : argsOk "map.__next__" ⟨[a], []⟩ := by
  unfold argsOk; rw [signature?_of (id := "map.__next__") (n := ['_', '_', 't', 'x', 'e', 'n', '_', '_']) (o := ['p', 'a', 'm']) (by kernel_rfl) owner_map]; kernel_rfl
theorem args_map_iter_1 (a : Value) : argsOk "map.__iter__" ⟨[a], []⟩ := by
  unfold argsOk; rw [signature?_of (id := "map.__iter__") (n := ['_', '_', 'r', 'e', 't', 'i', '_', '_']) (o := ['p', 'a', 'm']) (by kernel_rfl) owner_map]; kernel_rfl
theorem entry_map_next : entryFor table "map.__next__" = some Builtin.«map.__next__» := entryFor_of_tree (by kernel_rfl)
theorem entry_map_iter : entryFor table "map.__iter__" = some Builtin.«dict_keyiterator.__iter__» :=
  entryFor_alias (id' := "dict_keyiterator.__iter__") (by kernel_rfl) (by first | rfl | decide +kernel | (unfold String.splitOn; simp +decide [String.splitOnAux])) (by decide +kernel) (by kernel_rfl)
theorem mro_map : mroOf (.type "map") = pure [.type "map", .type "object"] := by rw [mroOf_type]; kernel_rfl
theorem lookup_map_new : typeLookup (.type "map") "__new__" = pure (some (.builtin "map.__new__")) := by rw [typeLookup_type, builtinLookup_eq_fast]; kernel_rfl
theorem called_map : TypeCalled "map" "map.__new__" "object.__init__" :=
  ⟨by decide +kernel, by decide +kernel, ⟨_, _, mro_map⟩, madeBy_type mro_map lookup_map_new (by decide +kernel), by decide +kernel, by rw [isSubtype_type]; kernel_rfl, slot_map_init⟩
theorem typeCall_map_2 (a b : Value) : checkTypeCall "map" ⟨[a, b], []⟩ = pure () := by kernel_rfl
theorem newCall_map_2 (a b : Value) : checkBuiltinCall "map.__new__" ⟨[.type "map", a, b], []⟩ = pure () := by kernel_rfl
theorem entry_map_new : entryFor table "map.__new__" = some Builtin.«map.__new__» := entryFor_of_tree (by kernel_rfl)
theorem sub_map : isSubtype (.type "map") (.type "map") = pure true := by rw [isSubtype_type]; kernel_rfl
theorem map_no_len : typeLookup (.type "map") "__len__" = pure none := by rw [typeLookup_type, builtinLookup_eq_fast]; kernel_rfl
theorem map_no_hint : typeLookup (.type "map") "__length_hint__" = pure none := by rw [typeLookup_type, builtinLookup_eq_fast]; kernel_rfl
end Mine.MF
end
section
open PySem PySem.W PySem.Calls PyProof.Rows PyProof
set_option Elab.async false
set_option maxRecDepth 100000
namespace Mine
section
variable {prog : Program} {w : World} {A : Around} {E : Value → Shared → Prop} {s : Shared}
theorem nextOf_tup_item {it t : Addr} {i : Nat} {items : Array Value} {x : Value} {Q : Value → Shared → Prop} (hit : IsTupIter s.heap it t i) (ht : IsTup s.heap t items) (hx : items[i]? = some x)
    (hQ : ∀ h', IsTupIter h' it t (i + 1) → Heap.SameBut it s.heap h' → Q x { s with heap := h' }) :
    wpAny (model prog w) A (Builtin.SmallTypes.nextOf (.ref it)) Q E s := by
  obtain ⟨o, ho, hc, hd⟩ := id hit
  obtain ⟨ol, hol, _, nl, hdl⟩ := ht
  have hT := hit.typeIs
  refine wpAny_bind (wpAny_callSpecial?_slot (name := Str.ofString "__next__") hT slot_tupleiter_next (wpAny_call_entry slot_tupleiter_next hT entry_tupleiter_next ?_ (args_tupleiter_next _)))
  show wpAny _ _ (field (.ref it) 0 >>= _) _ _ s
  refine wpAny_bind (wpAny_field ho hd (x := .ref t) rfl ?_)
  show wpAny _ _ (if (Value.ref t == Value.none) = true then _ else _) _ _ s
  rw [if_neg (show ¬ ((Value.ref t == Value.none) = true) from Bool.false_ne_true)]
  show wpAny _ _ (field (.ref it) 1 >>= _) _ _ s
  refine wpAny_bind (wpAny_field ho hd (x := .int i 0) rfl ?_)
  show wpAny _ _ (seqItems? (.ref t) >>= _) _ _ s
  refine wpAny_bind (wpAny_seqItems hol hdl ?_)
  simp only [Int.toNat_natCast, hx]
  refine wpAny_bind (wpAny_setField ho hd (by simp) (wpAny_pure ⟨x, rfl, wpAny_pure (hQ _ ⟨_, Heap.get?_update_self _ ho (Obj.isFreed_of_fields (Obj.data_mapFields hd _)), (Obj.cls_mapFields ..).trans hc, ?_⟩ (Heap.SameBut.update ..))⟩))
  rw [Obj.data_mapFields hd]; simp [rawInt]
theorem nextOf_tup_end {it t : Addr} {i : Nat} {items : Array Value} {Q : Value → Shared → Prop} (hh : A.handled = none) (hit : IsTupIter s.heap it t i) (ht : IsTup s.heap t items) (hx : items[i]? = none)
    (hE : ∀ h' e, Heap.ExtBut it s.heap h' → (∃ o, h'.get? e = some o ∧ o.cls = .type "StopIteration") → E (.ref e) { s with heap := h' }) :
    wpAny (model prog w) A (Builtin.SmallTypes.nextOf (.ref it)) Q E s := by
  obtain ⟨o, ho, hc, hd⟩ := id hit
  obtain ⟨ol, hol, _, nl, hdl⟩ := ht
  have hT := hit.typeIs
  refine wpAny_bind (wpAny_callSpecial?_slot (name := Str.ofString "__next__") hT slot_tupleiter_next (wpAny_call_entry slot_tupleiter_next hT entry_tupleiter_next ?_ (args_tupleiter_next _)))
  show wpAny _ _ (field (.ref it) 0 >>= _) _ _ s
  refine wpAny_bind (wpAny_field ho hd (x := .ref t) rfl ?_)
  show wpAny _ _ (if (Value.ref t == Value.none) = true then _ else _) _ _ s
  rw [if_neg (show ¬ ((Value.ref t == Value.none) = true) from Bool.false_ne_true)]
  show wpAny _ _ (field (.ref it) 1 >>= _) _ _ s
  refine wpAny_bind (wpAny_field ho hd (x := .int i 0) rfl ?_)
  show wpAny _ _ (seqItems? (.ref t) >>= _) _ _ s
  refine wpAny_bind (wpAny_seqItems hol hdl ?_)
  simp only [Int.toNat_natCast, hx]
  refine wpAny_bind (wpAny_rule (wpAny_bind (wpAny_setField ho hd (by simp) ?_)))
  show wpAny _ _ (newExc (.type "StopIteration") [] >>= _) _ _ _
  refine wpAny_bind ?_
  simp only [newExc, newTuple]
  refine wpAny_bind (wpAny_newObj_type ?_ (by size_fits))
  refine wpAny_bind (m := firstArgMember _ _) (wpAny_of_eq (a := Value.none) (by first | rfl | (simp only [firstArgMember]; rfl)) ?_)
  refine wpAny_newObj_type ?_ (by size_fits)
  simp only [raiseNew]
  refine wpAny_bind (wpAny_handled ?_)
  rw [show A.in1.handled = none from hh]
  refine wpAny_bind (wpAny_pure (wpAny_throw ?_))
  exact hE _ _ (((Heap.SameBut.update ..).extBut.push _).push _) ⟨_, Heap.get?_push_size _ rfl, rfl⟩

/-- a map object over one tuple -/
structure MapAt (h : Heap) (M TI I t : Addr) (f : Value) (items : Array Value) (i : Nat) : Prop where
  m : h.get? M = some { cls := .type "map", data := .fields #[.ref TI, f] }
  ti : h.get? TI = some { cls := .type "tuple", data := .seq #[.ref I] }
  it : IsTupIter h I t i
  tup : IsTup h t items
  nM : M ≠ I
  nT : TI ≠ I
  nt : t ≠ I
theorem MapAt.next {h h' : Heap} {M TI I t : Addr} {f : Value} {items : Array Value} {i j : Nat} (a : MapAt h M TI I t f items i) (hs : Heap.SameBut I h h') (hi : IsTupIter h' I t j) : MapAt h' M TI I t f items j :=
  ⟨hs.extBut _ _ a.nM a.m, hs.extBut _ _ a.nT a.ti, hi, a.tup.extBut hs.extBut a.nt, a.nM, a.nT, a.nt⟩
theorem MapAt.keeps {h h' : Heap} {M TI I t : Addr} {f : Value} {items : Array Value} {i : Nat} (a : MapAt h M TI I t f items i) (k : ∀ b o, h.get? b = some o → h'.get? b = some o) : MapAt h' M TI I t f items i :=
  ⟨k _ _ a.m, k _ _ a.ti, let ⟨o, e, r⟩ := a.it; ⟨o, k _ _ e, r⟩, a.tup.keeps k, a.nM, a.nT, a.nt⟩

theorem map_next_item {M TI I t : Addr} {f x : Value} {items : Array Value} {i : Nat} {Q : Value → Shared → Prop} (a : MapAt s.heap M TI I t f items i) (hx : items[i]? = some x)
    (hcall : ∀ h', MapAt h' M TI I t f items (i + 1) → Heap.SameBut I s.heap h' → wpAny (model prog w) A (call f [x]) Q E { s with heap := h' }) :
    wpAny (model prog w) A (Builtin.«map.__next__» ⟨[.ref M], []⟩) (fun fin s' => ∃ v, fin = .done (.ret v) ∧ Q v s') E s := by
  show wpAny _ _ (field (.ref M) 0 >>= _) _ _ _
  refine wpAny_bind (wpAny_field a.m rfl (x := .ref TI) rfl ?_)
  refine wpAny_bind (wpAny_seqItems a.ti rfl ?_)
  refine wpAny_bind ?_
  simp only [List.forIn_toArray, List.forIn_cons, List.forIn_nil]
  refine wpAny_bind (wpAny_bind (wpAny_holding (nextOf_tup_item a.it a.tup hx fun h' hi hs => wpAny_pure ?_)))
  refine wpAny_pure ?_
  have a' := a.next hs hi
  refine wpAny_bind (wpAny_field a'.m rfl (x := f) rfl ?_)
  refine wpAny_bind (wpAny_holding (wpAny_mono (hcall h' a' hs) (fun v s' q => ?_) fun _ _ e => e))
  exact wpAny_bind (wpAny_letGo (wpAny_pure ⟨v, rfl, q⟩))
theorem map_next_end {M TI I t : Addr} {f : Value} {items : Array Value} {i : Nat} {Q : Fin → Shared → Prop} (hh : A.handled = none) (a : MapAt s.heap M TI I t f items i) (hx : items[i]? = none)
    (hE : ∀ h' e, Heap.ExtBut I s.heap h' → (∃ o, h'.get? e = some o ∧ o.cls = .type "StopIteration") → E (.ref e) { s with heap := h' }) :
    wpAny (model prog w) A (Builtin.«map.__next__» ⟨[.ref M], []⟩) Q E s := by
  show wpAny _ _ (field (.ref M) 0 >>= _) _ _ _
  refine wpAny_bind (wpAny_field a.m rfl (x := .ref TI) rfl ?_)
  refine wpAny_bind (wpAny_seqItems a.ti rfl ?_)
  refine wpAny_bind ?_
  simp only [List.forIn_toArray, List.forIn_cons, List.forIn_nil]
  exact wpAny_bind (wpAny_bind (wpAny_holding (nextOf_tup_end hh a.it a.tup hx hE)))
end
end Mine
end
section
open PySem PySem.W PySem.Calls PyProof.Rows PyProof
set_option Elab.async false
set_option maxRecDepth 100000
namespace Mine
section
variable {prog : Program} {w : World} {A : Around} {E : Value → Shared → Prop} {s : Shared}
theorem pyIter_map {M : Addr} {TI : Addr} {f : Value} {Q : Value → Shared → Prop} (hM : s.heap.get? M = some { cls := .type "map", data := .fields #[.ref TI, f] }) (h : Q (.ref M) s) : wpAny (model prog w) A (pyIter (.ref M)) Q E s := by
  have hT : s.TypeIs (.ref M) "map" := ⟨_, hM, rfl⟩
  refine wpAny_pyIter_slot hT MF.slot_map_iter (wpAny_call_entry MF.slot_map_iter hT MF.entry_map_iter ?_ (MF.args_map_iter_1 _))
  show wpAny _ _ (ret (.ref M)) _ _ s
  exact wpAny_pure ⟨_, rfl, "map", _, hT, MF.slot_map_next.lookup, h⟩

noncomputable def Kept (hb : Heap) (I : Addr) (h : Heap) : Prop := ∀ b o, (@Ne Nat b I) → hb.get? b = some o → h.get? b = some o

theorem map_walks {hb : Heap} {M TI I t : Addr} {f : Value} {items : Array Value} {P : Nat → Value → Prop} (hh : A.handled = none)
    (hf : ∀ i x (s : Shared) (Q : Value → Shared → Prop) (E : Value → Shared → Prop), items[i]? = some x → Kept hb I s.heap → (∀ v h' tk, P i v → Keeps s.heap h' → Q v { s with heap := h', toks := tk }) → wpAny (model prog w) A.in1 (call f [x]) Q E s) :
    Walks prog w A M (M :: TI :: I :: t :: List.range hb.objs.size) [I] items.size P (fun i h => MapAt h M TI I t f items i ∧ Kept hb I h) where
  sub := fun b hb => by rw [List.mem_singleton.mp hb]; simp
  frame := fun i h h' st k => by
    obtain ⟨a, kp⟩ := st
    refine ⟨⟨k M (by simp) _ a.m, k TI (by simp) _ a.ti, ?_, ?_, a.nM, a.nT, a.nt⟩, fun b o hne e => k b ?_ o (kp b o hne e)⟩
    · obtain ⟨o, e, r⟩ := a.it; exact ⟨o, k I (by simp) _ e, r⟩
    · obtain ⟨o, e, r⟩ := a.tup; exact ⟨o, k t (by simp) _ e, r⟩
    · refine List.mem_cons_of_mem _ (List.mem_cons_of_mem _ (List.mem_cons_of_mem _ (List.mem_cons_of_mem _ (List.mem_range.mpr (Heap.lt_size e)))))
  item := fun i s Q E hi st hQ => by
    obtain ⟨a, kp⟩ := st
    have hT : s.TypeIs (.ref M) "map" := ⟨_, a.m, rfl⟩
    refine wpAny_bind (wpAny_attempt (wpAny_callSpecial?_slot (name := Str.ofString "__next__") hT MF.slot_map_next
      (wpAny_call_entry MF.slot_map_next hT MF.entry_map_next (map_next_item a (Array.getElem?_eq_getElem hi) fun h' a' hs => ?_) (MF.args_map_next_1 _))))
    refine hf i items[i] _ _ _ (Array.getElem?_eq_getElem hi) (fun b o hne e => hs.extBut _ _ hne (kp b o hne e)) fun v h'' tk hP hk => ?_
    exact wpAny_pure (hQ v h'' tk hP ⟨a'.keeps hk, fun b o hne e => hk _ _ (hs.extBut _ _ hne (kp b o hne e))⟩ fun b o hb e => hk _ _ (hs.extBut _ _ (fun x => hb (by simp [x])) e))
  done := fun s Q E st hQ => by
    obtain ⟨a, kp⟩ := st
    have hT : s.TypeIs (.ref M) "map" := ⟨_, a.m, rfl⟩
    refine wpAny_bind (wpAny_attempt (wpAny_callSpecial?_slot (name := Str.ofString "__next__") hT MF.slot_map_next
      (wpAny_call_entry MF.slot_map_next hT MF.entry_map_next (map_next_end hh a (Array.getElem?_eq_none (Nat.le_refl _)) fun h' e hx he => ?_) (MF.args_map_next_1 _))))
    obtain ⟨o, ho, hc⟩ := he
    refine wpAny_bind (wpAny_isInstance (T := "StopIteration") (b := true) ⟨o, ho, hc⟩ isSubtype_stop ?_)
    exact wpAny_pure (hQ h' s.toks fun b o hb e => hx _ _ (fun x => hb (by simp [x])) e)
  self := fun i s Q E st hQ => pyIter_map st.1.m hQ

noncomputable abbrev mapH1 (h : Heap) (t : Addr) : Heap := h.push { cls := .type "tuple_iterator", data := .fields #[.ref t, .int 0 0] }
noncomputable abbrev mapH2 (h : Heap) (t : Addr) : Heap := (mapH1 h t).push { cls := .type "tuple", data := .seq #[.ref h.objs.size] }
noncomputable abbrev mapH3 (h : Heap) (t : Addr) (f : Value) : Heap := (mapH2 h t).push { cls := .type "map", data := .fields #[.ref (mapH1 h t).objs.size, f] }
theorem meets_map_new (f : Value) (t : Addr) (items : Array Value) :
    Meets (Builtin.«map.__new__» ⟨[.type "map", f, .ref t], []⟩) (fun _ R s => IsTup s.heap t items ∧ R (.ok (.ret (.ref (mapH2 s.heap t).objs.size))) { s with heap := mapH3 s.heap t f }) :=
  .of_wp fun prog w A R s h => by
    obtain ⟨hp, g, d, tk, os⟩ := s; obtain ⟨hl, h⟩ := h
    have hsub := MF.sub_map
    have hL : IsTup (Shared.heap ⟨hp, g, d, tk, os⟩) t items := hl
    wp_walk using iter_tuple hL
    exact ⟨_, rfl, h⟩
theorem call_map {t : Addr} {f : Value} {items : Array Value} {Q : Value → Shared → Prop} (ht : IsTup s.heap t items)
    (h : ∀ h' M TI I, MapAt h' M TI I t f items 0 → Keeps s.heap h' → s.heap.objs.size ≤ I → M < h'.objs.size → TI < h'.objs.size → I < h'.objs.size → t < h'.objs.size → Q (.ref M) { s with heap := h' }) :
    wpAny (model prog w) A (call (.type "map") [f, .ref t]) Q E s := by
  refine callType_new MF.called_map (by decide) (MF.typeCall_map_2 _ _) (MF.newCall_map_2 _ _) (fun obj => F.args_object_init_3 obj _ _) MF.entry_map_new (meets_map_new f t items) ⟨ht, ?_⟩
  have z1 : (mapH1 s.heap t).objs.size = s.heap.objs.size + 1 := Heap.size_push ..
  have z2 : (mapH2 s.heap t).objs.size = s.heap.objs.size + 2 := by rw [Heap.size_push, z1]
  have z3 : (mapH3 s.heap t f).objs.size = s.heap.objs.size + 3 := by rw [Heap.size_push, z2]
  have g3 : (mapH3 s.heap t f).get? (mapH2 s.heap t).objs.size = some _ := Heap.get?_push_size _ rfl
  have g2 : (mapH3 s.heap t f).get? (mapH1 s.heap t).objs.size = some _ := Heap.get?_push_of_some _ (Heap.get?_push_size _ rfl)
  have g1 : (mapH3 s.heap t f).get? s.heap.objs.size = some _ := Heap.get?_push_of_some _ (Heap.get?_push_of_some _ (Heap.get?_push_size _ rfl))
  have kk : Keeps s.heap (mapH3 s.heap t f) := fun b o e => Heap.get?_push_of_some _ (Heap.get?_push_of_some _ (Heap.get?_push_of_some _ e))
  have hlt := ht.lt
  have n1 : (@Ne Nat (mapH2 s.heap t).objs.size s.heap.objs.size) := by rw [z2]; exact Nat.ne_of_gt (by (first | lia | omega))
  have n2 : (@Ne Nat (mapH1 s.heap t).objs.size s.heap.objs.size) := by rw [z1]; exact Nat.ne_of_gt (by (first | lia | omega))
  exact ⟨⟨_, g3, rfl⟩, h _ _ _ _ ⟨g3, g2, ⟨_, g1, rfl, rfl⟩, ht.keeps kk, n1, n2, Nat.ne_of_lt hlt⟩ kk (Nat.le_refl _) (Heap.lt_size g3) (Heap.lt_size g2) (Heap.lt_size g1) (ht.keeps kk).lt⟩
end
end Mine
end
section
open PySem PySem.W PySem.Calls PyProof.Rows PyProof
set_option Elab.async false
set_option maxRecDepth 100000
namespace Mine
theorem moved_eq {wr : List Addr} {s s' : Shared} (h : Moved wr (fun a b => b = a) s s') : s' = { s with heap := s'.heap, toks := s'.toks } := by
  obtain ⟨hp, g, d, tk, os⟩ := s
  obtain ⟨hp', g', d', tk', os'⟩ := s'
  obtain ⟨_, e1, e2, e3, _⟩ := h
  dsimp only at e1 e2 e3
  subst e1 e2 e3
  rfl
section
variable {prog : Program} {w : World} {A : Around} {E : Value → Shared → Prop} {s : Shared} {M : Addr} {fp wr : List Addr} {n : Nat} {P : Nat → Value → Prop} {St : Nat → Heap → Prop}
theorem collect_map {Q : List Value → Shared → Prop} (W : Walks prog w A.in1 M fp wr n P St) (hT : ∀ i h, St i h → ∃ o, h.get? M = some o ∧ o.cls = .type "map") (hst : St 0 s.heap) (hfp : ∀ b ∈ fp, b < s.heap.objs.size) (hM : M ∈ fp) (hn : n ≤ sizeLine)
    (hQ : ∀ acc h' tk, (∀ b o, b ∉ wr → s.heap.get? b = some o → h'.get? b = some o) → ItemsOf P acc n → Q acc.toList { s with heap := h', toks := tk }) : wpAny (model prog w) A (collect (.ref M)) Q E s := by
  generalize hS : s.heap.objs.size = S
  have hSf : S ∉ fp := fun hm => Nat.lt_irrefl _ (hS ▸ hfp _ hm)
  have hSM : S ≠ M := fun e => hSf (e ▸ hM)
  have hSw : S ∉ wr := fun h => hSf (W.sub _ h)
  refine wpAny_bind (wpAny_runValue (codeAny_builtin F.entry_proto_collect ?_))
  rw [Around.under_plainId F.plain_proto_collect _]
  refine wpAny_bind (wpAny_newObj_type ?_)
  rw [hS]
  have hnew : (s.heap.push { cls := .type "list", data := .seq ([] : List Value).toArray }).get? S = some { cls := .type "list", data := .seq ([] : List Value).toArray } := by rw [← hS]; exact Heap.get?_push_size _ rfl
  generalize hH : s.heap.push { cls := .type "list", data := .seq ([] : List Value).toArray } = H1 at hnew ⊢
  have up : ∀ b o, s.heap.get? b = some o → H1.get? b = some o := fun b o e => hH ▸ Heap.get?_push_of_some _ e
  have st1 : St 0 H1 := W.frame 0 _ _ hst fun b _ o e => up b o e
  obtain ⟨oM, heM, hcM⟩ := hT 0 _ st1
  have hTM : ({ s with heap := H1 } : Shared).TypeIs (.ref M) "map" := ⟨oM, heM, hcM⟩
  refine wpAny_pure ⟨plainId_quiet F.plain_list_iadd _, codeAny_builtin F.entry_list_iadd ?_⟩
  rw [Around.under_plainId F.plain_list_iadd _]
  show wpAny _ A.in1 (Builtin.List.listExtendWith (.ref S) (.ref M) (.ref S)) _ _ _
  unfold Builtin.List.listExtendWith
  refine wpAny_bind (wpAny_typeOf hTM ?_)
  have q1 : Builtin.List.listSameRef (.ref S) (.ref M) = false := by simp [Builtin.List.listSameRef, hSM]
  have q2 : (Value.type "map" == Value.type "list") = false := by decide
  have q3 : (Value.type "map" == Value.type "tuple") = false := by decide
  simp only [q1, q2, q3, Bool.or_false, Bool.false_eq_true, if_false]
  refine wpAny_bind (W.self 0 _ _ _ st1 ?_)
  refine wpAny_bind (wpAny_holding ?_)
  unfold Builtin.List.listLengthHint
  refine wpAny_bind (wpAny_specialOf hTM MF.map_no_len ?_)
  show wpAny _ A.in1 (specialOf (Value.ref M) (Str.ofString "__length_hint__") >>= _) _ _ _
  refine wpAny_bind (wpAny_specialOf hTM MF.map_no_hint ?_)
  refine wpAny_pure ?_
  refine wpAny_bind (wpAny_rule ?_)
  refine wpAny_bind ?_
  show wpAny _ A.in1 (updateSeq S (·.push .none) >>= fun _ => updateSeq S (·.pop)) _ _ _
  refine wpAny_bind (wpAny_updateSeq hnew rfl ?_)
  have e2 := Heap.get?_update_self (Obj.mapSeq (·.push Value.none)) hnew rfl
  refine wpAny_updateSeq e2 rfl ?_
  have e3 := Heap.get?_update_self (Obj.mapSeq (·.pop)) e2 rfl
  generalize hH3 : (H1.update S (Obj.mapSeq (·.push Value.none))).update S (Obj.mapSeq (·.pop)) = H3 at e3 ⊢
  have oth : ∀ b o, b ≠ S → H1.get? b = some o → H3.get? b = some o := fun b o hb e => hH3 ▸ (Heap.get?_update_other _ _ (Ne.symm hb)).trans ((Heap.get?_update_other _ _ (Ne.symm hb)).trans e)
  refine wpAny_pure ⟨plainId_quiet F.plain_extend_loop _, codeAny_extend_loopS W.toS hn S hSf (.ref S) n 0 { s with heap := H3 } _ _ rfl (Nat.zero_le _) (W.frame 0 _ _ st1 fun b hb o e => oth b o (fun h => hSf (h ▸ hb)) e) e3 (ItemsOf.nil P) fun s' acc' c' hm hS' hacc => ?_⟩
  show wpAny _ A (load S >>= _) _ _ s'
  refine wpAny_bind (wpAny_load hS' (wpAny_pure ?_))
  rw [moved_eq hm]
  refine hQ acc' s'.heap s'.toks (fun b o hb e => hm.heap b o (fun hx => ?_) (oth b o (fun h => ?_) (up b o e))) hacc
  · rcases List.mem_cons.mp hx with h | h
    · exact absurd (Heap.lt_size e) (by rw [hS, h]; exact Nat.lt_irrefl _)
    · exact hb h
  · exact absurd (Heap.lt_size e) (by rw [hS, h]; exact Nat.lt_irrefl _)
end
end Mine
end
section
open PySem PySem.W PySem.Calls PyProof.Rows PyProof
set_option Elab.async false
set_option maxRecDepth 100000
namespace Mine
section
variable {prog : Program} {w : World} {A : Around} {E : Value → Shared → Prop} {s : Shared} {M : Addr} {fp wr : List Addr} {n : Nat} {P : Nat → Value → Prop} {St : Nat → Heap → Prop}
theorem code_tuple_map {Q₁ : Value → Shared → Prop} (W : Walks prog w A.in1.in1 M fp wr n P St) (hT : ∀ i h, St i h → ∃ o, h.get? M = some o ∧ o.cls = .type "map") (hst : St 0 s.heap) (hfp : ∀ b ∈ fp, b < s.heap.objs.size) (hM : M ∈ fp) (hn : n ≤ sizeLine)
    (h : ∀ acc (h' : Heap) (tk : Nat), (∀ b o, b ∉ wr → s.heap.get? b = some o → h'.get? b = some o) → ItemsOf P acc n → Q₁ (.ref h'.objs.size) { s with heap := h'.push { cls := .type "tuple", data := .seq acc }, toks := tk }) :
    codeAny (model prog w) A (.call (.builtin "tuple.__new__") ⟨[.type "tuple", .ref M], []⟩) (wants Q₁ E) s := by
  refine codeAny_of_tree ?_
  show wpAny _ A.in1 (do checkBuiltinCall "tuple.__new__" ⟨[.type "tuple", .ref M], []⟩; again (.builtin "tuple.__new__" ⟨[.type "tuple", .ref M], []⟩)) _ _ s
  refine wpAny_bind (wpAny_of_eq (F.newCall_tuple_1 _) (wpAny_pure ⟨plainId_quiet F.plain_tuple_new _, codeAny_builtin F.entry_tuple_new ?_⟩))
  rw [Around.under_plainId F.plain_tuple_new _]
  have hsub := sub_tuple_self
  have hinit := init_tuple_lookup
  have hmh := madeHere_tuple
  obtain ⟨oM, heM, hcM⟩ := hT 0 _ hst
  have hTI : s.TypeIs (.ref M) "map" := ⟨oM, heM, hcM⟩
  wp_walk using wpAny_typeOf hTI, collect_map (hn := hn) W hT hst hfp hM
  intro acc h' tk hk hacc
  show wpAny _ _ (Builtin.Tuple.tupleExact acc.toList.toArray >>= fun v => ret v) _ _ _
  unfold Builtin.Tuple.tupleExact
  refine wpAny_bind (wpAny_newObj_type ?_ (by show acc.toList.toArray.size ≤ sizeLine; simp only [Array.toArray_toList]; rw [hacc.1]; exact hn))
  refine wpAny_pure ?_
  have e : acc.toList.toArray = acc := by simp
  rw [e]
  exact h acc h' tk hk hacc
theorem call_tuple_map {Q : Value → Shared → Prop} (W : Walks prog w A.in1.in1.in1 M fp wr n P St) (hT : ∀ i h, St i h → ∃ o, h.get? M = some o ∧ o.cls = .type "map") (hst : St 0 s.heap) (hfp : ∀ b ∈ fp, b < s.heap.objs.size) (hM : M ∈ fp) (hn : n ≤ sizeLine)
    (h : ∀ acc (h' : Heap) (tk : Nat), (∀ b o, b ∉ wr → s.heap.get? b = some o → h'.get? b = some o) → ItemsOf P acc n → Q (.ref h'.objs.size) { s with heap := h'.push { cls := .type "tuple", data := .seq acc }, toks := tk }) :
    wpAny (model prog w) A (call (.type "tuple") [.ref M]) Q E s := by
  refine callType_codes (Q₁ := fun obj s₁ => s₁.TypeIs obj "tuple" ∧ Q obj s₁) F.called_tuple (F.typeCall_tuple_1 _) F.entry_object_init
    (code_tuple_map W hT hst hfp hM hn fun acc h' tk hk hacc => ⟨⟨_, Heap.get?_push_size _ rfl, rfl⟩, h acc h' tk hk hacc⟩) fun obj s₁ h₁ => ?_
  exact ⟨h₁.1, F.args_object_init_2 obj _, object_init_meets F.called_tuple.init.lookup F.called_tuple.made (by decide) prog w A.in1 _ s₁ ⟨h₁.1, rfl, h₁.2⟩⟩

/-- tuple of a map over a tuple, in a frame; hb is the heap in which the map was made -/
theorem tuple_map_N {h₀ : Heap} {L TI I t : Addr} {m : Str → Option Value} {news : List (Addr × Obj)} {f : Value} {items : Array Value} {Q : Value → Shared → Prop} (hh : A.handled = none)
    (F : Fr h₀ L s.heap m) (N : News h₀ L s.heap news) (a : MapAt s.heap M TI I t f items 0) (hI : h₀.get? I = none) (hL : (@Ne Nat L I)) (off : ∀ p ∈ news, (@Ne Nat p.1 I)) (hz : items.size ≤ sizeLine)
    (hf : ∀ i x (s' : Shared) (Q : Value → Shared → Prop) (E : Value → Shared → Prop), items[i]? = some x → Kept s.heap I s'.heap → (∀ v h' tk, P i v → Keeps s'.heap h' → Q v { s' with heap := h', toks := tk }) → wpAny (model prog w) A.in1.in1.in1.in1 (call f [x]) Q E s')
    (h : ∀ acc h' tk D, Fr h₀ L h' m → News h₀ L h' ((D, { cls := .type "tuple", data := .seq acc }) :: news) → (∀ p ∈ news, p.1 < D) → ItemsOf P acc items.size → Q (.ref D) { s with heap := h', toks := tk }) :
    wpAny (model prog w) A (call (.type "tuple") [.ref M]) Q E s := by
  have lt : ∀ {b o}, s.heap.get? b = some o → b < s.heap.objs.size := fun e => Heap.lt_size e
  refine call_tuple_map (map_walks (hb := s.heap) hh hf) (fun i h st => ⟨_, st.1.m, rfl⟩) ⟨a, fun b o _ e => e⟩ (fun b hb => ?_) (by simp) hz fun acc h' tk hk hacc => ?_
  · rcases List.mem_cons.mp hb with rfl | hb
    · exact lt a.m
    rcases List.mem_cons.mp hb with rfl | hb
    · exact lt a.ti
    rcases List.mem_cons.mp hb with rfl | hb
    · obtain ⟨_, e, _⟩ := a.it; exact lt e
    rcases List.mem_cons.mp hb with rfl | hb
    · exact a.tup.lt
    · exact List.mem_range.mp hb
  · have F' : Fr h₀ L h' m := LCg.fr_but F hk hL hI
    have N' : News h₀ L h' news := LCg.news_but N hk off
    exact h acc _ tk _ (F'.push _) (News.push F' N' _) (fun p hp => Heap.lt_size (N' p hp).1) hacc

/-- a map over a tuple made, in a frame -/
theorem call_map_N {h₀ : Heap} {L t : Addr} {m : Str → Option Value} {news : List (Addr × Obj)} {f : Value} {items : Array Value} {Q : Value → Shared → Prop} (F : Fr h₀ L s.heap m) (N : News h₀ L s.heap news) (ht : IsTup s.heap t items)
    (h : ∀ M TI I h', Fr h₀ L h' m → News h₀ L h' news → MapAt h' M TI I t f items 0 → h₀.get? I = none → (@Ne Nat L I) → (∀ p ∈ news, (@Ne Nat p.1 I)) → Q (.ref M) { s with heap := h' }) :
    wpAny (model prog w) A (call (.type "map") [f, .ref t]) Q E s := by
  refine call_map ht fun h' M TI I a k hI _ _ _ _ => ?_
  refine h M TI I h' (Fr.kept F k) (News.kept N k) a ?_ ?_ ?_
  · cases e : h₀.get? I with
    | none => rfl
    | some o => exact absurd (Heap.lt_size (F.keep _ _ e)) (Nat.not_lt.mpr hI)
  · exact Nat.ne_of_lt (Nat.lt_of_lt_of_le F.ns.lt hI)
  · exact fun p hp => Nat.ne_of_lt (Nat.lt_of_lt_of_le (Heap.lt_size (N p hp).1) hI)
end
end Mine
end
section
open PySem PySem.W PySem.Calls PyProof.Rows PyProof
set_option Elab.async false
set_option maxRecDepth 100000
namespace Mine
section
variable {prog : Program} {w : World} {A : Around} {E : Value → Shared → Prop} {s : Shared} {M : Addr}
theorem max_map_len_N {h₀ : Heap} {L TI I t : Addr} {m : Str → Option Value} {news : List (Addr × Obj)} {vs : List Value} {ls : List (List Nat)} {Q : Value → Shared → Prop} (hh : A.handled = none)
    (F : Fr h₀ L s.heap m) (N : News h₀ L s.heap news) (a : MapAt s.heap M TI I t (.builtin "len") vs.toArray 0) (hI : h₀.get? I = none) (hL : (@Ne Nat L I)) (off : ∀ p ∈ news, (@Ne Nat p.1 I)) (hvs : All2 IsStr vs ls) (hne : ls ≠ []) (hlen : ∀ l ∈ ls, l.length < 1000)
    (h : ∀ (mx : Nat) (u : Tok) h' tk, mx ∈ ls.map List.length → (∀ l ∈ ls, l.length ≤ mx) → Fr h₀ L h' m → News h₀ L h' news → Q (.int (mx : Int) u) { s with heap := h', toks := tk }) :
    wpAny (model prog w) A (call (.builtin "max") [.ref M]) Q E s := by
  have lt : ∀ {b o}, s.heap.get? b = some o → b < s.heap.objs.size := fun e => Heap.lt_size e
  have hz : vs.toArray.size = ls.length := by rw [List.size_toArray, hvs.length]
  have hpos : 0 < ls.length := List.length_pos_iff.mpr hne
  refine call_max_walk (pyIter_map a.m ⟨M, _, [I], _, fun i v => ∃ tk, v = .int ((ls.getD i []).length : Int) tk, _, _, rfl, map_walks (hb := s.heap) hh ?_, ⟨a, fun b o _ e => e⟩, ?_, by rw [hz]; exact hpos, CmpOf.ints_gt (fun i => ((ls.getD i []).length : Int)) (fun i v x => x), ?_⟩)
  · intro i x s' Q' E' hx _ hQ
    obtain ⟨tx, rfl, hi⟩ := strs_at hvs hx
    have hl : (S (ls.getD i [])).length = (ls.getD i []).length := S_len _
    have hb := hlen (ls.getD i []) (by rw [getD_at hi]; exact List.getElem_mem hi)
    refine len_str (by rw [hl]; (first | lia | omega)) ?_
    rw [hl]
    exact hQ _ _ _ ⟨_, rfl⟩ (Keeps.refl _)
  · intro b hb
    rcases List.mem_cons.mp hb with rfl | hb
    · exact lt a.m
    rcases List.mem_cons.mp hb with rfl | hb
    · exact lt a.ti
    rcases List.mem_cons.mp hb with rfl | hb
    · obtain ⟨_, e, _⟩ := a.it; exact lt e
    rcases List.mem_cons.mp hb with rfl | hb
    · exact a.tup.lt
    · exact List.mem_range.mp hb
  · rintro v h' tk ⟨u, rfl⟩ hk
    obtain ⟨h1, h2⟩ := argBest_gt (fun i => ((ls.getD i []).length : Int)) (vs.toArray.size - 1)
    rw [hz] at h1 h2 ⊢
    refine h _ u h' tk ?_ ?_ (LCg.fr_but F hk hL hI) (LCg.news_but N hk off)
    · have hb := h1
      rw [getD_at (by (first | lia | omega))]
      exact List.mem_map.mpr ⟨_, List.getElem_mem _, rfl⟩
    · intro l hl
      obtain ⟨i, hi, rfl⟩ := List.mem_iff_getElem.mp hl
      have := h2 i (by (first | lia | omega))
      rw [getD_at hi] at this
      exact Int.ofNat_le.mp this
end
end Mine
end
section
open PySem PySem.W PySem.Calls PyProof.Rows PyProof
set_option Elab.async false
set_option maxRecDepth 100000
namespace Mine
/-- binding of a sole star parameter -/
theorem bind_star {M : Model} {A : Around} {E : Value → Shared → Prop} {s : Shared} {name qual : Str} {a : Arg} {body : List Stmt} {scope : Scope} {kV doc pm cdv ct : Value} {an : Option Addr} {vs : List Value} {Q : List (Str × Value) → Shared → Prop} (hz : vs.length ≤ sizeLine)
    (h : Q [(a.arg, .ref s.heap.objs.size)] { s with heap := s.heap.push { cls := .type "tuple", data := .seq vs.toArray } }) :
    wpAny M A (bindArgs (fnOf name qual { posonlyargs := [], args := [], vararg := some a, kwonlyargs := [], kw_defaults := [], kwarg := none, defaults := [] } body scope .none kV doc pm an cdv ct) ⟨vs, []⟩) Q E s := by
  refine wpAny_bind ((?_ : wpAny M A (pure ([], [])) _ E s))
  refine wpAny_pure ?_
  refine wpAny_bind (wpAny_bind (wpAny_of_eq (show notAStandIn Value.none = pure () from rfl) (wpAny_pure ?_)))
  dsimp only
  rw [if_neg (by simp)]
  show wpAny M A (newTuple vs >>= fun v => pure [(a.arg, v)]) Q E s
  refine wpAny_bind (wpAny_newTuple ?_ (by simpa using hz))
  exact wpAny_pure h
theorem enterV {prog : Program} {w : World} {A : Around} {s : Shared} {K : Frag} {p : Program} {loose : List Str} {mg mb : Str → Option Value}
    {name qual : Str} {a : Arg} {body : List Stmt} {scope : Scope} {kV doc pm cdv ct oc : Value} {an od : Option Addr} {osl : Array (Option Value)} {f : Addr} {vs : List Value} {Q E : Value → Shared → Prop}
    (X : K.In s.heap) (T : TopRead p loose mg mb s.heap)
    (ho : K.lookup f = some ⟨oc, od, .func (fnOf name qual { posonlyargs := [], args := [], vararg := some a, kwonlyargs := [], kw_defaults := [], kwarg := none, defaults := [] } body scope .none kV doc pm an cdv ct), osl⟩) (hcd : codeIn K cdv qual = true) (hroom : A.depth < recursionLimit)
    (hz : vs.length ≤ sizeLine) (hkind : ∀ t, (([(a.arg, Value.ref t)] : List (Str × Value)).all fun y => scope.names.lookup y.1 == some .local || scope.names.lookup y.1 == some .cell) = true)
    (hnd : ((cellsFrom 0 scope.names []).map (·.1)).Nodup)
    (h : ∀ g t, Keeps s.heap g → IsTup g t vs.toArray → K.In g → TopRead p loose mg mb g → ∀ L' h₁ tk cells, Fr g L' h₁ (bindL (envOfC qual scope L' f cdv).kindOf [(a.arg, Value.ref t)] fun _ => none) → News g L' h₁ cells →
      CellsAre (bindC (envOfC qual scope L' f cdv).kindOf [(a.arg, Value.ref t)] fun _ => none) (cellsFrom (L' + 1) scope.names []) cells →
      wpAny (model prog w) (A.deeper (envOfC qual scope L' f cdv)) (execs body (envOfC qual scope L' f cdv))
        (fun fl s' => Q (match fl with | .ret v => v | _ => .none) s')
        (fun e s' => wpAny (model prog w) (A.deeper (envOfC qual scope L' f cdv)) (leaving (envOfC qual scope L' f cdv) e) (fun _ s'' => E e s'') (fun e' s'' => E e' s'') s')
        { s with heap := h₁, toks := tk })
    (hco : scope.isCoroutine = false) (hgen : scope.isGenerator = false) (hk : scope.kind = .function) : wpAny (model prog w) A (call (.ref f) vs) Q E s := by
  have kp : Keeps s.heap (s.heap.push { cls := .type "tuple", data := .seq vs.toArray }) := fun b o e => Heap.get?_push_of_some _ e
  refine wpAny_call ?_
  refine codeAny_call_function hroom (X _ _ ho) rfl hco hgen rfl (codeRec_of X hcd) (bind_star hz ?_)
  refine wpAny_newFunctionEnv_cells hk (kindsX (hkind _) _) fun env' he s' x => ?_
  subst he
  have T' := T.keeps kp
  refine ⟨T'.nolimit.keeps x.toInCall.keep, codeAny_func ?_⟩
  obtain ⟨h₁, tk, rfl, _⟩ := x.done
  have hk₁ := x.toInCall.keep
  generalize hG : s.heap.push { cls := .type "tuple", data := .seq vs.toArray } = G at *
  obtain ⟨cells, NC, Y⟩ := Cl.news (h₀ := G) (Nat.le_refl _) fun n c hm => ⟨x.cell n c (lookup_of_mem_nodup (cellsFrom_names scope.names 0 (G.objs.size + 1) [] [] rfl ▸ hnd) hm), x.above n c hm⟩
  exact h G s.heap.objs.size kp (hG ▸ IsTup.new _ _) (X.keeps kp) T' G.objs.size h₁ tk cells ⟨x.toInCall.ns, hk₁, Nat.le_refl _⟩ NC Y
end Mine
end
section
open PySem PySem.W PySem.Calls PyProof.Rows PyProof PySem.Spec
set_option Elab.async false
set_option maxRecDepth 100000
namespace Mine
section
variable {prog : Program} {w : World} {A : Around} {E : Value → Shared → Prop} {s s₁ : Shared} {h₁ h₀ : Heap} {c P L : Addr} {ps : Array Value} {m mg : Str → Option Value} {bm : Addr} {ob : Obj}
/-- a generator's source: a tuple, no tests -/
theorem src_tup {env : Env} {elt : Expr} {x : Str} {scope : Scope} {cl : List (Str × Addr)} {pos : Pos} {Q : Value → Shared → Prop} {l K : Addr} {items : Array Value} {F : Nat → Value → Prop}
    (B : Based h₁ h₀ c P ps) (hl : IsTup s₁.heap l items) (F₁ : Fr h₀ L s₁.heap m) (G₁ : AllBare s₁.gens) (hlim : s₁.heap.NoLimit) (hLK : L ≤ K) (hK : K < s₁.heap.objs.size)
    (hq2 : ∀ (c' C : Addr) (A' : Around) E' i v (t : Shared) m₂, A'.handled = none → A'.depth ≤ A.depth + 1 → A'.units ≤ A.units + 8 → items[i]? = some v → Fr (regrown h₀ P (ps ++ #[rawInt pos.line, rawInt pos.col, .ref c'])) C t.heap m₂ → m₂ x = some v → L < C →
          (∀ b o, b ≠ P → s₁.heap.get? b = some o → t.heap.get? b = some o) →
          wpAny (model prog w) A' (eval elt (genEnv scope cl C (.ref c') builtinsNs env)) (fun y s₃ => F i y ∧ PySem.Keeps t s₃) E' t)
    (hQ : ∀ (c' a : Addr) (s₅ : Shared), Based h₁ (regrown h₀ P (ps ++ #[rawInt pos.line, rawInt pos.col, .ref c'])) c P (ps ++ #[rawInt pos.line, rawInt pos.col, .ref c']) →
          Fr (regrown h₀ P (ps ++ #[rawInt pos.line, rawInt pos.col, .ref c'])) L s₅.heap m → AllBare s₅.gens → s₅.os = s₁.os → (∀ b o, b ≠ P → s₁.heap.get? b = some o → s₅.heap.get? b = some o) →
          Gen prog w A K a items.size F s₅ → Q (.ref a) s₅) :
    wpAny (model prog w) A (pyIter (.ref l)) (GenPost prog w A h₁ h₀ c P ps L m env scope cl x [] elt pos Q) E s₁ := by
  have hlt : l < s₁.heap.objs.size := hl.lt
  have hPlt : P < s₁.heap.objs.size := Heap.lt_size (B.tabAt F₁).2
  have hlP : l ≠ P := fun e => by
    obtain ⟨o, ho, hc, _⟩ := hl
    rw [e, (B.tabAt F₁).2] at ho; cases ho; exact absurd hc (by simp)
  have pass : passing (fun _ => true) items.size 0 = List.range items.size := by simp [passing]
  have hpush : ∀ b o, s₁.heap.get? b = some o → (s₁.heap.push { cls := .type "tuple_iterator", data := .fields #[.ref l, .int 0 0] }).get? b = some o := fun b o e => Heap.get?_push_of_some _ e
  have notI : ∀ {b o}, s₁.heap.get? b = some o → b ∉ [s₁.heap.objs.size] := fun e hm => absurd (Heap.lt_size e) ((List.mem_singleton.mp hm) ▸ Nat.lt_irrefl _)
  refine wpAny_pyIter_tuple hl ⟨F₁.keeps hpush, G₁, hlim.push _, K, s₁.heap.objs.size, [s₁.heap.objs.size, l], [s₁.heap.objs.size], items.size, _, _, fun _ => true, F, hLK, (by rw [Heap.size_push]; exact Nat.lt_succ_of_lt hK), rfl,
    (fun A' hA => Walks.tuple hA _ _ (Nat.ne_of_lt hlt) items), ⟨⟨_, Heap.get?_push_size _ rfl, rfl, rfl⟩, hl.push _⟩, ?_, ?_, ?_, ?_, ?_, ?_⟩
  · intro b hb
    show b < (s₁.heap.push _).objs.size
    rw [Heap.size_push]
    rcases List.mem_cons.mp hb with rfl | hb
    · exact Nat.lt_succ_self _
    · rw [List.mem_singleton.mp hb]; exact Nat.lt_succ_of_lt hlt
  · intro hb
    rcases List.mem_cons.mp hb with e | hb
    · exact absurd hPlt (e ▸ Nat.lt_irrefl _)
    · exact hlP (List.mem_singleton.mp hb).symm
  · intro b hb
    rw [List.mem_singleton.mp hb]; exact hK
  · intro c' C A' E' i v t m₂ hA hD hU hP hF hm hLC hk
    simp only [List.forIn_nil]
    exact wpAny_pure ⟨rfl, ⟨t.heap, t.toks, rfl, fun _ _ e => e⟩⟩
  · intro c' C A' E' i v t m₂ hA hD hU hP _ hF hm hLC hk
    exact hq2 c' C A' E' i v t m₂ hA hD hU hP hF hm hLC fun b o hbP e => hk b o hbP (notI e) (hpush b o e)
  · intro c' a s₅ B' F' G' hos hk X
    refine hQ c' a s₅ B' F' G' hos (fun b o hb e => hk b o hb (hpush b o e)) ?_
    rw [pass, List.length_range] at X
    refine X.imp fun j y hy => ?_
    obtain ⟨i, hij, hF⟩ := hy
    have : j = i := by
      obtain ⟨hj, e⟩ := List.getElem?_eq_some_iff.mp hij
      rw [List.getElem_range] at e; exact e
    exact this ▸ hF

/-- tuple of a generator, in a frame -/
theorem tuple_gen_N {a K : Addr} {n : Nat} {F : Nat → Value → Prop} {news : List (Addr × Obj)} {Q : Value → Shared → Prop} (Fm : Fr h₀ L s.heap m) (N : News h₀ L s.heap news) (G : AllBare s.gens) (X : Gen prog w A K a n F s) (hLK : L ≤ K) (hold : ∀ b o, h₀.get? b = some o → b ≤ K) (hnew : ∀ p ∈ news, p.1 ≤ K) (hn : n ≤ sizeLine)
    (h : ∀ s' (D : Addr) acc, Fr h₀ L s'.heap m → News h₀ L s'.heap ((D, { cls := .type "tuple", data := .seq acc }) :: news) → AllBare s'.gens → s'.os = s.os → s'.drawn = s.drawn → ItemsOf F acc n → Q (.ref D) s') :
    wpAny (model prog w) A (call (.type "tuple") [.ref a]) Q E s := by
  obtain ⟨fp, wr, g, St, W, hst, hT, hI, hfp, hwr⟩ := X
  refine call_tuple_gen (hsz := hn) W.in4_3 hT hst hfp hI fun s' acc hm hacc => ?_
  have F₁ : Fr h₀ L s'.heap m := Fm.moved hm fun b hb => Nat.lt_of_le_of_lt hLK (hwr b hb)
  have N₁ : News h₀ L s'.heap news := fun p hp => ⟨hm.heap _ _ (fun hw => Nat.lt_irrefl _ (Nat.lt_of_lt_of_le (hwr _ hw) (hnew p hp))) (N p hp).1, (N p hp).2⟩
  have G₁ : AllBare s'.gens := G.movedS hm
  exact h _ _ acc (F₁.push _) (News.push F₁ N₁ _) G₁ hm.os hm.drawn hacc
end
end Mine
end
section
open PySem PySem.W PySem.Calls PyProof.Rows PyProof
set_option Elab.async false
set_option maxRecDepth 100000
namespace Mine
/-- all is kept but at P -/
noncomputable def KeepsP (P : Addr) (h h' : Heap) : Prop := ∀ b o, (@Ne Nat b P) → h.get? b = some o → h'.get? b = some o
/-- a contract of a def that makes one generator: the code's table P may grow -/
noncomputable def ConG (w : World) (mg mb : Str → Option Value) (f c : Addr) (args : List Value) (sz : Nat) (Post : List (Addr × Obj) → Value → Prop) : Prop :=
  ∀ (dp un : Nat) (gd : Option (List Code)) (fr : Option (List Env)) (s : Shared) (Q E : Value → Shared → Prop) (vp : Program) (lo : List Str) (P bm : Addr) (ob : Obj),
    (hk w.params).In s.heap → TopRead vp lo mg mb s.heap →
    BMod s.heap mainGlobals mg bm ob → Based s.heap s.heap c P #[] → AllBare s.gens → dp + sz < recursionLimit → un + 8 * sz < cLine →
    (∀ r tl s', KeepsP P s.heap s'.heap → (∃ ps, s'.heap.get? P = some { cls := .none, data := .fields ps }) → NewIn s.heap s'.heap tl → AllBare s'.gens → s'.os = s.os → Post tl r → Q r s') →
    wpAny (model Challenge.rw_mq0167_01.row.prog w) (AR dp un gd fr) (call (.ref f) args) Q E s
theorem regrown_other {g : Heap} {P b : Addr} {ps : Array Value} (h : (@Ne Nat b P)) : (regrown g P ps).get? b = g.get? b := Heap.get?_update_other _ _ (Ne.symm h)
theorem news_regrown {g₁ g h h' : Heap} {c P L : Addr} {ps ps' : Array Value} {news : List (Addr × Obj)} (B : Based g₁ g c P ps) (N : News g L h news) (hk : ∀ b o, b ≠ P → h.get? b = some o → h'.get? b = some o) : News (regrown g P ps') L h' news := fun p hp => by
  have hne : p.1 ≠ P := fun e => by
    have := (N p hp).2.2
    rw [e, B.tab.2] at this; cases this
  exact ⟨hk _ _ hne (N p hp).1, (N p hp).2.1, (regrown_other hne).trans (N p hp).2.2⟩
theorem keepsP_of {g₁ g h' : Heap} {P L : Addr} {ps' : Array Value} {m : Str → Option Value} (kp : Keeps g₁ g) (F : Fr (regrown g P ps') L h' m) : KeepsP P g₁ h' := fun b o hne e => F.keep b o ((regrown_other hne).trans (kp b o e))
theorem newIn_regrown {g₁ g h' : Heap} {c P L : Addr} {ps ps' : Array Value} {news : List (Addr × Obj)} (B : Based g g c P ps) (kp : Keeps g₁ g) (N : News (regrown g P ps') L h' news) : NewIn g₁ h' news := fun p hp => by
  refine ⟨(N p hp).1, ?_⟩
  cases e : g₁.get? p.1 with
  | none => rfl
  | some o =>
    have h0 := (N p hp).2.2
    have hne : p.1 ≠ P := fun e2 => by
      rw [e2] at h0
      have : (regrown g P ps').get? P = some { cls := .none, data := .fields ps' } := Heap.get?_update_self _ B.tab.2 rfl
      rw [this] at h0; cases h0
    rw [regrown_other hne, kp _ _ e] at h0; cases h0
end Mine
end
section
open PySem PySem.W PySem.Calls PyProof.Rows PyProof
set_option Elab.async false
set_option maxRecDepth 100000
namespace Mine
section
variable {M : Model} {A : Around} {E : Value → Shared → Prop} {s : Shared} {h₀ : Heap} {L C c b : Addr} {env : Env} {scope : Scope} {cl : List (Str × Addr)} {o : Obj} {code : Value} {m₂ : Str → Option Value} {x : Str} {pos : Pos} {v : Value} {Q : Value → Shared → Prop}
theorem nameGL (F : Fr h₀ C s.heap m₂) (hv : m₂ x = some v) (h : Q v s) (hk : scope.kind = .function) (hx : (genEnv scope cl C code b env).kindOf x = some .local) (hd : (x == ("__debug__" : Str)) = false) :
    wpAny M A (eval (.Name x pos) (genEnv scope cl C code b env)) Q E s := wpAny_Name (wpAny_loadName_local hk hx F.ns hv h) hd
theorem nameGF (hc : cl.lookup x = some c) (ho : s.heap.get? c = some o) (hd : o.data = .cell (some v)) (h : Q v s) (hk : scope.kind = .function) (hx : (genEnv scope cl C code b env).kindOf x = some .free) (hb : (x == ("__debug__" : Str)) = false) (hn : (x == ("__classdict__" : Str)) = false) :
    wpAny M A (eval (.Name x pos) (genEnv scope cl C code b env)) Q E s := wpAny_Name (wpAny_loadName_free hk hx hc ⟨o, ho, hd⟩ h hn) hb
end
end Mine
end
section
open PySem PySem.W PySem.Calls PyProof.Rows PyProof
set_option Elab.async false
namespace Mine
/-- the end of a turn of a loop whose ledger may grow -/
noncomputable def GPost (h₀ : Heap) (L I : Addr) (oI : Obj) (J : (Str → Option Value) → List (Addr × Obj) → Prop) (s₁ : Shared) (Q : Flow → Shared → Prop) (f : Flow) (s₂ : Shared) : Prop :=
  match f with
  | .ret v => Q (.ret v) s₂
  | .brk => Q .next s₂
  | _ => ∃ h' tk m' nx, s₂ = { s₁ with heap := h', toks := tk } ∧ Fr h₀ L h' m' ∧ News h₀ L h' ((I, oI) :: nx) ∧ J m' nx
section
variable {prog : Program} {w : World} {A : Around} {E : Value → Shared → Prop} {s : Shared} {env : Env} {h₀ : Heap} {x : Str} {body : List Stmt} {Q : Flow → Shared → Prop}
theorem GPost.next {L I : Addr} {oI : Obj} {J : (Str → Option Value) → List (Addr × Obj) → Prop} {s₁ : Shared} {h' : Heap} {tk : Nat} {m' : Str → Option Value} (nx : List (Addr × Obj)) (F : Fr h₀ L h' m') (N : News h₀ L h' ((I, oI) :: nx)) (j : J m' nx) :
    GPost h₀ L I oI J s₁ Q .next { s₁ with heap := h', toks := tk } := ⟨h', tk, m', nx, rfl, F, N, j⟩
theorem iterListG {l : Addr} {vs : List Value} {m₀ : Str → Option Value} {news : List (Addr × Obj)} (J : Nat → (Str → Option Value) → List (Addr × Obj) → Prop)
    (hh : A.handled = none) (hl : h₀.IsList l vs.toArray) (F : Fr h₀ env.locals s.heap m₀) (N : News h₀ env.locals s.heap news) (hj : J 0 m₀ news)
    (hJc : ∀ i m nx, J i m nx → ∀ p ∈ nx, p.2.cls ≠ .type "list_iterator")
    (turn : ∀ i v m₁ nx h tk I oI, i < vs.length → vs[i]? = some v → J i m₁ nx → Fr h₀ env.locals h (fun y => if y = x then some v else m₁ y) → News h₀ env.locals h ((I, oI) :: nx) → oI.cls = .type "list_iterator" →
      wpAny (model prog w) A (execs body env) (GPost h₀ env.locals I oI (J (i + 1)) { s with heap := h, toks := tk } Q) E { s with heap := h, toks := tk })
    (done : ∀ m₁ nx h tk, J vs.length m₁ nx → Fr h₀ env.locals h m₁ → News h₀ env.locals h nx → Q .next { s with heap := h, toks := tk }) :
    wpAny (model prog w) A (pyIter (.ref l)) (fun it s₂ => LoopAtV prog w A h₀ env x body Q E it s₂) E s := by
  have hls : s.heap.IsList l vs.toArray := hl.at fun o e => F.keep l o e
  obtain ⟨ol, hol, _⟩ := id hl
  have hlt : l < h₀.objs.size := Heap.lt_size hol
  have hne : l ≠ s.heap.objs.size := Nat.ne_of_lt (Nat.lt_trans (Nat.lt_of_lt_of_le hlt F.above) F.ns.lt)
  refine wpAny_pyIter_list hls ?_
  have W := Walks.list (prog := prog) (w := w) hh s.heap.objs.size l hne vs.toArray
  rw [List.size_toArray] at W
  have hI₀ : h₀.get? s.heap.objs.size = none := next_is_new F
  refine ⟨s.heap.objs.size, _, _, _, _, _, m₀, news, J, rfl, W, ?_, ?_, ?_, ⟨⟨_, Heap.get?_push_size _ rfl, rfl, rfl⟩, hls.at fun o e => Heap.get?_push_of_some _ e⟩, F.push _, (fun p hp => ⟨Heap.get?_push_of_some _ (N p hp).1, (N p hp).2⟩), hj, ?_, ?_⟩
  · intro hm
    rcases List.mem_cons.mp hm with e | hm
    · exact absurd F.ns.lt (e ▸ Nat.lt_irrefl _)
    · exact absurd (Nat.lt_of_lt_of_le hlt F.above) ((List.mem_singleton.mp hm) ▸ Nat.lt_irrefl _)
  · intro b hb
    rw [List.mem_singleton.mp hb]
    exact hI₀
  · intro p hp hI
    exact absurd (Heap.lt_size (N p hp).1) ((List.mem_singleton.mp hI) ▸ Nat.lt_irrefl _)
  · rintro i v m₁ nx s₁ own ⟨h, tk, rfl⟩ hi hP hJ hoff hown hget hall hst F₁ N₁
    dsimp only at hget hall F₁ N₁ hst
    obtain ⟨oI, heI, hcI, _⟩ := id hst.1
    have hmI : (s.heap.objs.size, oI) ∈ own := hall _ List.mem_cons_self hI₀ oI heI
    have own_eq : ∀ p ∈ own, p = (s.heap.objs.size, oI) := fun p hp => by
      have h1 := hown p hp
      have h2 := hget p hp
      have h3 := (N₁ p (List.mem_append_left _ hp)).2.2
      rcases List.mem_cons.mp h1 with e | e
      · rw [e, heI] at h2
        exact Prod.ext e (Option.some.inj h2).symm
      · rw [List.mem_singleton.mp e, hol] at h3; cases h3
    have zI := N₁ _ (List.mem_append_left nx hmI)
    have N₂ : News h₀ env.locals h ((s.heap.objs.size, oI) :: nx) := fun p hp => by
      rcases List.mem_cons.mp hp with rfl | hp
      · exact zI
      · exact N₁ p (List.mem_append_right _ hp)
    refine wpAny_mono (turn i v m₁ nx h tk _ oI hi (by simpa using hP) hJ F₁ N₂ hcI) (fun f s₂ p => ?_) fun _ _ e => e
    have fin : (∃ h' tk' m' nx', s₂ = ({ s with heap := h', toks := tk' } : Shared) ∧ Fr h₀ env.locals h' m' ∧ News h₀ env.locals h' ((s.heap.objs.size, oI) :: nx') ∧ J (i + 1) m' nx') → LoopStepU h₀ env.locals [s.heap.objs.size] own (J (i + 1)) { s with heap := h, toks := tk } .next s₂ := by
      rintro ⟨h', tk', m', nx', rfl, F', N', hJ'⟩
      refine ⟨rfl, h', tk', m', nx', rfl, F', fun p hp => ?_, fun p hp hw => ?_, hJ'⟩
      · rcases List.mem_append.mp hp with hp | hp
        · rw [own_eq p hp]; exact N' _ List.mem_cons_self
        · exact N' p (List.mem_cons_of_mem _ hp)
      · have e1 := (N' p (List.mem_cons_of_mem _ hp)).1
        have e2 := (N' _ List.mem_cons_self).1
        rw [List.mem_singleton.mp hw, e2] at e1
        have e3 := Option.some.inj e1
        exact hJc _ _ _ hJ' p hp (by rw [← e3]; exact hcI)
    cases f with
    | ret v => exact .ret p
    | brk => exact .brk p
    | next => exact .next (fin p)
    | cont => exact .cont (fin p)
  · intro h' tk m' nx' F' N' _ hJ
    exact done m' nx' h' tk hJ F' N'
end
end Mine
end
section
open PySem PySem.W PySem.Calls PyProof.Rows PyProof
set_option Elab.async false
set_option maxRecDepth 100000
set_option maxHeartbeats 1000000
namespace Mine
noncomputable def sizeL (ns : List Nat) : Nat := 60 + (ns.sum + 80) % 140
noncomputable def spotL (ns : List Nat) : Nat := (ns.sum / 140 + 30) % sizeL ns
noncomputable def kindL (size spot n : Nat) : Nat × List Nat := if n % 3 = 2 then (n / 3 % (size + 60), []) else (size, n / 3 % size :: List.replicate (n % 3) spot)
noncomputable def kindsL (ns : List Nat) : List (Nat × List Nat) := [(sizeL ns, []), (sizeL ns, [spotL ns])] ++ ns.map (kindL (sizeL ns) (spotL ns))
theorem sum_cast (ns : List Nat) : (ns.map fun n : Nat => (n : Int)).sum = (ns.sum : Int) := by
  induction ns with
  | nil => rfl
  | cons n ns ih => rw [List.map_cons, List.sum_cons, List.sum_cons, ih]; (first | lia | omega)
noncomputable def kindsN (ns : List Nat) (i : Nat) : List (Nat × List Nat) := [(sizeL ns, []), (sizeL ns, [spotL ns])] ++ (ns.take i).map (kindL (sizeL ns) (spotL ns))
noncomputable def KJ (ns : List Nat) (i : Nat) (m : Str → Option Value) (nx : List (Addr × Obj)) : Prop :=
  ∃ D n ws rest, nx = (D, listOf (List.toArray ws) n) :: rest ∧ m (Str.ofString "kinds") = some (.ref D) ∧ HasInt m (Str.ofString "size") (sizeL ns : Int) ∧ HasInt m (Str.ofString "spot") (spotL ns : Int) ∧
    All2 (KindG (inL rest)) ws (kindsN ns i) ∧ (∀ p ∈ rest, p.1 ≠ D) ∧ ∀ p ∈ nx, p.2.cls ≠ .type "list_iterator"
theorem KJ.cls {ns : List Nat} {i : Nat} {m : Str → Option Value} {nx : List (Addr × Obj)} (h : KJ ns i m nx) : ∀ p ∈ nx, p.2.cls ≠ .type "list_iterator" := by
  obtain ⟨_, _, _, _, _, _, _, _, _, _, h⟩ := h; exact h
theorem fmod_cast (a b : Nat) : (a : Int).fmod (b : Int) = ((a % b : Nat) : Int) := by
  rw [Int.fmod_eq_emod_of_nonneg _ (Int.natCast_nonneg b)]; exact (Int.natCast_emod a b).symm
theorem fdiv_cast (a b : Nat) : (a : Int).fdiv (b : Int) = ((a / b : Nat) : Int) := by
  rw [Int.fdiv_eq_ediv_of_nonneg _ (Int.natCast_nonneg b)]; exact (Int.natCast_ediv a b).symm
theorem kindsN_len (ns : List Nat) (i : Nat) : (kindsN ns i).length ≤ 2 + ns.length := by
  unfold kindsN; rw [List.length_append, List.length_map, List.length_take]; simp only [List.length_cons, List.length_nil]; (first | lia | omega)
theorem kindsN_snoc {ns : List Nat} {i n : Nat} (h : ns[i]? = some n) : kindsN ns (i + 1) = kindsN ns i ++ [kindL (sizeL ns) (spotL ns) n] := by
  unfold kindsN; rw [take_snoc h, List.map_append, List.append_assoc]; rfl
theorem kind_mk {rest : List (Addr × Obj)} {T B : Addr} {a : Int} {t : Tok} {ws : List Value} {q : Nat × List Nat} (hT : (T, { cls := .type "tuple", data := .seq #[.int a t, .ref B] }) ∈ rest) (hB : (B, listOf ws.toArray 0) ∈ rest) (ha : a = (q.1 : Int)) (hb : IntsAre ws (q.2.map fun n : Nat => (n : Int))) : KindG (inL rest) (.ref T) q :=
  ⟨t, .ref B, ⟨T, _, _, rfl, hT, rfl, by rw [← ha]⟩, ws, ⟨B, _, _, rfl, hB, rfl, rfl⟩, hb⟩
theorem ints_one {a : Int} {t : Tok} {n : Nat} (h : a = (n : Int)) : IntsAre [Value.int a t] ([n].map fun n : Nat => (n : Int)) := by subst h; exact .cons _ _ .nil
theorem size_pos (ns : List Nat) : 60 ≤ sizeL ns := Nat.le_add_right _ _
theorem kind_append {prog : Program} {w : World} {A : Around} {E : Value → Shared → Prop} {s : Shared} {h₀ : Heap} {L : Addr} {m : Str → Option Value} {led rest : List (Addr × Obj)} {D T B I : Addr} {oI : Obj} {ws ws' : List Value} {n0 : Nat} {a : Int} {t : Tok} {q : Nat × List Nat} {Q : Value → Shared → Prop}
    (F : Fr h₀ L s.heap m) (N : News h₀ L s.heap led) (hT : (T, { cls := .type "tuple", data := .seq #[.int a t, .ref B] }) ∈ led) (hB : (B, listOf ws'.toArray 0) ∈ led) (hI : (I, oI) ∈ led) (hD : (D, listOf ws.toArray n0) ∈ led)
    (hrest : ∀ p ∈ rest, p ∈ led) (neT : D < T) (neB : D < B) (hap : ∀ p ∈ rest, p.1 ≠ D) (hIc : oI.cls = .type "list_iterator") (hsz : ws.length ≤ sizeLine) (ha : a = (q.1 : Int)) (hb : IntsAre ws' (q.2.map fun n : Nat => (n : Int)))
    (h : ∀ h' rest', Fr h₀ L h' m → News h₀ L h' ((I, oI) :: (D, listOf (ws ++ [Value.ref T]).toArray (n0 + 1)) :: rest') → (∀ p ∈ rest, p ∈ rest') → (∀ p ∈ rest', p.1 ≠ D) → (∀ p ∈ rest', p ∈ rest ∨ p.2.cls ≠ .type "list_iterator") → KindG (inL rest') (.ref T) q → Q .none { s with heap := h' }) :
    wpAny (model prog w) A (call (.builtin "list.append") [.ref D, .ref T]) Q E s := by
  have hIne : I ≠ D := fun e => by
    have e1 := (N _ hI).1; have e2 := (N _ hD).1
    subst e
    have := Option.some.inj (e2.symm.trans e1)
    dsimp only at this
    rw [← this] at hIc
    exact absurd (show (Value.type "list") = Value.type "list_iterator" from hIc) (by decide)
  refine append_at (N.get hD) (fun h' hs ho' => ?_) (by simpa using hsz)
  have ex : ws.toArray.push (Value.ref T) = (ws ++ [Value.ref T]).toArray := by simp
  rw [ex] at ho'
  refine h h' ((T, { cls := .type "tuple", data := .seq #[.int a t, .ref B] }) :: (B, listOf ws'.toArray 0) :: rest) (F.change hs (N _ hD).2.1 (N _ hD).2.2) (fun p hp => ?_) (fun p hp => List.mem_cons_of_mem _ (List.mem_cons_of_mem _ hp)) (fun p hp => ?_) (fun p hp => ?_) ⟨t, .ref B, ⟨T, _, _, rfl, List.mem_cons_self, rfl, by rw [← ha]⟩, ws', ⟨B, _, _, rfl, List.mem_cons_of_mem _ List.mem_cons_self, rfl, rfl⟩, hb⟩
  · rcases List.mem_cons.mp hp with rfl | hp
    · exact ⟨hs.extBut _ _ hIne (N _ hI).1, (N _ hI).2⟩
    rcases List.mem_cons.mp hp with rfl | hp
    · exact ⟨ho', (N _ hD).2⟩
    rcases List.mem_cons.mp hp with rfl | hp
    · exact ⟨hs.extBut _ _ (Nat.ne_of_gt neT) (N _ hT).1, (N _ hT).2⟩
    rcases List.mem_cons.mp hp with rfl | hp
    · exact ⟨hs.extBut _ _ (Nat.ne_of_gt neB) (N _ hB).1, (N _ hB).2⟩
    · exact ⟨hs.extBut _ _ (hap p hp) (N _ (hrest p hp)).1, (N _ (hrest p hp)).2⟩
  · rcases List.mem_cons.mp hp with rfl | hp
    · exact Nat.ne_of_gt neT
    rcases List.mem_cons.mp hp with rfl | hp
    · exact Nat.ne_of_gt neB
    · exact hap p hp
  · rcases List.mem_cons.mp hp with rfl | hp
    · exact .inr (by show (Value.type "tuple") ≠ _; decide)
    rcases List.mem_cons.mp hp with rfl | hp
    · exact .inr (by show (Value.type "list") ≠ _; decide)
    · exact .inl hp

theorem kinds_con (w : World) (mg mb : Str → Option Value) (a : Addr) (vs : List Value) (ns : List Nat) (hvs : IntsAre vs (ns.map fun n : Nat => (n : Int))) (hn : ns.length ≤ 6) (hb : ∀ n ∈ ns, n < 1000000) :
    Con w mg mb 83 [.ref a] 1 (fun h => h.IsList a vs.toArray) (fun tl r => KindsG (inL tl) r (kindsL ns)) := by
  w_on
  w_top on
  k_with_none
  k_with "exec Assign" => ((fail_if_success (with_reducible show wpAny _ _ _ qk _ _)); refine letQ ?_; intro qk ek; walk_at "exec Assign")
  k_with "exec If" => ((fail_if_success (with_reducible show wpAny _ _ _ qk _ _)); refine letQ ?_; intro qk ek; walk_at "exec If")
  k_with "eval Call" => ((fail_if_success (with_reducible show wpAny _ _ _ qk _ _)); refine letQ ?_; intro qk ek; walk_at "eval Call")
  k_with "eval BinOp" => ((fail_if_success (with_reducible show wpAny _ _ _ qk _ _)); refine letQ ?_; intro qk ek; walk_at "eval BinOp")
  k_with "eval Subscript" => ((fail_if_success (with_reducible show wpAny _ _ _ qk _ _)); refine letQ ?_; intro qk ek; walk_at "eval Subscript")
  k_with "isTrue Compare" => ((fail_if_success (with_reducible show wpAny _ _ _ qk _ _)); refine letQ ?_; intro qk ek; walk_at "isTrue Compare")
  k_with "isTrue BoolOp" => ((fail_if_success (with_reducible show wpAny _ _ _ qk _ _)); refine letQ ?_; intro qk ek; walk_at "isTrue BoolOp")
  k_with "callWith" => ((fail_if_success (with_reducible show wpAny _ _ _ qk _ _)); refine letQ ?_; intro qk ek; walk_at "callWith")
  k_with "eval Compare" => ((fail_if_success (with_reducible show wpAny _ _ _ qk _ _)); refine letQ ?_; intro qk ek; walk_at "eval Compare")
  k_with "eval Call Attribute" => ((fail_if_success (with_reducible show wpAny _ _ _ qk _ _)); refine letQ ?_; intro qk ek; walk_at "eval Call Attribute")
  k_with "exec For Name Name cons nil" => refine stop ?_
  k_with "pyIter ref" => refine stop ?_
  unfold Con
  k_fill
  intro dp un gd fr s Q E vp lo X T hpre hd hu hret
  k_dflt (refine' enter ?k1 ?k2 ?k6 ?k7 ?k8 ?k9 ?kB ?_ ?c2 ?c3 ?c4 ?c5; (case k1 => assumption); (case k2 => assumption); (case k6 => k_is); (case k7 => k_is); (case k8 => first | exact roomA hd | (show dp < recursionLimit; omega)); (case k9 => first | exact BindsTo.of_eq rfl | exact binds_K (by assumption) rfl (by k_is) rfl rfl rfl); (case c5 => decide); (case kB => exact locs rfl); (case c2 => exact rfl); (case c3 => exact rfl); (case c4 => exact rfl); k_whole; intro L' h' F' N'; (try dsimp only); (show wpAny _ _ _ _ _ _); k_fold)
  have hlv := hvs.length
  rw [List.length_map] at hlv
  have h60 := size_pos ns
  have hsum : (ns.map fun n : Nat => (n : Int)).sum = (ns.sum : Int) := sum_cast ns
  have hfm : ((ns.map fun n : Nat => (n : Int)).sum + 80).fmod 140 = (((ns.sum + 80) % 140 : Nat) : Int) := by
    rw [hsum, Int.fmod_eq_emod_of_nonneg _ (by (first | lia | omega))]; (first | lia | omega)
  have hfd : ((ns.map fun n : Nat => (n : Int)).sum).fdiv 140 = ((ns.sum / 140 : Nat) : Int) := by
    rw [hsum, Int.fdiv_eq_ediv_of_nonneg _ (by (first | lia | omega))]; (first | lia | omega)
  k_steps
  refine stopped ?_
  refine For_invV s.heap rfl rfl ?_
  k_steps
  refine stopped ?_
  refine iterListG (KJ ns) rfl hpre (by k_asm) (by k_asm) ?_ (fun i m nx h => KJ.cls h) ?_ ?_
  · have e1 : 60 + ((ns.map fun n : Nat => (n : Int)).sum + 80).fmod 140 = (sizeL ns : Int) := by rw [hfm]; unfold sizeL; (first | lia | omega)
    have e2 : (((ns.map fun n : Nat => (n : Int)).sum.fdiv 140 + 30).fmod (60 + ((ns.map fun n : Nat => (n : Int)).sum + 80).fmod 140)) = (spotL ns : Int) := by
      rw [e1, hfd]; exact fmod_cast (ns.sum / 140 + 30) (sizeL ns)
    all_goals repeat (rename _ ∧ _ => hx9; obtain ⟨_, _⟩ := hx9)
    refine ⟨_, _, [_, _], _, rfl, rfl, HasInt.of rfl e1, HasInt.of rfl e2, .cons (kind_mk (by k_mem) (by k_mem) e1 .nil) (.cons (kind_mk (by k_mem) (by k_mem) e1 (ints_one e2)) .nil), ?_, ?_⟩
    · intro p hp
      iterate 4 (rcases List.mem_cons.mp hp with rfl | hp; exact Nat.ne_of_lt (by assumption))
      cases hp
    · intro p hp
      iterate 5 (rcases List.mem_cons.mp hp with rfl | hp; first | (show (Value.type "list") ≠ _; decide) | (show (Value.type "tuple") ≠ _; decide))
      cases hp
  · intro i v m₁ nx h tk I oI hi hv hJ F N hIc
    obtain ⟨D, n0, ws, rest, rfl, hmk, ⟨ts, hms⟩, ⟨tp, hmp⟩, hws, hap, hcl⟩ := hJ
    obtain ⟨n, hn9, tn, rfl⟩ := ints_get hvs hv
    have F9 := Fr.told (Fr.told (Fr.told F (x := Str.ofString "kinds") hmk) (x := Str.ofString "size") hms) (x := Str.ofString "spot") hmp
    clear F
    have e3 : (n : Int).fmod 3 = ((n % 3 : Nat) : Int) := fmod_cast n 3
    have e4 : (n : Int).fdiv 3 = ((n / 3 : Nat) : Int) := fdiv_cast n 3
    k_steps
    all_goals repeat (rename _ ∧ _ => hx9; obtain ⟨_, _⟩ := hx9)
    · refine kind_append (I := I) (rest := rest) (q := kindL (sizeL ns) (spotL ns) n) (by k_asm) (by k_asm) (by k_mem) (by k_mem) (by k_mem) (by k_mem) (fun p hp => by repeat first | exact hp | refine List.mem_cons_of_mem _ ?_) (by assumption) (by assumption) hap hIc (by rw [hws.length]; have := kindsN_len ns i; rw [sizeLine_eq]; (first | lia | omega)) ?_ ?_ ?_
      · rename ((n : Int).fmod 3 = 2) => hk2
        rw [kindL, if_pos (by (first | lia | omega)), e4]
        exact fmod_cast (n / 3) (sizeL ns + 60)
      · rename ((n : Int).fmod 3 = 2) => hk2
        rw [kindL, if_pos (by (first | lia | omega))]
        exact .nil
      · intro h5 rest' F5 N5 hsub hap' hcl' hKG
        dsimp only
        k_steps
        refine GPost.next _ (by k_asm) (by k_asm) ⟨D, n0 + 1, _, rest', rfl, rfl, ⟨_, rfl⟩, ⟨_, rfl⟩, ?_, hap', fun p hp => ?_⟩
        · rw [kindsN_snoc hn9]
          exact (hws.mono fun _ _ x => x.mono fun _ _ hm => hsub _ hm).snoc hKG
        · rcases List.mem_cons.mp hp with rfl | hp
          · show (Value.type "list") ≠ _; decide
          · rcases hcl' p hp with h1 | h1
            · exact hcl p (List.mem_cons_of_mem _ h1)
            · exact h1
    · refine kind_append (I := I) (rest := rest) (q := kindL (sizeL ns) (spotL ns) n) (by k_asm) (by k_asm) (by k_mem) (by k_mem) (by k_mem) (by k_mem) (fun p hp => by repeat first | exact hp | refine List.mem_cons_of_mem _ ?_) (by assumption) (by assumption) hap hIc (by rw [hws.length]; have := kindsN_len ns i; rw [sizeLine_eq]; (first | lia | omega)) ?_ ?_ ?_
      · rename (¬ ((n : Int).fmod 3 = 2)) => hk2
        rw [kindL, if_neg (by (first | lia | omega))]
      · rename (¬ ((n : Int).fmod 3 = 2)) => hk2
        rename IntsAre _ ([_] ++ _) => hI9
        rw [kindL, if_neg (by (first | lia | omega))]
        rw [e4, e3, fmod_cast, Int.toNat_natCast, List.flatten_replicate_singleton] at hI9
        rw [List.map_cons, List.map_replicate]
        exact hI9
      · intro h5 rest' F5 N5 hsub hap' hcl' hKG
        dsimp only
        k_steps
        refine GPost.next _ (by k_asm) (by k_asm) ⟨D, n0 + 1, _, rest', rfl, rfl, ⟨_, rfl⟩, ⟨_, rfl⟩, ?_, hap', fun p hp => ?_⟩
        · rw [kindsN_snoc hn9]
          exact (hws.mono fun _ _ x => x.mono fun _ _ hm => hsub _ hm).snoc hKG
        · rcases List.mem_cons.mp hp with rfl | hp
          · show (Value.type "list") ≠ _; decide
          · rcases hcl' p hp with h1 | h1
            · exact hcl p (List.mem_cons_of_mem _ h1)
            · exact h1
  · intro m₁ nx h tk hJ F N
    obtain ⟨D, n0, ws, rest, rfl, hmk, ⟨ts, hms⟩, ⟨tp, hmp⟩, hws, hap, hcl⟩ := hJ
    have F9 := Fr.told F (x := Str.ofString "kinds") hmk
    clear F
    k_steps
    all_goals try dsimp only
    refine hret _ _ _ _ (Fr.keep (by k_asm)) (newIn_of (by k_asm)) ⟨ws, ⟨D, _, _, rfl, List.mem_cons_self, rfl, rfl⟩, ?_⟩
    have hz : vs.length = ns.length := hlv
    rw [hz] at hws
    unfold kindsN at hws; rw [List.take_length] at hws
    exact hws.mono fun _ _ x => x.mono fun _ _ hm => List.mem_cons_of_mem _ hm

end Mine
end
section
open PySem PySem.W PySem.Calls PyProof.Rows PyProof
set_option Elab.async false
set_option maxRecDepth 100000
set_option maxHeartbeats 400000
namespace Mine
noncomputable def digs (n : Nat) : List Nat := (Str.ofString (toString (n : Int))).cps.toList
/-- what _shorten gives, by codes -/
noncomputable def shortL (l : List Nat) (p q : Nat) : List Nat := if 12 + p + q < l.length then l.take p ++ [91] ++ digs (l.length - p - q) ++ [32, 99, 104, 97, 114, 115, 93] ++ l.drop (l.length - q) else l
theorem str_len (x : Str) : x.length = x.cps.toList.length := by simp [Str.length]
theorem ofS1 : Str.ofString "[" = S [91] := by decide +kernel
theorem ofS2 : Str.ofString " chars]" = S [32, 99, 104, 97, 114, 115, 93] := by decide +kernel

theorem shorten_con (w : World) (mg mb : Str → Option Value) (x : Str) (p q : Nat) (t u v : Tok) (h1 : p < 1000) (hf1 : q < 1000) (hx : x.length < 1000) :
    Con w mg mb 28 [.str x t, .int (p : Int) u, .int (q : Int) v] 1 (fun h => True) (fun tl r => IsStr r (shortL x.cps.toList p q)) := by
  w_on
  w_top on
  k_with_none
  k_with "exec Assign" => ((fail_if_success (with_reducible show wpAny _ _ _ qk _ _)); refine letQ ?_; intro qk ek; walk_at "exec Assign")
  k_with "exec If" => ((fail_if_success (with_reducible show wpAny _ _ _ qk _ _)); refine letQ ?_; intro qk ek; walk_at "exec If")
  k_with "eval Call" => ((fail_if_success (with_reducible show wpAny _ _ _ qk _ _)); refine letQ ?_; intro qk ek; walk_at "eval Call")
  k_with "eval BinOp" => ((fail_if_success (with_reducible show wpAny _ _ _ qk _ _)); refine letQ ?_; intro qk ek; walk_at "eval BinOp")
  k_with "eval Subscript" => ((fail_if_success (with_reducible show wpAny _ _ _ qk _ _)); refine letQ ?_; intro qk ek; walk_at "eval Subscript")
  k_with "isTrue Compare" => ((fail_if_success (with_reducible show wpAny _ _ _ qk _ _)); refine letQ ?_; intro qk ek; walk_at "isTrue Compare")
  k_with "isTrue BoolOp" => ((fail_if_success (with_reducible show wpAny _ _ _ qk _ _)); refine letQ ?_; intro qk ek; walk_at "isTrue BoolOp")
  k_with "callWith" => ((fail_if_success (with_reducible show wpAny _ _ _ qk _ _)); refine letQ ?_; intro qk ek; walk_at "callWith")
  k_with "eval Compare" => ((fail_if_success (with_reducible show wpAny _ _ _ qk _ _)); refine letQ ?_; intro qk ek; walk_at "eval Compare")
  k_with "eval Call Attribute" => ((fail_if_success (with_reducible show wpAny _ _ _ qk _ _)); refine letQ ?_; intro qk ek; walk_at "eval Call Attribute")
  k_with "binaryOp Mod str ref" => refine stop ?_
  unfold Con
  k_fill
  intro dp un gd fr s Q E vp lo X T hpre hd hu hret
  k_dflt (refine' enter ?k1 ?k2 ?k6 ?k7 ?k8 ?k9 ?kB ?_ ?c2 ?c3 ?c4 ?c5; (case k1 => assumption); (case k2 => assumption); (case k6 => k_is); (case k7 => k_is); (case k8 => first | exact roomA hd | (show dp < recursionLimit; omega)); (case k9 => first | exact BindsTo.of_eq rfl | exact binds_K (by assumption) rfl (by k_is) rfl rfl rfl); (case c5 => decide); (case kB => exact locs rfl); (case c2 => exact rfl); (case c3 => exact rfl); (case c4 => exact rfl); k_whole; intro L' h' F' N'; (try dsimp only); (show wpAny _ _ _ _ _ _); k_fold)
  k_steps
  · refine stopped ?_
    k_dflt (refine' KPt.mod_tuple ?ukptN ?ukptb ?ukptF ?ukptm ?_; (case ukptN => k_asm); (case ukptb => k_mem); (case ukptF => kpt_eq); (case ukptm => (refine fmt_meets _ _ ?ua1 ?ua2 _ ?ua3 ?ua4 _ _ _ _ _; (case ua1 => exact Nat.le_trans (PyProof.Txt.length_slice_le _ _ _) (by (first | lia | omega))); (case ua2 => exact Nat.le_trans (PyProof.Txt.length_slice_le _ _ _) (by (first | lia | omega))); (case ua3 => (first | lia | omega)); (case ua4 => (first | lia | omega)))))
    intro _ _
    k_steps
    try dsimp only
    refine hret _ [] _ _ (Fr.keep (by k_asm)) (fun _ h9 => nomatch h9) (IsStr.of ?_)
    have h9 : (12 : Int) < (x.length : Int) - p - q := by assumption
    have hl := str_len x
    unfold shortL
    rw [if_pos (by (first | lia | omega)), slice_take, ofS1, ofS2]
    have e1 : (x.length : Int) - p - q = ((x.cps.toList.length - p - q : Nat) : Int) := by (first | lia | omega)
    have e2 : (x.length : Int) - q = ((x.cps.toList.length - q : Nat) : Int) := by (first | lia | omega)
    rw [e1, e2, slice_drop, ← S_of (Str.ofString (toString _)), S_append, S_append, S_append, S_append]
    rfl
  · try dsimp only
    refine hret _ [] _ _ (Fr.keep (by k_asm)) (fun _ h9 => nomatch h9) (IsStr.of ?_)
    have h9 : ¬ (12 : Int) < (x.length : Int) - p - q := by assumption
    have hl := str_len x
    unfold shortL
    rw [if_neg (by (first | lia | omega)), S_of]

end Mine
end
section
open PySem PySem.W PySem.Calls PyProof.Rows PyProof
set_option Elab.async false
namespace Mine
noncomputable def qL (l : List Nat) : List Nat := 39 :: (l ++ [39])
theorem sig_lt {i : Nat} (h : i < 338) : sig i < 26 := by unfold sig; split <;> (first | lia | omega)
/-- the place that two signs tell -/
noncomputable def invS (a b : Nat) : Nat := if a < 13 then 26 * a + 2 * (b - 13) else if a = 25 then 2 * (13 * (b - 1) + 12) + 1 else 2 * (13 * b + (a - 13)) + 1
theorem inv_sig : ∀ i : Fin 337, invS (sig i.1) (sig (i.1 + 1)) = i.1 := by decide +kernel
theorem sig_two {i j : Nat} (hi : i < 337) (hj : j < 337) (h1 : sig i = sig j) (h2 : sig (i + 1) = sig (j + 1)) : i = j := by
  have a := inv_sig ⟨i, hi⟩
  have b := inv_sig ⟨j, hj⟩
  dsimp only at a b
  rw [← a, ← b, h1, h2]
/-- the sign of a text at a place -/
noncomputable def chK (sp : List Nat) (i : Nat) : Nat := (if i ∈ sp then 65 else 97) + sig i
theorem chK_sig {sp sp' : List Nat} {i j : Nat} (hi : i < 338) (hj : j < 338) (h : chK sp i = chK sp' j) : sig i = sig j := by
  have := sig_lt hi; have := sig_lt hj
  unfold chK at h
  split at h <;> split at h <;> (first | lia | omega)
theorem chK_mem {sp sp' : List Nat} {i : Nat} : chK sp i = chK sp' i ↔ (i ∈ sp ↔ i ∈ sp') := by
  unfold chK
  by_cases a : i ∈ sp <;> by_cases b : i ∈ sp' <;> simp [a, b]
theorem chK_isL {sp : List Nat} {i : Nat} (hi : i < 338) : isL (chK sp i) = true := by
  have := sig_lt hi
  unfold chK isL
  split <;> simp <;> (first | lia | omega)
/-- the plain text -/
noncomputable def plainL (n : Nat) : List Nat := (List.range n).map fun p => 97 + sig p
noncomputable def textL (N : Nat) (k : Nat × List Nat) : List Nat := capsL ((plainL N).take k.1) k.2
theorem caps_get : ∀ (sp l : List Nat) (i : Nat), (∀ p ∈ sp, p < l.length) → (capsL l sp)[i]? = if i ∈ sp then some (65 + sig i) else l[i]?
  | [], l, i, _ => by simp [capsL]
  | p :: sp, l, i, h => by
    have hp := h p (.head _)
    have e : (l.take p ++ [65 + sig p] ++ l.drop (p + 1)).length = l.length := by
      simp only [List.length_append, List.length_take, List.length_cons, List.length_nil, List.length_drop]; (first | lia | omega)
    show (capsL (l.take p ++ [65 + sig p] ++ l.drop (p + 1)) sp)[i]? = _
    rw [caps_get sp _ i fun q hq => by rw [e]; exact h q (.tail _ hq)]
    by_cases hs : i ∈ sp
    · rw [if_pos hs, if_pos (List.mem_cons_of_mem _ hs)]
    · rw [if_neg hs]
      have hlp : (l.take p).length = p := by rw [List.length_take]; (first | lia | omega)
      by_cases hip : i = p
      · subst hip
        rw [if_pos List.mem_cons_self, List.append_assoc, List.getElem?_append_right (by (first | lia | omega)), hlp]
        simp
      · rw [if_neg (by simp [hip, hs])]
        by_cases hlt : i < p
        · rw [List.append_assoc, List.getElem?_append_left (by (first | lia | omega)), List.getElem?_take_of_lt hlt]
        · rw [List.getElem?_append_right (by rw [List.length_append]; simp only [List.length_cons, List.length_nil]; (first | lia | omega)), List.getElem?_drop]
          congr 1
          rw [List.length_append]; simp only [List.length_cons, List.length_nil]; (first | lia | omega)
theorem plain_len (n : Nat) : (plainL n).length = n := by simp [plainL]
theorem text_len {N : Nat} {k : Nat × List Nat} (h1 : k.1 ≤ N) (h2 : ∀ p ∈ k.2, p < k.1) : (textL N k).length = k.1 := by
  have e : ((plainL N).take k.1).length = k.1 := by rw [List.length_take, plain_len]; (first | lia | omega)
  unfold textL
  rw [capsL_len _ _ fun p hp => by rw [e]; exact h2 p hp, e]
theorem text_get {N : Nat} {k : Nat × List Nat} (h1 : k.1 ≤ N) (h2 : ∀ p ∈ k.2, p < k.1) {i : Nat} (hi : i < k.1) : (textL N k)[i]? = some (chK k.2 i) := by
  have e : ((plainL N).take k.1).length = k.1 := by rw [List.length_take, plain_len]; (first | lia | omega)
  unfold textL
  rw [caps_get _ _ _ fun p hp => by rw [e]; exact h2 p hp]
  unfold chK
  split
  · rfl
  · rw [List.getElem?_take_of_lt hi, plainL, List.getElem?_map, List.getElem?_range (by (first | lia | omega))]; rfl
/-- what all kinds are -/
structure Kd (N : Nat) (k : Nat × List Nat) : Prop where
  le : k.1 ≤ N
  sp : ∀ p ∈ k.2, p < k.1
noncomputable abbrev qT (N : Nat) (k : Nat × List Nat) : List Nat := qL (textL N k)
section
variable {N : Nat} {k k' : Nat × List Nat}
theorem Kd.qlen (h : Kd N k) : (qT N k).length = k.1 + 2 := by
  unfold qT qL
  rw [List.length_cons, List.length_append, text_len h.le h.sp]; rfl
theorem Kd.q0 (_h : Kd N k) : (qT N k)[0]? = some 39 := rfl
theorem Kd.qi (h : Kd N k) {i : Nat} (h1 : 1 ≤ i) (h2 : i ≤ k.1) : (qT N k)[i]? = some (chK k.2 (i - 1)) := by
  obtain ⟨j, rfl⟩ : ∃ j, i = j + 1 := ⟨i - 1, by (first | lia | omega)⟩
  unfold qT qL
  rw [List.getElem?_cons_succ, List.getElem?_append_left (by rw [text_len h.le h.sp]; (first | lia | omega)), text_get h.le h.sp (by (first | lia | omega))]
  rfl
theorem Kd.qe (h : Kd N k) : (qT N k)[k.1 + 1]? = some 39 := by
  unfold qT qL
  rw [List.getElem?_cons_succ, List.getElem?_append_right (by rw [text_len h.le h.sp]; (first | lia | omega)), text_len h.le h.sp]
  simp
theorem Kd.letter (h : Kd N k) (hN : N < 337) {i : Nat} {c : Nat} (hc : (qT N k)[i]? = some c) (hl : c ≠ 39) : 1 ≤ i ∧ i ≤ k.1 ∧ c = chK k.2 (i - 1) := by
  have hi : i < k.1 + 2 := by rw [← h.qlen]; exact (List.getElem?_eq_some_iff.mp hc).1
  have a : i ≠ 0 := fun e => by subst e; rw [h.q0] at hc; exact hl (Option.some.inj hc).symm
  have b : i ≠ k.1 + 1 := fun e => by subst e; rw [h.qe] at hc; exact hl (Option.some.inj hc).symm
  refine ⟨by (first | lia | omega), by (first | lia | omega), ?_⟩
  rw [h.qi (by (first | lia | omega)) (by (first | lia | omega))] at hc
  exact (Option.some.inj hc).symm
theorem chK_ne39 {sp : List Nat} {i : Nat} : chK sp i ≠ 39 := by unfold chK; split <;> (first | lia | omega)
/-- two signs on end tell the place -/
theorem Kd.place (h : Kd N k) (h' : Kd N k') (hN : N < 337) {s x : Nat} (h1 : 1 ≤ s) (h2 : s + 1 ≤ k.1) (e1 : (qT N k')[x]? = (qT N k)[s]?) (e2 : (qT N k')[x + 1]? = (qT N k)[s + 1]?) : x = s := by
  have hle := h.le; have hle' := h'.le
  rw [h.qi h1 (by (first | lia | omega))] at e1
  rw [h.qi (by (first | lia | omega)) h2] at e2
  obtain ⟨a1, a2, a3⟩ := h'.letter hN e1 chK_ne39
  obtain ⟨b1, b2, b3⟩ := h'.letter hN e2 chK_ne39
  have s1 := chK_sig (by (first | lia | omega)) (by (first | lia | omega)) a3
  have s2 := chK_sig (by (first | lia | omega)) (by (first | lia | omega)) b3
  obtain ⟨s, rfl⟩ : ∃ j, s = j + 1 := ⟨s - 1, by (first | lia | omega)⟩
  obtain ⟨x, rfl⟩ : ∃ j, x = j + 1 := ⟨x - 1, by (first | lia | omega)⟩
  simp only [Nat.add_sub_cancel] at s1 s2
  have := sig_two (i := s) (j := x) (by (first | lia | omega)) (by (first | lia | omega)) s1 s2
  (first | lia | omega)
noncomputable def Free (rs : List (Nat × Nat)) (i : Nat) : Prop := ∀ r ∈ rs, ¬ (r.1 ≤ i ∧ i < r.2)
theorem alike_iff (h : Kd N k) (h' : Kd N k') {rs : List (Nat × Nat)} : alikeP k k' rs ↔ k.1 = k'.1 ∧ ∀ i, Free rs i → (qT N k)[i]? = (qT N k')[i]? := by
  unfold alikeP
  constructor
  · rintro ⟨e, a⟩
    refine ⟨e, fun i hf => ?_⟩
    by_cases h0 : i = 0
    · subst h0; rw [h.q0, h'.q0]
    by_cases h1 : i ≤ k.1
    · rw [h.qi (by (first | lia | omega)) h1, h'.qi (by (first | lia | omega)) (by (first | lia | omega))]
      congr 1
      rw [chK_mem]
      by_cases hm : i - 1 ∈ k.2 ++ k'.2
      · rcases a _ hm with b | ⟨r, hr, b⟩
        · exact b
        · rw [show i - 1 + 1 = i by (first | lia | omega)] at b
          exact absurd b (hf r hr)
      · rw [List.mem_append, not_or] at hm
        exact ⟨fun q => absurd q hm.1, fun q => absurd q hm.2⟩
    by_cases h2 : i = k.1 + 1
    · rw [h2, h.qe, e, h'.qe]
    · rw [List.getElem?_eq_none (by rw [h.qlen]; (first | lia | omega)), List.getElem?_eq_none (by rw [h'.qlen]; (first | lia | omega))]
  · rintro ⟨e, a⟩
    refine ⟨e, fun p hp => ?_⟩
    have hlt : p < k.1 := by
      rcases List.mem_append.mp hp with q | q
      · exact h.sp p q
      · rw [e]; exact h'.sp p q
    unfold okP
    by_cases hf : Free rs (p + 1)
    · left
      have := a (p + 1) hf
      rw [h.qi (by (first | lia | omega)) (by (first | lia | omega)), h'.qi (by (first | lia | omega)) (by (first | lia | omega)), Nat.add_sub_cancel] at this
      exact chK_mem.mp (Option.some.inj this)
    · right
      apply Classical.byContradiction
      intro q
      exact hf fun r hr b => q ⟨r, hr, b⟩
end
end Mine
end
section
open PySem PySem.W PySem.Calls PyProof.Rows PyProof
set_option Elab.async false
namespace Mine
/-- the middle of a writing -/
noncomputable def midL (q : List Nat) (a b : Nat) : List Nat := (q.drop a).take (b - a)
theorem mid_get {q : List Nat} {a b i : Nat} : (midL q a b)[i]? = if i < b - a then q[a + i]? else none := by
  unfold midL
  by_cases h : i < b - a
  · rw [if_pos h, List.getElem?_take_of_lt h, List.getElem?_drop]
  · rw [if_neg h, List.getElem?_eq_none]
    rw [List.length_take]; (first | lia | omega)
theorem take_mid_drop (q : List Nat) {a b : Nat} (h : a ≤ b) : q.take a ++ midL q a b ++ q.drop b = q := by
  have e : q.drop b = (q.drop a).drop (b - a) := by rw [List.drop_drop]; congr 1; (first | lia | omega)
  rw [e, midL, List.append_assoc, List.take_append_drop, List.take_append_drop]
theorem take_mid5 (q : List Nat) {a b c d : Nat} (h1 : a ≤ b) (h2 : b ≤ c) (h3 : c ≤ d) : q.take a ++ midL q a b ++ midL q b c ++ midL q c d ++ q.drop d = q := by
  have e1 := take_mid_drop (q.drop a) (a := b - a) (b := d - a) (by (first | lia | omega))
  have e2 := take_mid_drop (q.drop b) (a := c - b) (b := d - b) (by (first | lia | omega))
  have f1 : (q.drop b).drop (d - b) = q.drop d := by rw [List.drop_drop]; congr 1; (first | lia | omega)
  have f2 : midL (q.drop b) (c - b) (d - b) = midL q c d := by
    unfold midL; rw [List.drop_drop, show b + (c - b) = c by (first | lia | omega), show d - b - (c - b) = d - c by (first | lia | omega)]
  have f3 : (q.drop b).take (c - b) = midL q b c := rfl
  rw [f1, f2, f3] at e2
  have e3 := take_mid_drop q h1
  rw [List.append_assoc, List.append_assoc, ← List.append_assoc (midL q b c), e2]
  exact e3
section
variable {N : Nat} {k k' : Nat × List Nat}
theorem ext_get {a b : List Nat} (h : ∀ i : Nat, a[i]? = b[i]?) : a = b := List.ext_getElem? h
theorem take_eq {q q' : List Nat} {x : Nat} (h : ∀ i, i < x → q[i]? = q'[i]?) : q.take x = q'.take x := by
  refine ext_get fun i => ?_
  by_cases hi : i < x
  · rw [List.getElem?_take_of_lt hi, List.getElem?_take_of_lt hi, h i hi]
  · rw [List.getElem?_eq_none (by rw [List.length_take]; (first | lia | omega)), List.getElem?_eq_none (by rw [List.length_take]; (first | lia | omega))]
theorem take_eq' {q q' : List Nat} {x i : Nat} (h : q.take x = q'.take x) (hi : i < x) : q[i]? = q'[i]? := by
  have := congrArg (fun z => z[i]?) h
  simpa [List.getElem?_take_of_lt hi] using this
theorem drop_eq {q q' : List Nat} {y : Nat} (h : ∀ i, y ≤ i → q[i]? = q'[i]?) : q.drop y = q'.drop y := by
  refine ext_get fun i => ?_
  rw [List.getElem?_drop, List.getElem?_drop, h _ (by (first | lia | omega))]
theorem drop_eq' {q q' : List Nat} {y i : Nat} (h : q.drop y = q'.drop y) (hi : y ≤ i) : q[i]? = q'[i]? := by
  have := congrArg (fun z => z[i - y]?) h
  simp only [List.getElem?_drop] at this
  rwa [show y + (i - y) = i by (first | lia | omega)] at this
theorem mid_eq {q q' : List Nat} {x y : Nat} (h : ∀ i, x ≤ i → i < y → q[i]? = q'[i]?) : midL q x y = midL q' x y := by
  refine ext_get fun i => ?_
  rw [mid_get, mid_get]
  split
  · exact h _ (by (first | lia | omega)) (by (first | lia | omega))
  · rfl
theorem mid_eq' {q q' : List Nat} {x y i : Nat} (h : midL q x y = midL q' x y) (h1 : x ≤ i) (h2 : i < y) : q[i]? = q'[i]? := by
  have := congrArg (fun z => z[i - x]?) h
  simp only [mid_get] at this
  rw [if_pos (by (first | lia | omega)), if_pos (by (first | lia | omega)), show x + (i - x) = i by (first | lia | omega)] at this
  exact this
/-- a tail of one writing at a tail's place of another: it is the same place -/
theorem Kd.tail (h : Kd N k) (h' : Kd N k') (hN : N < 337) {u : List Nat} {y : Nat} (h1 : 1 ≤ y) (h2 : y + 1 ≤ k.1) (e : qT N k' = u ++ (qT N k).drop y) : u.length = y ∧ k'.1 = k.1 := by
  have g : ∀ i, (qT N k')[u.length + i]? = (qT N k)[y + i]? := fun i => by
    rw [e, List.getElem?_append_right (by (first | lia | omega)), List.getElem?_drop]
    congr 1; (first | lia | omega)
  have e1 := h.place h' hN h1 h2 (g 0) (g 1)
  refine ⟨e1, ?_⟩
  have el := congrArg List.length e
  rw [List.length_append, List.length_drop, h.qlen, h'.qlen] at el
  (first | lia | omega)
theorem Kd.match1 (h : Kd N k) (h' : Kd N k') : alikeP k k' [] ↔ qT N k = qT N k' := by
  rw [alike_iff h h']
  constructor
  · rintro ⟨_, a⟩
    exact ext_get fun i => a i fun r hr => nomatch hr
  · intro e
    refine ⟨?_, fun i _ => by rw [e]⟩
    have := congrArg List.length e
    rw [h.qlen, h'.qlen] at this
    (first | lia | omega)
theorem Kd.match2 (h : Kd N k) (h' : Kd N k') (hN : N < 337) {x y : Nat} (hx : x ≤ y) (h1 : 1 ≤ y) (h2 : y + 1 ≤ k.1) : (∃ z, qT N k' = (qT N k).take x ++ z ++ (qT N k).drop y) ↔ alikeP k k' [(x, y)] := by
  rw [alike_iff h h']
  constructor
  · rintro ⟨z, e⟩
    obtain ⟨e1, e2⟩ := h.tail h' hN h1 h2 e
    refine ⟨e2.symm, fun i hf => ?_⟩
    have hf := hf _ (List.mem_singleton.mpr rfl)
    dsimp only at hf
    by_cases hi : i < x
    · rw [e, List.append_assoc, List.getElem?_append_left (by rw [List.length_take, h.qlen]; (first | lia | omega)), List.getElem?_take_of_lt hi]
    · rw [e, List.getElem?_append_right (by (first | lia | omega)), List.getElem?_drop]
      congr 1; (first | lia | omega)
  · rintro ⟨e, a⟩
    refine ⟨midL (qT N k') x y, ?_⟩
    have e1 : (qT N k).take x = (qT N k').take x := take_eq fun i hi => a i fun r hr => by rw [List.mem_singleton.mp hr]; dsimp only; (first | lia | omega)
    have e2 : (qT N k).drop y = (qT N k').drop y := drop_eq fun i hi => a i fun r hr => by rw [List.mem_singleton.mp hr]; dsimp only; (first | lia | omega)
    rw [e1, e2, take_mid_drop _ hx]
theorem Kd.match3 (h : Kd N k) (h' : Kd N k') (hN : N < 337) {x y x' y' : Nat} (hx : x ≤ y) (h1 : 1 ≤ y) (h3 : y + 1 < x') (h4 : x' ≤ y') (h2 : y' + 1 ≤ k.1) :
    (∃ z z', qT N k' = (qT N k).take x ++ z ++ midL (qT N k) y x' ++ z' ++ (qT N k).drop y') ↔ alikeP k k' [(x, y), (x', y')] := by
  rw [alike_iff h h']
  constructor
  · rintro ⟨z, z', e⟩
    obtain ⟨e1, e2⟩ := h.tail h' hN (by (first | lia | omega)) h2 e
    have g : ∀ i, i < x' - y → (qT N k')[((qT N k).take x ++ z).length + i]? = (qT N k)[y + i]? := fun i hi => by
      have hm : (midL (qT N k) y x').length = x' - y := by unfold midL; rw [List.length_take, List.length_drop, h.qlen]; (first | lia | omega)
      rw [e, List.append_assoc, List.append_assoc, List.getElem?_append_right (by (first | lia | omega)), List.getElem?_append_left (by (first | lia | omega)), mid_get, if_pos (by (first | lia | omega))]
      congr 1; (first | lia | omega)
    have e3 : ((qT N k).take x ++ z).length = y := h.place h' hN h1 (by (first | lia | omega)) (g 0 (by (first | lia | omega))) (g 1 (by (first | lia | omega)))
    refine ⟨e2.symm, fun i hf => ?_⟩
    have hf1 := hf (x, y) (by simp)
    have hf2 := hf (x', y') (by simp)
    dsimp only at hf1 hf2
    by_cases hi : i < x
    · rw [e, List.append_assoc, List.append_assoc, List.append_assoc, List.getElem?_append_left (by rw [List.length_take, h.qlen]; (first | lia | omega)), List.getElem?_take_of_lt hi]
    · by_cases hi2 : i < x'
      · have := g (i - y) (by (first | lia | omega))
        rw [e3, show y + (i - y) = i by (first | lia | omega)] at this
        exact this.symm
      · rw [e, List.getElem?_append_right (by (first | lia | omega)), List.getElem?_drop]
        congr 1; (first | lia | omega)
  · rintro ⟨e, a⟩
    refine ⟨midL (qT N k') x y, midL (qT N k') x' y', ?_⟩
    have fr : ∀ i, (i < x ∨ (y ≤ i ∧ i < x') ∨ y' ≤ i) → Free [(x, y), (x', y')] i := fun i hi r hr => by
      simp only [List.mem_cons, List.not_mem_nil, or_false] at hr
      rcases hr with rfl | rfl <;> dsimp only <;> (first | lia | omega)
    have e1 : (qT N k).take x = (qT N k').take x := take_eq fun i hi => a i (fr i (by (first | lia | omega)))
    have e2 : (qT N k).drop y' = (qT N k').drop y' := drop_eq fun i hi => a i (fr i (by (first | lia | omega)))
    have e3 : midL (qT N k) y x' = midL (qT N k') y x' := mid_eq fun i hi hi2 => a i (fr i (by (first | lia | omega)))
    rw [e1, e2, e3, take_mid5 _ hx (by (first | lia | omega)) h4]
/-- the parts that are shown -/
noncomputable def partsK (q : List Nat) : List (Nat × Nat) → List (List Nat)
  | [] => [q]
  | [(x, y)] => [q.take x, q.drop y]
  | (x, y) :: (x', y') :: _ => [q.take x, midL q y x', q.drop y']
/-- runs that may stand for a writing of k.1 + 2 signs -/
noncomputable def GoodR (n : Nat) : List (Nat × Nat) → Prop
  | [] => True
  | [(x, y)] => 1 ≤ x ∧ x ≤ y ∧ y + 1 ≤ n
  | [(x, y), (x', y')] => 1 ≤ x ∧ x ≤ y ∧ y + 1 < x' ∧ x' ≤ y' ∧ y' + 1 ≤ n
  | _ => False
/-- equal parts: alike -/
theorem Kd.parts_eq (h : Kd N k) (h' : Kd N k') {rs : Nat → List (Nat × Nat)} (g : GoodR k.1 (rs k.1)) :
    (k.1 = k'.1 ∧ partsK (qT N k) (rs k.1) = partsK (qT N k') (rs k'.1)) ↔ alikeP k k' (rs k.1) := by
  rw [alike_iff h h']
  constructor
  · rintro ⟨e, a⟩
    refine ⟨e, ?_⟩
    rw [← e] at a
    generalize rs k.1 = rr at a g
    match rr, g with
    | [], _ =>
      simp only [partsK, List.cons.injEq, and_true] at a
      intro i _; rw [a]
    | [(x, y)], g =>
      simp only [partsK, List.cons.injEq, and_true] at a
      intro i hf
      have hf := hf _ (List.mem_singleton.mpr rfl)
      dsimp only at hf
      by_cases hi : i < x
      · exact take_eq' a.1 hi
      · exact drop_eq' a.2 (by (first | lia | omega))
    | [(x, y), (x', y')], g =>
      simp only [partsK, List.cons.injEq, and_true] at a
      intro i hf
      have hf1 := hf (x, y) (by simp)
      have hf2 := hf (x', y') (by simp)
      dsimp only at hf1 hf2
      by_cases hi : i < x
      · exact take_eq' a.1 hi
      · by_cases hi2 : i < x'
        · exact mid_eq' a.2.1 (by (first | lia | omega)) hi2
        · exact drop_eq' a.2.2 (by (first | lia | omega))
  · rintro ⟨e, a⟩
    refine ⟨e, ?_⟩
    rw [← e]
    generalize rs k.1 = rr at a g
    match rr, g with
    | [], _ =>
      have : qT N k = qT N k' := ext_get fun i => a i fun r hr => nomatch hr
      rw [this]
    | [(x, y)], g =>
      have e1 : (qT N k).take x = (qT N k').take x := take_eq fun i hi => a i fun r hr => by rw [List.mem_singleton.mp hr]; dsimp only; (first | lia | omega)
      have e2 : (qT N k).drop y = (qT N k').drop y := drop_eq fun i hi => a i fun r hr => by rw [List.mem_singleton.mp hr]; dsimp only; (first | lia | omega)
      simp only [partsK, e1, e2]
    | [(x, y), (x', y')], g =>
      obtain ⟨g1, g2, g3, g4, g5⟩ := g
      have fr : ∀ i, (i < x ∨ (y ≤ i ∧ i < x') ∨ y' ≤ i) → Free [(x, y), (x', y')] i := fun i hi r hr => by
        simp only [List.mem_cons, List.not_mem_nil, or_false] at hr
        rcases hr with rfl | rfl <;> dsimp only <;> (first | lia | omega)
      have e1 : (qT N k).take x = (qT N k').take x := take_eq fun i hi => a i (fr i (by (first | lia | omega)))
      have e2 : (qT N k).drop y' = (qT N k').drop y' := drop_eq fun i hi => a i (fr i (by (first | lia | omega)))
      have e3 : midL (qT N k) y x' = midL (qT N k') y x' := mid_eq fun i hi hi2 => a i (fr i (by (first | lia | omega)))
      simp only [partsK, e1, e2, e3]
/-- equal parts have equal lengths -/
theorem Kd.parts_len (h : Kd N k) (h' : Kd N k') (hN : N < 337) {r r' : List (Nat × Nat)} (g : GoodR k.1 r) (g' : GoodR k'.1 r') (e : partsK (qT N k) r = partsK (qT N k') r') : k.1 = k'.1 := by
  have tl : ∀ {y y' : Nat}, 1 ≤ y → y + 1 ≤ k.1 → y' + 1 ≤ k'.1 → (qT N k).drop y = (qT N k').drop y' → k.1 = k'.1 := fun {y y'} a b c q => by
    have e1 : qT N k' = (qT N k').take y' ++ (qT N k).drop y := by rw [q, List.take_append_drop]
    exact (h.tail h' hN a b e1).2.symm
  match r, r', g, g' with
  | [], [], _, _ =>
    simp only [partsK, List.cons.injEq, and_true] at e
    have := congrArg List.length e
    rw [h.qlen, h'.qlen] at this; (first | lia | omega)
  | [(x, y)], [(x2, y2)], g, g' =>
    simp only [partsK, List.cons.injEq, and_true] at e
    exact tl (by have := g.1; have := g.2.1; (first | lia | omega)) g.2.2 g'.2.2 e.2
  | [(x, y), (x', y')], [(x2, y2), (x2', y2')], g, g' =>
    simp only [partsK, List.cons.injEq, and_true] at e
    obtain ⟨g1, g2, g3, g4, g5⟩ := g
    exact tl (by (first | lia | omega)) g5 g'.2.2.2.2 e.2.2
  | [], [(_, _)], _, _ => simp [partsK] at e
  | [], [(_, _), (_, _)], _, _ => simp [partsK] at e
  | [(_, _)], [], _, _ => simp [partsK] at e
  | [(_, _)], [(_, _), (_, _)], _, _ => simp [partsK] at e
  | [(_, _), (_, _)], [], _, _ => simp [partsK] at e
  | [(_, _), (_, _)], [(_, _)], _, _ => simp [partsK] at e
end
end Mine
end
section
open PySem PySem.W PySem.Calls PyProof.Rows PyProof
set_option Elab.async false
namespace Mine
/-- "n chars" -/
noncomputable def holeL (n : Nat) : List Nat := [91] ++ digs n ++ [32, 99, 104, 97, 114, 115, 93]
/-- an answer -/
noncomputable def cutL (q : List Nat) : List (Nat × Nat) → List Nat
  | [] => q
  | [(x, y)] => q.take x ++ holeL (y - x) ++ q.drop y
  | (x, y) :: (x', y') :: _ => q.take x ++ holeL (y - x) ++ midL q y x' ++ holeL (y' - x') ++ q.drop y'
/-- all that the kinds are -/
structure Ks (N size : Nat) (ks : List (Nat × List Nat)) : Prop where
  kd : ∀ k ∈ ks, Kd N k
  hN : N < 337
  top : ∃ k ∈ ks, k.1 = N
  first : (size, []) ∈ ks
  two : ∀ k ∈ ks, k.1 = size ∨ k.2 = []
  spot : ∃ k ∈ ks, k.2 ≠ []
section
variable {N size sh : Nat} {ks : List (Nat × List Nat)} {k : Nat × List Nat}
theorem mem_ends {y : Nat} : y ∈ endsL size ks ↔ ∃ k ∈ ks, k.1 ≠ size ∧ y = min k.1 size + 1 := by
  unfold endsL
  simp only [List.mem_map, List.mem_filter, bne_iff_ne]
  constructor
  · rintro ⟨k, ⟨a, b⟩, rfl⟩; exact ⟨k, a, b, rfl⟩
  · rintro ⟨k, a, b, rfl⟩; exact ⟨k, ⟨a, b⟩, rfl⟩
theorem mem_spots {y : Nat} : y ∈ spotsL ks ↔ ∃ k ∈ ks, ∃ p ∈ k.2, y = p + 1 := by
  unfold spotsL
  simp only [List.mem_flatMap, List.mem_map]
  constructor
  · rintro ⟨k, a, p, b, rfl⟩; exact ⟨k, a, p, b, rfl⟩
  · rintro ⟨k, a, p, b, rfl⟩; exact ⟨k, a, p, b, rfl⟩
structure Sh (size sh : Nat) (ks : List (Nat × List Nat)) : Prop where
  mem : sh ∈ endsL size ks ++ spotsL ks
  least : ∀ y ∈ endsL size ks ++ spotsL ks, sh ≤ y
theorem Sh.le (K : Ks N size ks) (H : Sh size sh ks) : 1 ≤ sh ∧ sh ≤ size := by
  constructor
  · rcases List.mem_append.mp H.mem with h | h
    · obtain ⟨_, _, _, rfl⟩ := mem_ends.mp h; (first | lia | omega)
    · obtain ⟨_, _, _, _, rfl⟩ := mem_spots.mp h; (first | lia | omega)
  · obtain ⟨k, hk, hs⟩ := K.spot
    obtain ⟨p, hp⟩ := List.exists_mem_of_ne_nil _ hs
    have h1 := H.least (p + 1) (List.mem_append_right _ (mem_spots.mpr ⟨k, hk, p, hp, rfl⟩))
    have h2 := (K.kd k hk).sp p hp
    rcases K.two k hk with e | e
    · (first | lia | omega)
    · rw [e] at hp; cases hp
theorem Sh.le_k (K : Ks N size ks) (H : Sh size sh ks) (hk : k ∈ ks) : sh ≤ k.1 + 1 := by
  by_cases e : k.1 = size
  · have := (H.le K).2; (first | lia | omega)
  · have := H.least _ (List.mem_append_left _ (mem_ends.mpr ⟨k, hk, e, rfl⟩))
    (first | lia | omega)
theorem Sh.same (K : Ks N size ks) (H : Sh size sh ks) (hk : k ∈ ks) {i : Nat} (hi : i < sh) : (qT N k)[i]? = (qT N (size, []))[i]? := by
  have hd := K.kd k hk
  have hd0 := K.kd _ K.first
  by_cases h0 : i = 0
  · subst h0; rw [hd.q0, hd0.q0]
  have := (H.le K).2
  have := H.le_k K hk
  rw [hd.qi (by (first | lia | omega)) (by (first | lia | omega)), hd0.qi (by (first | lia | omega)) (by show i ≤ size; (first | lia | omega))]
  congr 1
  rw [chK_mem]
  refine ⟨fun hm => ?_, fun hm => nomatch hm⟩
  have := H.least (i - 1 + 1) (List.mem_append_right _ (mem_spots.mpr ⟨k, hk, _, hm, rfl⟩))
  (first | lia | omega)
theorem pre_take {p l : List Nat} (h : p <+: l) {n : Nat} (e : p.length = n) : p = l.take n := by
  subst e; exact List.prefix_iff_eq_take.mp h
/-- the common beginning is as long as told -/
theorem Sh.prefix (K : Ks N size ks) (H : Sh size sh ks) {p : List Nat} (h1 : ∀ k ∈ ks, p <+: qT N k) (h2 : ∀ q, (∀ k ∈ ks, q <+: qT N k) → q <+: p) : p.length = sh := by
  have hd0 := K.kd _ K.first
  have hs := H.le K
  have hlt : ((qT N (size, [])).take sh).length = sh := by rw [List.length_take, hd0.qlen]; dsimp only; (first | lia | omega)
  have a : sh ≤ p.length := by
    have := h2 ((qT N (size, [])).take sh) fun k hk => by
      rw [← take_eq fun i hi => H.same K hk hi]
      exact List.take_prefix _ _
    have := this.length_le
    (first | lia | omega)
  have b : ¬ sh < p.length := by
    intro hlt
    have key : ∀ k ∈ ks, (qT N k)[sh]? = (qT N (size, []))[sh]? := fun k hk => by
      have e1 := List.prefix_iff_eq_take.mp (h1 k hk)
      have e2 := List.prefix_iff_eq_take.mp (h1 _ K.first)
      exact take_eq' (x := p.length) (by rw [← e1, ← e2]) hlt
    rcases List.mem_append.mp H.mem with h | h
    · obtain ⟨k, hk, hne, e⟩ := mem_ends.mp h
      have hd := K.kd k hk
      have := key k hk
      by_cases hl : k.1 < size
      · rw [show sh = k.1 + 1 by (first | lia | omega), hd.qe, hd0.qi (by (first | lia | omega)) (by show k.1 + 1 ≤ size; (first | lia | omega))] at this
        exact absurd (Option.some.inj this).symm chK_ne39
      · (first | lia | omega)
    · obtain ⟨k, hk, q, hq, e⟩ := mem_spots.mp h
      have hd := K.kd k hk
      have := key k hk
      have hqs := hd.sp q hq
      rw [e, hd.qi (by (first | lia | omega)) (by (first | lia | omega)), hd0.qi (by (first | lia | omega)) (by show q + 1 ≤ size; (first | lia | omega)), Nat.add_sub_cancel] at this
      exact absurd ((chK_mem.mp (Option.some.inj this)).mp hq) (fun hm => nomatch hm)
  (first | lia | omega)
noncomputable abbrev runsK (N sh n : Nat) : List (Nat × Nat) := runsL (n + 2) (N + 2) sh
theorem goodR (K : Ks N size ks) (H : Sh size sh ks) (hk : k ∈ ks) : GoodR k.1 (runsK N sh k.1) := by
  have h1 := H.le K
  have h2 := H.le_k K hk
  have h3 := (K.kd k hk).le
  unfold runsK runsL
  split
  · trivial
  · split
    · exact ⟨by (first | lia | omega), by (first | lia | omega), by (first | lia | omega)⟩
    · by_cases a : 22 < sh
      · rw [if_pos a]
        by_cases b : sh + 58 < k.1 + 2
        · rw [if_pos b]
          exact ⟨by (first | lia | omega), by (first | lia | omega), by (first | lia | omega), by (first | lia | omega), by (first | lia | omega)⟩
        · rw [if_neg b]
          exact ⟨by (first | lia | omega), by (first | lia | omega), by (first | lia | omega)⟩
      · rw [if_neg a]
        by_cases b : sh + 58 < k.1 + 2
        · rw [if_pos b]
          exact ⟨by (first | lia | omega), by (first | lia | omega), by (first | lia | omega)⟩
        · rw [if_neg b]
          trivial
/-- what _common_shorten_repr gives for one writing -/
noncomputable def ansL (mx : Nat) (p r : List Nat) : List Nat :=
  if mx ≤ 80 then r else if mx < p.length + 58 then shortL p 5 (63 + p.length - mx) ++ r.drop p.length else shortL p 5 5 ++ shortL (r.drop p.length) 41 5
theorem shortL_long {l : List Nat} {a b : Nat} (h : 12 + a + b < l.length) : shortL l a b = l.take a ++ holeL (l.length - a - b) ++ l.drop (l.length - b) := by
  unfold shortL holeL
  rw [if_pos h]
  simp only [List.append_assoc]
theorem shortL_short {l : List Nat} {a b : Nat} (h : ¬ 12 + a + b < l.length) : shortL l a b = l := by
  unfold shortL; rw [if_neg h]
theorem drop_take_mid (q : List Nat) (a b : Nat) : (q.take b).drop a = midL q a b := by
  unfold midL; rw [List.drop_take]
theorem ans_cut (K : Ks N size ks) (H : Sh size sh ks) (hk : k ∈ ks) : ansL (N + 2) ((qT N k).take sh) (qT N k) = cutL (qT N k) (runsK N sh k.1) := by
  have h1 := H.le K
  have h2 := H.le_k K hk
  have h3 := (K.kd k hk).le
  have hq := (K.kd k hk).qlen
  generalize qT N k = q at hq
  have hl : (q.take sh).length = sh := by rw [List.length_take]; (first | lia | omega)
  have hd : (q.drop sh).length = k.1 + 2 - sh := by rw [List.length_drop]; (first | lia | omega)
  unfold ansL runsK runsL
  rw [hl]
  by_cases c1 : N + 2 ≤ 80
  · rw [if_pos c1, if_pos c1]; rfl
  rw [if_neg c1, if_neg c1]
  by_cases c2 : N + 2 < sh + 58
  · rw [if_pos c2, if_pos c2, shortL_long (by rw [hl]; (first | lia | omega)), hl]
    have e1 : sh - (63 + sh - (N + 2)) = N + 2 - 63 := by (first | lia | omega)
    have e2 : sh - 5 - (63 + sh - (N + 2)) = N + 2 - 63 - 5 := by (first | lia | omega)
    have e3 : (q.take sh).drop (N + 2 - 63) ++ q.drop sh = q.drop (N + 2 - 63) := by
      rw [drop_take_mid]
      have := take_mid_drop q (a := N + 2 - 63) (b := sh) (by (first | lia | omega))
      have t := List.take_append_drop (N + 2 - 63) q
      rw [List.append_assoc] at this
      exact List.append_cancel_left (this.trans t.symm)
    rw [e1, e2, List.append_assoc, e3, List.take_take, show min 5 sh = 5 by (first | lia | omega)]
    rfl
  rw [if_neg c2, if_neg c2]
  by_cases c3 : 22 < sh
  · rw [if_pos c3, shortL_long (by rw [hl]; (first | lia | omega)), hl, List.take_take, show min 5 sh = 5 by (first | lia | omega), drop_take_mid]
    by_cases c4 : sh + 58 < k.1 + 2
    · rw [if_pos c4, shortL_long (by rw [hd]; (first | lia | omega)), hd, List.drop_drop]
      show _ = q.take 5 ++ holeL (sh - 5 - 5) ++ midL q (sh - 5) (sh + 41) ++ holeL (k.1 + 2 - 5 - (sh + 41)) ++ q.drop (k.1 + 2 - 5)
      have e1 : k.1 + 2 - sh - 41 - 5 = k.1 + 2 - 5 - (sh + 41) := by (first | lia | omega)
      have e2 : sh + (k.1 + 2 - sh - 5) = k.1 + 2 - 5 := by (first | lia | omega)
      have e3 : midL q (sh - 5) sh ++ (q.drop sh).take 41 = midL q (sh - 5) (sh + 41) := by
        unfold midL
        rw [show sh + 41 - (sh - 5) = (sh - (sh - 5)) + 41 by (first | lia | omega), List.take_add, List.drop_drop, show sh - 5 + (sh - (sh - 5)) = sh by (first | lia | omega)]
      rw [e1, e2, ← e3]
      simp only [List.append_assoc]
    · rw [if_neg c4, shortL_short (by rw [hd]; (first | lia | omega)), List.append_assoc, List.append_assoc]
      show _ = q.take 5 ++ holeL (sh - 5 - 5) ++ q.drop (sh - 5)
      have e3 : midL q (sh - 5) sh ++ q.drop sh = q.drop (sh - 5) := by
        have := take_mid_drop q (a := sh - 5) (b := sh) (by (first | lia | omega))
        have t := List.take_append_drop (sh - 5) q
        rw [List.append_assoc] at this
        exact List.append_cancel_left (this.trans t.symm)
      rw [e3, List.append_assoc]
  · rw [if_neg c3, shortL_short (by rw [hl]; (first | lia | omega))]
    by_cases c4 : sh + 58 < k.1 + 2
    · rw [if_pos c4, shortL_long (by rw [hd]; (first | lia | omega)), hd, List.drop_drop]
      show _ = q.take (sh + 41) ++ holeL (k.1 + 2 - 5 - (sh + 41)) ++ q.drop (k.1 + 2 - 5)
      have e1 : k.1 + 2 - sh - 41 - 5 = k.1 + 2 - 5 - (sh + 41) := by (first | lia | omega)
      have e2 : sh + (k.1 + 2 - sh - 5) = k.1 + 2 - 5 := by (first | lia | omega)
      rw [e1, e2, List.take_add]
      simp only [List.append_assoc]
    · rw [if_neg c4, shortL_short (by rw [hd]; (first | lia | omega)), List.take_append_drop]
      rfl
end
end Mine
end
section
open PySem PySem.W PySem.Calls PyProof.Rows PyProof
set_option Elab.async false
set_option maxRecDepth 100000
namespace Mine
theorem kept_keeps (h₀ : Heap) : KeptH (Keeps h₀) := fun _ _ k b o e => Heap.get?_push_of_some _ (k b o e)
section
variable {prog : Program} {w : World} {A : Around} {E : Value → Shared → Prop} {s : Shared} {value slice : Expr} {x : Str} {t : Tok} {h₀ : Heap} {L : Addr} {m : Str → Option Value} {Q : Value → Shared → Prop}
/-- a text's end, all kept -/
theorem slice_keep {i : Int} {ui : Tok} (hF : Fr h₀ L s.heap m) (h : ∀ h' t' k, Keeps s.heap h' → Fr h₀ L h' m → Q (.str (Txt.slice x (some i) none) t') { s with heap := h', toks := k })
    (hs : subscripted slice false (.str x t) (.ref s.heap.objs.size) = operate [.ref s.heap.objs.size, .str x t] (getItem (.str x t) (.ref s.heap.objs.size)))
    (ht : ∀ r, letTemporaryGo value (.str x t) r = pure ()) (hsz : x.length ≤ sizeLine) :
    wpAny (model prog w) A (subscriptTail value slice (.str x t) (.ref s.heap.objs.size)) Q E { s with heap := s.heap.push { cls := .type "slice", data := .fields #[.int i ui, .none, .none] } } :=
  tail_of_ItemOn (SBH.sliceItem_sn (kept_keeps s.heap) (Keeps.refl _) (fun h' t' k a => h h' t' k a (hF.keeps a)) hsz) hs ht
end
theorem digs_all : ∀ n : Fin 1000, (digs n.1).length ≤ 3 ∧ (digs n.1).all (fun c => decide (48 ≤ c) && decide (c ≤ 57)) = true ∧ digs n.1 ≠ [] := by decide +kernel
theorem digs_len {n : Nat} (h : n < 1000) : (digs n).length ≤ 3 := (digs_all ⟨n, h⟩).1
theorem digs_mem {n : Nat} (h : n < 1000) {c : Nat} (hc : c ∈ digs n) : 48 ≤ c ∧ c ≤ 57 := by
  have := List.all_eq_true.mp (digs_all ⟨n, h⟩).2.1 c hc
  simpa using this
theorem shortL_len {l : List Nat} {a b : Nat} (h : l.length < 1000) : (shortL l a b).length ≤ l.length + 20 := by
  unfold shortL
  split
  · have := digs_len (n := l.length - a - b) (by (first | lia | omega))
    simp only [List.length_append, List.length_take, List.length_drop, List.length_cons, List.length_nil]
    (first | lia | omega)
  · (first | lia | omega)
end Mine
end
section
open PySem PySem.W PySem.Calls PyProof.Rows PyProof
set_option Elab.async false
set_option maxRecDepth 100000
namespace Mine
theorem classed (w : World) : kb_classed (hk w.params) = true := by with_unfolding_all rfl
theorem regrown_self {g₁ g : Heap} {c P : Addr} {ps ps' : Array Value} (B : Based g₁ g c P ps) : (regrown g P ps').get? P = some { cls := .none, data := .fields ps' } := Heap.get?_update_self _ B.tab.2 rfl
theorem tuple_end {prog : Program} {w : World} {A : Around} {E : Value → Shared → Prop} {g₁ g h7 : Heap} {c P L a : Addr} {ps : Array Value} {m : Str → Option Value} {news : List (Addr × Obj)} {s5 : Shared} {n : Nat} {F : Nat → Value → Prop} {Q : Value → Shared → Prop}
    (B : Based g g c P #[]) (kp : Keeps g₁ g) (F7 : Fr g L h7 m) (N7 : News g L h7 news) (F5 : Fr (regrown g P ps) L s5.heap m) (G5 : AllBare s5.gens) (hk5 : ∀ b o, b ≠ P → h7.get? b = some o → s5.heap.get? b = some o) (X5 : Gen prog w A (h7.objs.size - 1) a n F s5) (hn : n ≤ sizeLine)
    (h : ∀ s' (D : Addr) acc, KeepsP P g₁ s'.heap → (∃ ps, s'.heap.get? P = some { cls := .none, data := .fields ps }) → NewIn g₁ s'.heap ((D, { cls := .type "tuple", data := .seq acc }) :: news) → AllBare s'.gens → s'.os = s5.os → ItemsOf F acc n → Q (.ref D) s') :
    wpAny (model prog w) A (call (.type "tuple") [.ref a]) Q E s5 := by
  have hsz := F7.ns.lt
  refine tuple_gen_N F5 (news_regrown B N7 hk5) G5 X5 (Nat.le_sub_one_of_lt hsz) ?_ ?_ hn ?_
  · intro b o e
    have : b < h7.objs.size := by
      by_cases hb : b = P
      · rw [hb]; exact Heap.lt_size (F7.keep _ _ B.tab.2)
      · exact Heap.lt_size (F7.keep _ _ ((regrown_other hb).symm.trans e))
    exact Nat.le_sub_one_of_lt this
  · intro p hp
    exact Nat.le_sub_one_of_lt (Heap.lt_size (N7 p hp).1)
  · intro s' D acc F' N' G' hos _ hacc
    exact h s' D acc (keepsP_of kp F') ⟨ps, F'.keep _ _ (regrown_self B)⟩ (newIn_regrown B kp N') G' hos hacc
theorem all2_of {α β : Type} {R : α → β → Prop} : ∀ {as : List α} {bs : List β}, as.length = bs.length → (∀ (i : Nat) a b, as[i]? = some a → bs[i]? = some b → R a b) → All2 R as bs
  | [], [], _, _ => .nil
  | a :: as, b :: bs, hl, h => .cons (h 0 a b rfl rfl) (all2_of (by simpa using hl) fun i x y hx hy => h (i + 1) x y hx hy)
theorem strs_of_items {n : Nat} {ls : List (List Nat)} {acc : Array Value} {f : List Nat → List Nat} (hl : n = ls.length) (h : ItemsOf (fun i v => IsStr v (f (ls.getD i []))) acc n) : All2 IsStr acc.toList (ls.map f) := by
  obtain ⟨h1, h2⟩ := h
  rw [hl] at h1
  refine all2_of (by rw [Array.length_toList, h1, List.length_map]) fun i a b ha hb => ?_
  rw [List.getElem?_map] at hb
  obtain ⟨l, hl, rfl⟩ := Option.map_eq_some_iff.mp hb
  have : IsStr a (f (ls.getD i [])) := h2 i a (by simpa using ha)
  rw [List.getD_eq_getElem?_getD, hl] at this
  exact this
/-- a tuple of texts among the new objects -/
noncomputable def StrTE (tl : List (Addr × Obj)) (v : Value) (ls : List (List Nat)) : Prop := ∃ vs a, v = .ref a ∧ (a, { cls := .type "tuple", data := .seq (List.toArray vs) }) ∈ tl ∧ All2 IsStr vs ls
/-- what _common_shorten_repr gives -/
noncomputable def CsrPost (ls : List (List Nat)) (tl : List (Addr × Obj)) (r : Value) : Prop :=
  ∃ mx, (∃ l ∈ ls, l.length + 2 = mx) ∧ (∀ l ∈ ls, l.length + 2 ≤ mx) ∧
    ∃ p, (80 < mx → (∀ l ∈ ls, p <+: qL l) ∧ ∀ q, (∀ l ∈ ls, q <+: qL l) → q <+: p) ∧ StrTE tl r (ls.map fun l => ansL mx p (qL l))
theorem csrPost_of {ls : List (List Nat)} {tl : List (Addr × Obj)} {D : Addr} {acc : Array Value} {mx : Nat} {p : List Nat} (h1 : mx ∈ (ls.map qL).map List.length) (h2 : ∀ l ∈ ls.map qL, l.length ≤ mx)
    (h3 : 80 < mx → (∀ l ∈ ls.map qL, p <+: l) ∧ ∀ q, (∀ l ∈ ls.map qL, q <+: l) → q <+: p) (hD : (D, { cls := .type "tuple", data := .seq acc }) ∈ tl) (h4 : All2 IsStr acc.toList (ls.map fun l => ansL mx p (qL l))) : CsrPost ls tl (.ref D) := by
  have ql : ∀ l : List Nat, (qL l).length = l.length + 2 := fun l => by simp [qL]
  refine ⟨mx, ?_, ?_, p, ?_, acc.toList, D, rfl, by simpa using hD, h4⟩
  · obtain ⟨r, hr, e⟩ := List.mem_map.mp h1
    obtain ⟨l, hl, rfl⟩ := List.mem_map.mp hr
    exact ⟨l, hl, by rw [← ql, e]⟩
  · intro l hl
    rw [← ql]; exact h2 _ (List.mem_map_of_mem hl)
  · intro hm
    obtain ⟨a, b⟩ := h3 hm
    refine ⟨fun l hl => a _ (List.mem_map_of_mem hl), fun q hq => b q fun r hr => ?_⟩
    obtain ⟨l, hl, rfl⟩ := List.mem_map.mp hr
    exact hq l hl
end Mine
end
section
open PySem PySem.W PySem.Calls PyProof.Rows PyProof
set_option Elab.async false
namespace Mine
/-- the numbers that the law reckons with -/
noncomputable def nsOf (zs : List Int) : List Nat := (zs.take 6).map fun z => (z.fmod 1000000).toNat
theorem fmod_toNat (z : Int) : ((z.fmod 1000000).toNat : Int) = z.fmod (10 ^ Int.toNat 6) := by
  have e : (10 : Int) ^ Int.toNat 6 = 1000000 := by decide
  rw [e, Int.fmod_eq_emod_of_nonneg _ (by decide)]
  (first | lia | omega)
theorem nsOf_map (zs : List Int) : (zs.take 6).map (fun k' => k'.fmod (10 ^ Int.toNat 6)) = (nsOf zs).map fun n : Nat => (n : Int) := by
  unfold nsOf
  rw [List.map_map]
  refine List.map_congr_left fun z _ => ?_
  exact (fmod_toNat z).symm
theorem nsOf_len (zs : List Int) : (nsOf zs).length ≤ 6 := by unfold nsOf; rw [List.length_map, List.length_take]; (first | lia | omega)
theorem nsOf_lt (zs : List Int) : ∀ n ∈ nsOf zs, n < 1000000 := by
  intro n hn
  unfold nsOf at hn
  obtain ⟨z, _, rfl⟩ := List.mem_map.mp hn
  rw [Int.fmod_eq_emod_of_nonneg _ (by decide)]
  (first | lia | omega)
theorem sizeL_lt (ns : List Nat) : sizeL ns < 200 := by unfold sizeL; (first | lia | omega)
theorem kinds_cons (ns : List Nat) : kindsL ns = (sizeL ns, []) :: ((sizeL ns, [spotL ns]) :: ns.map (kindL (sizeL ns) (spotL ns))) := rfl
theorem spotL_lt (ns : List Nat) : spotL ns < sizeL ns := by
  have := size_pos ns
  unfold spotL; exact Nat.mod_lt _ (by (first | lia | omega))
theorem kindL_kd {ns : List Nat} {n : Nat} : (kindL (sizeL ns) (spotL ns) n).1 < 260 ∧ (∀ p ∈ (kindL (sizeL ns) (spotL ns) n).2, p < (kindL (sizeL ns) (spotL ns) n).1) ∧ (kindL (sizeL ns) (spotL ns) n).2.length ≤ 4 ∧ ((kindL (sizeL ns) (spotL ns) n).1 = sizeL ns ∨ (kindL (sizeL ns) (spotL ns) n).2 = []) := by
  have h1 := size_pos ns; have h2 := sizeL_lt ns; have h3 := spotL_lt ns
  unfold kindL
  split
  · refine ⟨?_, (fun p hp => nomatch hp), Nat.zero_le _, .inr rfl⟩
    have := Nat.mod_lt (n / 3) (show 0 < sizeL ns + 60 by (first | lia | omega))
    show n / 3 % (sizeL ns + 60) < 260
    (first | lia | omega)
  · refine ⟨by show sizeL ns < 260; (first | lia | omega), fun p hp => ?_, ?_, .inl rfl⟩
    · show p < sizeL ns
      rcases List.mem_cons.mp hp with rfl | hp
      · exact Nat.mod_lt _ (by (first | lia | omega))
      · rw [List.eq_of_mem_replicate hp]; exact h3
    · rw [List.length_cons, List.length_replicate]; (first | lia | omega)
theorem kinds_all {ns : List Nat} {k : Nat × List Nat} (hk : k ∈ kindsL ns) : k.1 < 260 ∧ (∀ p ∈ k.2, p < k.1) ∧ k.2.length ≤ 4 ∧ (k.1 = sizeL ns ∨ k.2 = []) := by
  have h2 := sizeL_lt ns; have h3 := spotL_lt ns
  rw [kinds_cons] at hk
  rcases List.mem_cons.mp hk with rfl | hk
  · exact ⟨by show sizeL ns < 260; (first | lia | omega), (fun p hp => nomatch hp), Nat.zero_le _, .inr rfl⟩
  rcases List.mem_cons.mp hk with rfl | hk
  · refine ⟨by show sizeL ns < 260; (first | lia | omega), fun p hp => ?_, by simp, .inl rfl⟩
    rw [List.mem_singleton.mp hp]; exact h3
  · obtain ⟨n, _, rfl⟩ := List.mem_map.mp hk
    exact kindL_kd
theorem kinds_ks {ns : List Nat} {N : Nat} (htop : ∃ k ∈ kindsL ns, k.1 = N) (hle : ∀ k ∈ kindsL ns, k.1 ≤ N) : Ks N (sizeL ns) (kindsL ns) where
  kd := fun k hk => ⟨hle k hk, (kinds_all hk).2.1⟩
  hN := by obtain ⟨k, hk, rfl⟩ := htop; have := (kinds_all hk).1; (first | lia | omega)
  top := htop
  first := List.mem_cons_self
  two := fun k hk => (kinds_all hk).2.2.2
  spot := ⟨(sizeL ns, [spotL ns]), List.mem_cons_of_mem _ List.mem_cons_self, by simp⟩
theorem kinds_len (ns : List Nat) : (kindsL ns).length = ns.length + 2 := by rw [kinds_cons, List.length_cons, List.length_cons, List.length_map]
section
variable {N size sh : Nat} {ks : List (Nat × List Nat)}
theorem Ks.letters (K : Ks N size ks) {k : Nat × List Nat} (hk : k ∈ ks) : Letters (textL N k) := by
  intro c hc
  obtain ⟨i, hi⟩ := List.getElem?_of_mem hc
  have hd := K.kd k hk
  have hl := text_len hd.le hd.sp
  have hN := K.hN
  have hi' : i < k.1 := by rw [← hl]; exact (List.getElem?_eq_some_iff.mp hi).1
  rw [text_get hd.le hd.sp hi'] at hi
  cases hi
  exact chK_isL (by have := hd.le; (first | lia | omega))
theorem glue_nil {α : Type} (f : α → Nat) : ∀ l : List α, glueL [] (l.map fun x => [f x]) = l.map f
  | [] => rfl
  | [a] => rfl
  | a :: b :: r => by
    show [f a] ++ [] ++ glueL [] ((b :: r).map fun x => [f x]) = _
    rw [glue_nil f (b :: r)]; rfl
theorem csr_final (K : Ks N size ks) (H : Sh size sh ks) {tl : List (Addr × Obj)} {r : Value} (h : CsrPost (ks.map (textL N)) tl r) : StrTE tl r (ks.map fun k => cutL (qT N k) (runsK N sh k.1)) := by
  obtain ⟨mx, ⟨l, hl, e⟩, hle, p, hp, hr⟩ := h
  have hmx : mx = N + 2 := by
    obtain ⟨k, hk, rfl⟩ := List.mem_map.mp hl
    have hd := K.kd k hk
    rw [text_len hd.le hd.sp] at e
    obtain ⟨k', hk', e'⟩ := K.top
    have hd' := K.kd k' hk'
    have := hle _ (List.mem_map.mpr ⟨k', hk', rfl⟩)
    rw [text_len hd'.le hd'.sp] at this
    have := hd.le
    (first | lia | omega)
  subst hmx
  have key : ∀ k ∈ ks, ansL (N + 2) p (qL (textL N k)) = cutL (qT N k) (runsK N sh k.1) := by
    intro k hk
    by_cases c : N + 2 ≤ 80
    · unfold ansL runsK runsL
      rw [if_pos c, if_pos c]; rfl
    · obtain ⟨h1, h2⟩ := hp (by (first | lia | omega))
      have h1' : ∀ k ∈ ks, p <+: qT N k := fun k hk => h1 _ (List.mem_map.mpr ⟨k, hk, rfl⟩)
      have h2' : ∀ q, (∀ k ∈ ks, q <+: qT N k) → q <+: p := fun q hq => h2 q fun l hl => by
        obtain ⟨k, hk, rfl⟩ := List.mem_map.mp hl
        exact hq k hk
      have hpl := H.prefix K h1' h2'
      have : p = (qT N k).take sh := pre_take (h1' k hk) hpl
      rw [this]
      exact ans_cut K H hk
  rw [List.map_map] at hr
  have : ks.map ((fun l => ansL (N + 2) p (qL l)) ∘ textL N) = ks.map fun k => cutL (qT N k) (runsK N sh k.1) := List.map_congr_left fun k hk => key k hk
  rw [this] at hr
  exact hr
end
end Mine
end
section
open PySem PySem.W PySem.Calls PyProof.Rows PyProof
set_option Elab.async false
namespace Mine
/-- the pieces of an answer -/
noncomputable def piecesK (q : List Nat) : List (Nat × Nat) → List (List Nat)
  | [] => [q]
  | [(x, y)] => [q.take x, digs (y - x), q.drop y]
  | (x, y) :: (x', y') :: _ => [q.take x, digs (y - x), midL q y x', digs (y' - x'), q.drop y']
noncomputable def numsK : List (Nat × Nat) → List Nat
  | [] => []
  | [(x, y)] => [y - x]
  | (x, y) :: (x', y') :: _ => [y - x, y' - x']
noncomputable def evens {α : Type} : List α → List α
  | [] => []
  | [a] => [a]
  | a :: _ :: r => a :: evens r
noncomputable def odds {α : Type} : List α → List α
  | [] => []
  | [_] => []
  | _ :: b :: r => b :: odds r
theorem evens_pieces (q : List Nat) : ∀ rs, evens (piecesK q rs) = partsK q rs
  | [] => rfl
  | [(_, _)] => rfl
  | (_, _) :: (_, _) :: _ => rfl
theorem odds_pieces (q : List Nat) : ∀ rs, odds (piecesK q rs) = (numsK rs).map digs
  | [] => rfl
  | [(_, _)] => rfl
  | (_, _) :: (_, _) :: _ => rfl
theorem pieces_len (q : List Nat) : ∀ rs, (piecesK q rs).length ≤ 5 ∧ piecesK q rs ≠ []
  | [] => ⟨by simp [piecesK], by simp [piecesK]⟩
  | [(_, _)] => ⟨by simp [piecesK], by simp [piecesK]⟩
  | (_, _) :: (_, _) :: _ => ⟨by simp [piecesK], by simp [piecesK]⟩
noncomputable def charsL : List Nat := [32, 99, 104, 97, 114, 115, 93]
theorem cut_one {q : List Nat} {x y : Nat} : cutL q [(x, y)] = glueL charsL [q.take x ++ ([91] ++ digs (y - x)), q.drop y] := by
  simp [cutL, holeL, glueL, charsL]
theorem cut_two {q : List Nat} {x y x' y' : Nat} {r : List (Nat × Nat)} : cutL q ((x, y) :: (x', y') :: r) = glueL charsL [q.take x ++ ([91] ++ digs (y - x)), midL q y x' ++ ([91] ++ digs (y' - x')), q.drop y'] := by
  simp [cutL, holeL, glueL, charsL]
theorem mid_mem {q : List Nat} {a b c : Nat} (h : c ∈ midL q a b) : c ∈ q := List.mem_of_mem_drop (List.mem_of_mem_take h)
theorem pieces_free {q : List Nat} {c : Nat} (hc : c ∉ q) (hd : ∀ n, n < 1000 → c ∉ digs n) : ∀ {rs : List (Nat × Nat)}, (∀ n ∈ numsK rs, n < 1000) → ∀ p ∈ piecesK q rs, c ∉ p
  | [], _, p, hp => by
    simp only [piecesK, List.mem_singleton] at hp; rw [hp]; exact hc
  | [(x, y)], h, p, hp => by
    simp only [piecesK, List.mem_cons, List.not_mem_nil, or_false] at hp
    rcases hp with rfl | rfl | rfl
    · exact fun m => hc (List.mem_of_mem_take m)
    · exact hd _ (h _ (by simp [numsK]))
    · exact fun m => hc (List.mem_of_mem_drop m)
  | (x, y) :: (x', y') :: r, h, p, hp => by
    simp only [piecesK, List.mem_cons, List.not_mem_nil, or_false] at hp
    rcases hp with rfl | rfl | rfl | rfl | rfl
    · exact fun m => hc (List.mem_of_mem_take m)
    · exact hd _ (h _ (by simp [numsK]))
    · exact fun m => hc (mid_mem m)
    · exact hd _ (h _ (by simp [numsK]))
    · exact fun m => hc (List.mem_of_mem_drop m)
theorem replace_cut {q : List Nat} (hq : 32 ∉ q) : ∀ {rs : List (Nat × Nat)}, (∀ n ∈ numsK rs, n < 1000) → Txt.replace (S (cutL q rs)) (S charsL) (S [91]) = S (glueL [91] (piecesK q rs))
  | [], _ => by
    have := replace_glue (c := 32) (m := [99, 104, 97, 114, 115, 93]) (z := [91]) (parts := [q]) (by simp) (by simpa using hq)
    exact this
  | [(x, y)], h => by
    have hd : 32 ∉ digs (y - x) := fun m => by have := digs_mem (h (y - x) (by simp [numsK])) m; (first | lia | omega)
    have := replace_glue (c := 32) (m := [99, 104, 97, 114, 115, 93]) (z := [91]) (parts := [q.take x ++ ([91] ++ digs (y - x)), q.drop y]) (by simp) (fun p hp => by
      simp only [List.mem_cons, List.not_mem_nil, or_false] at hp
      rcases hp with rfl | rfl
      · intro m
        rcases List.mem_append.mp m with m | m
        · exact hq (List.mem_of_mem_take m)
        rcases List.mem_append.mp m with m | m
        · simp at m
        · exact hd m
      · exact fun m => hq (List.mem_of_mem_drop m))
    rw [cut_one]
    refine this.trans ?_
    simp [piecesK, glueL]
  | (x, y) :: (x', y') :: r, h => by
    have hd : 32 ∉ digs (y - x) := fun m => by have := digs_mem (h (y - x) (by simp [numsK])) m; (first | lia | omega)
    have hd' : 32 ∉ digs (y' - x') := fun m => by have := digs_mem (h (y' - x') (by simp [numsK])) m; (first | lia | omega)
    have := replace_glue (c := 32) (m := [99, 104, 97, 114, 115, 93]) (z := [91]) (parts := [q.take x ++ ([91] ++ digs (y - x)), midL q y x' ++ ([91] ++ digs (y' - x')), q.drop y']) (by simp) (fun p hp => by
      simp only [List.mem_cons, List.not_mem_nil, or_false] at hp
      rcases hp with rfl | rfl | rfl
      · intro m
        rcases List.mem_append.mp m with m | m
        · exact hq (List.mem_of_mem_take m)
        rcases List.mem_append.mp m with m | m
        · simp at m
        · exact hd m
      · intro m
        rcases List.mem_append.mp m with m | m
        · exact hq (mid_mem m)
        rcases List.mem_append.mp m with m | m
        · simp at m
        · exact hd' m
      · exact fun m => hq (List.mem_of_mem_drop m))
    rw [cut_two]
    refine this.trans ?_
    simp [piecesK, glueL]
theorem split_pieces {q : List Nat} (hq : 91 ∉ q) {rs : List (Nat × Nat)} (h : ∀ n ∈ numsK rs, n < 1000) : Txt.split (S (glueL [91] (piecesK q rs))) (S [91]) = (piecesK q rs).map S :=
  split_glue (c := 91) (m := []) (pieces_len q rs).2 (pieces_free hq (fun n hn m => by have := digs_mem hn m; (first | lia | omega)) h) (by simp)
theorem parts_sum {q : List Nat} {n : Nat} (hl : q.length = n + 2) : ∀ {rs : List (Nat × Nat)}, GoodR n rs → ((partsK q rs).map List.length).sum + (numsK rs).sum = n + 2
  | [], _ => by simp [partsK, numsK, hl]
  | [(x, y)], g => by
    have g1 : 1 ≤ x ∧ x ≤ y ∧ y + 1 ≤ n := g
    simp only [partsK, numsK, List.map_cons, List.map_nil, List.sum_cons, List.sum_nil, List.length_take, List.length_drop, hl]
    (first | lia | omega)
  | [(x, y), (x', y')], g => by
    have g1 : 1 ≤ x ∧ x ≤ y ∧ y + 1 < x' ∧ x' ≤ y' ∧ y' + 1 ≤ n := g
    simp only [partsK, numsK, midL, List.map_cons, List.map_nil, List.sum_cons, List.sum_nil, List.length_take, List.length_drop, hl]
    (first | lia | omega)
theorem nums_lt {n : Nat} (hn : n < 900) : ∀ {rs : List (Nat × Nat)}, GoodR n rs → ∀ m ∈ numsK rs, m < 1000
  | [], _, m, hm => by cases hm
  | [(x, y)], g, m, hm => by
    have g1 : 1 ≤ x ∧ x ≤ y ∧ y + 1 ≤ n := g
    simp only [numsK, List.mem_singleton] at hm; (first | lia | omega)
  | [(x, y), (x', y')], g, m, hm => by
    have g1 : 1 ≤ x ∧ x ≤ y ∧ y + 1 < x' ∧ x' ≤ y' ∧ y' + 1 ≤ n := g
    simp only [numsK, List.mem_cons, List.not_mem_nil, or_false] at hm; (first | lia | omega)
theorem cut_parts : ∀ {q q' : List Nat} {rs : List (Nat × Nat)}, partsK q rs = partsK q' rs → cutL q rs = cutL q' rs
  | q, q', [], h => by simpa [partsK, cutL] using h
  | q, q', [(x, y)], h => by
    simp only [partsK, List.cons.injEq, and_true] at h
    simp only [cutL, h.1, h.2]
  | q, q', (x, y) :: (x', y') :: _, h => by
    simp only [partsK, List.cons.injEq, and_true] at h
    simp only [cutL, h.1, h.2.1, h.2.2]
section
variable {N size sh : Nat} {ks : List (Nat × List Nat)} {k k' : Nat × List Nat}
theorem Ks.free (K : Ks N size ks) (hk : k ∈ ks) {c : Nat} (h : isL c = false) (h2 : c ≠ 39) : c ∉ qT N k := by
  intro m
  simp only [qL, List.mem_cons, List.mem_append, List.not_mem_nil, or_false] at m
  rcases m with m | m | m
  · exact h2 m
  · have := K.letters hk c m; rw [h] at this; cases this
  · exact h2 m
theorem Ks.lt (K : Ks N size ks) (hk : k ∈ ks) : k.1 < 900 := by have := (K.kd k hk).le; have := K.hN; (first | lia | omega)
/-- equal answers: told in the same words -/
theorem same_iff (K : Ks N size ks) (H : Sh size sh ks) (hk : k ∈ ks) (hk' : k' ∈ ks) : cutL (qT N k) (runsK N sh k.1) = cutL (qT N k') (runsK N sh k'.1) ↔ alikeP k k' (runsK N sh k.1) := by
  have d := K.kd k hk; have d' := K.kd k' hk'
  have g := goodR K H hk; have g' := goodR K H hk'
  have pe := Kd.parts_eq d d' (rs := runsK N sh) g
  rw [← pe]
  constructor
  · intro e
    have n1 := nums_lt (K.lt hk) g
    have n2 := nums_lt (K.lt hk') g'
    have f : ∀ {k : Nat × List Nat}, k ∈ ks → 32 ∉ qT N k ∧ 91 ∉ qT N k := fun hk => ⟨K.free hk (by decide) (by decide), K.free hk (by decide) (by decide)⟩
    have e1 : S (glueL [91] (piecesK (qT N k) (runsK N sh k.1))) = S (glueL [91] (piecesK (qT N k') (runsK N sh k'.1))) := by
      rw [← replace_cut (f hk).1 n1, ← replace_cut (f hk').1 n2, e]
    have e2 : (piecesK (qT N k) (runsK N sh k.1)).map S = (piecesK (qT N k') (runsK N sh k'.1)).map S := by
      rw [← split_pieces (f hk).2 n1, ← split_pieces (f hk').2 n2, e1]
    have e3 := (List.map_inj_right fun a b h => S_inj.mp h).mp e2
    have e4 : partsK (qT N k) (runsK N sh k.1) = partsK (qT N k') (runsK N sh k'.1) := by
      rw [← evens_pieces, ← evens_pieces, e3]
    exact ⟨Kd.parts_len d d' K.hN g g' e4, e4⟩
  · rintro ⟨e, h⟩
    rw [← e] at h ⊢
    exact cut_parts h
end
end Mine
end
section
open PySem PySem.W PySem.Calls PyProof.Rows PyProof
set_option Elab.async false
namespace Mine
theorem IsBool.iff {v : Value} {P P' : Prop} (h : IsBool v P) (i : P ↔ P') : IsBool v P' := let ⟨b, e, r⟩ := h; ⟨b, e, r.trans i⟩
theorem Con.post {w : World} {mg mb : Str → Option Value} {f : Addr} {args : List Value} {sz : Nat} {Pre : Heap → Prop} {Post Post' : List (Addr × Obj) → Value → Prop} (C : Con w mg mb f args sz Pre Post) (i : ∀ tl r, Post tl r → Post' tl r) : Con w mg mb f args sz Pre Post' :=
  fun dp un gd fr s Q E vp lo X T hpre hd hu hret => C dp un gd fr s Q E vp lo X T hpre hd hu fun r tl h' tk' k n p => hret r tl h' tk' k n (i tl r p)
theorem ell_con (w : World) (mg mb : Str → Option Value) {N size sh : Nat} {ks : List (Nat × List Nat)} {k k' : Nat × List Nat} (K : Ks N size ks) (H : Sh size sh ks) (hk : k ∈ ks) (hk' : k' ∈ ks) (x y : Str) (t u : Tok)
    (hx : x = S (glueL [46, 46, 46] (partsK (qT N k) (runsK N sh k.1)))) (hy : y = S (qT N k')) (hxl : x.length < 1000) :
    Con w mg mb 76 [.str x t, .str y u] 1 (fun _ => True) (fun _ r => IsBool r (alikeP k k' (runsK N sh k.1))) := by
  have d := K.kd k hk; have d' := K.kd k' hk'
  have g := goodR K H hk
  have f : 46 ∉ qT N k := K.free hk (by decide) (by decide)
  have hyl : y.length < 1000 := by rw [hy, S_len, d'.qlen]; have := K.lt hk'; (first | lia | omega)
  have hq := d.qlen
  generalize runsK N sh k.1 = rs at hx g
  match rs, g with
  | [], _ =>
    refine (ell1_con w mg mb (qT N k) (qT N k') x y t u hx hy f hxl hyl).post fun tl r p => p.iff ?_
    exact (Kd.match1 d d').symm
  | [(a, b)], g =>
    have g1 : 1 ≤ a ∧ a ≤ b ∧ b + 1 ≤ k.1 := g
    refine (ell2_con w mg mb ((qT N k).take a) ((qT N k).drop b) (qT N k') x y t u hx hy ?_ ?_ ?_ hxl hyl).post fun tl r p => p.iff ?_
    · intro e; have := congrArg List.length e; rw [List.length_take, hq, List.length_nil] at this; (first | lia | omega)
    · intro e; have := congrArg List.length e; rw [List.length_drop, hq, List.length_nil] at this; (first | lia | omega)
    · intro p hp m
      simp only [List.mem_cons, List.not_mem_nil, or_false] at hp
      rcases hp with rfl | rfl
      · exact f (List.mem_of_mem_take m)
      · exact f (List.mem_of_mem_drop m)
    · exact Kd.match2 d d' K.hN g1.2.1 (by (first | lia | omega)) g1.2.2
  | [(a, b), (a', b')], g =>
    have g1 : 1 ≤ a ∧ a ≤ b ∧ b + 1 < a' ∧ a' ≤ b' ∧ b' + 1 ≤ k.1 := g
    refine (ell3_con w mg mb ((qT N k).take a) (midL (qT N k) b a') ((qT N k).drop b') (qT N k') x y t u hx hy ?_ ?_ ?_ ?_ hxl hyl).post fun tl r p => p.iff ?_
    · intro e; have := congrArg List.length e; rw [List.length_take, hq, List.length_nil] at this; (first | lia | omega)
    · intro e; have := congrArg List.length e; unfold midL at this; rw [List.length_take, List.length_drop, hq, List.length_nil] at this; (first | lia | omega)
    · intro e; have := congrArg List.length e; rw [List.length_drop, hq, List.length_nil] at this; (first | lia | omega)
    · intro p hp m
      simp only [List.mem_cons, List.not_mem_nil, or_false] at hp
      rcases hp with rfl | rfl | rfl
      · exact f (List.mem_of_mem_take m)
      · exact f (mid_mem m)
      · exact f (List.mem_of_mem_drop m)
    · exact Kd.match3 d d' K.hN g1.2.1 (by (first | lia | omega)) g1.2.2.1 g1.2.2.2.1 g1.2.2.2.2
/-- slices by twos of few items -/
theorem pick_evens : ∀ ws : List Value, ws.length ≤ 5 → (slicePick ws.toArray none none (some 2)).toList = evens ws
  | [], _ => rfl
  | [a], _ => by with_unfolding_all rfl
  | [a, b], _ => by with_unfolding_all rfl
  | [a, b, c], _ => by with_unfolding_all rfl
  | [a, b, c, d], _ => by with_unfolding_all rfl
  | [a, b, c, d, e], _ => by with_unfolding_all rfl
  | _ :: _ :: _ :: _ :: _ :: _ :: _, h => by simp only [List.length_cons] at h; (first | lia | omega)
theorem pick_odds : ∀ ws : List Value, ws.length ≤ 5 → (slicePick ws.toArray (some 1) none (some 2)).toList = odds ws
  | [], _ => rfl
  | [a], _ => by with_unfolding_all rfl
  | [a, b], _ => by with_unfolding_all rfl
  | [a, b, c], _ => by with_unfolding_all rfl
  | [a, b, c, d], _ => by with_unfolding_all rfl
  | [a, b, c, d, e], _ => by with_unfolding_all rfl
  | _ :: _ :: _ :: _ :: _ :: _ :: _, h => by simp only [List.length_cons] at h; (first | lia | omega)
theorem All2.evens {α β : Type} {R : α → β → Prop} : ∀ {as : List α} {bs : List β}, All2 R as bs → All2 R (evens as) (evens bs)
  | _, _, .nil => .nil
  | _, _, .cons h .nil => .cons h .nil
  | _, _, .cons h (.cons _ r) => .cons h r.evens
theorem All2.odds {α β : Type} {R : α → β → Prop} : ∀ {as : List α} {bs : List β}, All2 R as bs → All2 R (odds as) (odds bs)
  | _, _, .nil => .nil
  | _, _, .cons _ .nil => .nil
  | _, _, .cons _ (.cons h r) => .cons h r.odds
theorem strsAre_of {vs : List Value} {ls : List (List Nat)} (h : All2 IsStr vs ls) : StrsAre vs (ls.map S) := by
  induction h with
  | nil => exact .nil
  | cons h _ ih => obtain ⟨t, rfl⟩ := h; exact .cons _ t ih
theorem glue_len (sep : List Nat) (ls : List (List Nat)) : (glueL sep ls).length ≤ (ls.map List.length).sum + ls.length * sep.length := by
  match ls with
  | [] => simp [glueL]
  | [p] => simp [glueL]
  | p :: q :: r =>
    have := glue_len sep (q :: r)
    simp only [glueL, List.length_append, List.map_cons, List.sum_cons, List.length_cons] at this ⊢
    rw [Nat.add_mul]
    (first | lia | omega)
section
variable {prog : Program} {w : World} {A : Around} {E : Value → Shared → Prop} {s : Shared}
/-- join of texts that are told -/
theorem join_strs {D : Addr} {vs : List Value} {ls : List (List Nat)} {sep : List Nat} {x : Str} {t : Tok} {Q : Value → Shared → Prop} (hl : s.heap.IsList D vs.toArray) (hv : All2 IsStr vs ls) (hx : x = S sep) (hsep : sep.length ≤ 16) (hw : (ls.map List.length).sum + ls.length ≤ 1048576)
    (h : ∀ t' k, Q (.str (S (glueL sep ls)) t') { s with toks := k }) : wpAny (model prog w) A (call (.builtin "str.join") [.str x t, .ref D]) Q E s := by
  subst hx
  refine join_listW hl (strsAre_of hv) (by rw [S_len]; exact hsep) ?_ fun t' k => ?_
  · rw [List.map_map, List.length_map]
    have : (ls.map ((fun x => x.length) ∘ S)) = ls.map List.length := List.map_congr_left fun l _ => S_len l
    rw [this]; exact hw
  · rw [txt_join]; exact h t' k
end
end Mine
end
section
open PySem PySem.W PySem.Calls PyProof.Rows PyProof
set_option Elab.async false
set_option maxRecDepth 100000
set_option maxHeartbeats 4000000
namespace Mine

theorem saferepr_con (w : World) (mg mb : Str → Option Value) (x : Str) (t : Tok) (hx : Letters x.cps.toList) (hl : x.length < 1000) :
    Con w mg mb 69 [.str x t] 1 (fun h => True) (fun tl r => IsStr r (39 :: (x.cps.toList ++ [39]))) := by
  w_on
  w_top on
  k_with_none
  k_with "exec Assign" => ((fail_if_success (with_reducible show wpAny _ _ _ qk _ _)); refine letQ ?_; intro qk ek; walk_at "exec Assign")
  k_with "exec If" => ((fail_if_success (with_reducible show wpAny _ _ _ qk _ _)); refine letQ ?_; intro qk ek; walk_at "exec If")
  k_with "eval Call" => ((fail_if_success (with_reducible show wpAny _ _ _ qk _ _)); refine letQ ?_; intro qk ek; walk_at "eval Call")
  k_with "eval BinOp" => ((fail_if_success (with_reducible show wpAny _ _ _ qk _ _)); refine letQ ?_; intro qk ek; walk_at "eval BinOp")
  k_with "eval Subscript" => ((fail_if_success (with_reducible show wpAny _ _ _ qk _ _)); refine letQ ?_; intro qk ek; walk_at "eval Subscript")
  k_with "isTrue Compare" => ((fail_if_success (with_reducible show wpAny _ _ _ qk _ _)); refine letQ ?_; intro qk ek; walk_at "isTrue Compare")
  k_with "isTrue BoolOp" => ((fail_if_success (with_reducible show wpAny _ _ _ qk _ _)); refine letQ ?_; intro qk ek; walk_at "isTrue BoolOp")
  k_with "callWith" => ((fail_if_success (with_reducible show wpAny _ _ _ qk _ _)); refine letQ ?_; intro qk ek; walk_at "callWith")
  k_with "eval Compare" => ((fail_if_success (with_reducible show wpAny _ _ _ qk _ _)); refine letQ ?_; intro qk ek; walk_at "eval Compare")
  k_with "eval Call Attribute" => ((fail_if_success (with_reducible show wpAny _ _ _ qk _ _)); refine letQ ?_; intro qk ek; walk_at "eval Call Attribute")
  k_with "call builtin:repr" => (k_here; refine PyProof.P.repr_of_str (hsz := ?_) ?_; (· assumption))
  unfold Con
  k_fill
  intro dp un gd fr s Q E vp lo X T hpre hd hu hret
  k_dflt (refine' enter ?k1 ?k2 ?k6 ?k7 ?k8 ?k9 ?kB ?_ ?c2 ?c3 ?c4 ?c5; (case k1 => assumption); (case k2 => assumption); (case k6 => k_is); (case k7 => k_is); (case k8 => first | exact roomA hd | (show dp < recursionLimit; omega)); (case k9 => first | exact BindsTo.of_eq rfl | exact binds_K (by assumption) rfl (by k_is) rfl rfl rfl); (case c5 => decide); (case kB => exact locs rfl); (case c2 => exact rfl); (case c3 => exact rfl); (case c4 => exact rfl); k_whole; intro L' h' F' N'; (try dsimp only); (show wpAny _ _ _ _ _ _); k_fold)
  have hsz : (reprText x).length ≤ sizeLine := by
    rw [repr_letters hx, S_len, sizeLine_eq]
    have := str_len x
    simp only [List.length_cons, List.length_append, List.length_nil]
    (first | lia | omega)
  k_steps
  all_goals try dsimp only
  all_goals (refine hret _ [] _ _ (Fr.keep (by k_asm)) (fun _ h9 => nomatch h9) (IsStr.of ?_))
  · exact repr_letters hx

end Mine
end
section
open PySem PySem.W PySem.Calls PyProof.Rows PyProof
set_option Elab.async false
set_option maxRecDepth 100000
set_option maxHeartbeats 1000000
namespace Mine
theorem tup_of_news {h₀ h : Heap} {L D : Addr} {news : List (Addr × Obj)} {its : Array Value} (N : News h₀ L h news) (hm : (D, { cls := .type "tuple", data := .seq its }) ∈ news) : IsTup h D its := ⟨_, (N _ hm).1, rfl, _, rfl⟩
theorem shorten_con' (w : World) (mg mb : Str → Option Value) (x : Str) (a b : Int) (p q : Nat) (t u v : Tok) (ha : a = (p : Int)) (hb : b = (q : Int)) (h1 : p < 1000) (hf1 : q < 1000) (hx : x.length < 1000) :
    Con w mg mb 28 [.str x t, .int a u, .int b v] 1 (fun _ => True) (fun _ r => IsStr r (shortL x.cps.toList p q)) := by subst ha hb; exact shorten_con w mg mb x p q t u v h1 hf1 hx
theorem getD_map {ls : List (List Nat)} {i : Nat} (h : i < (ls.map qL).length) : (ls.map qL).getD i [] = qL (ls.getD i []) := by
  rw [List.length_map] at h
  rw [List.getD_eq_getElem?_getD, List.getD_eq_getElem?_getD, List.getElem?_map, List.getElem?_eq_getElem h]; rfl
theorem news_nil {g h : Heap} {C : Addr} {m : Str → Option Value} (_ : Fr g C h m) : News g C h [] := News.nil
theorem news_ne {g₁ g h : Heap} {c P L : Addr} {ps : Array Value} {news : List (Addr × Obj)} {p : Addr × Obj} (B : Based g₁ g c P ps) (N : News g L h news) (hp : p ∈ news) : p.1 ≠ P := fun e => by
  have := (N p hp).2.2
  rw [e, B.tab.2] at this; cases this
theorem letters_q {l : List Nat} (h : Letters l) : ∀ c ∈ qL l, c < 128 := by
  intro c hc
  simp only [qL, List.mem_cons, List.mem_append, List.mem_singleton] at hc
  have key : c ∈ l → c < 128 := fun hm => by
    have := h c hm
    simp only [isL, Bool.or_eq_true, Bool.and_eq_true, decide_eq_true_eq] at this
    (first | lia | omega)
  rcases hc with h1 | h1 | h1
  · (first | lia | omega)
  · exact key h1
  · simp at h1; (first | lia | omega)
theorem newIn_kp {g₁ g h : Heap} {L : Addr} {news tl : List (Addr × Obj)} (kp : Keeps g₁ g) (N : News g L h news) (hs : ∀ p ∈ tl, p ∈ news) : NewIn g₁ h tl := fun p hp => by
  refine ⟨(N p (hs p hp)).1, ?_⟩
  cases e : g₁.get? p.1 with
  | none => rfl
  | some o => have := (N p (hs p hp)).2.2; rw [kp _ _ e] at this; cases this
theorem ans_short {mx : Nat} {p r : List Nat} (h : mx ≤ 80) : ansL mx p r = r := by unfold ansL; rw [if_pos h]
theorem ans_mid {mx : Nat} {p r : List Nat} (h : ¬ mx ≤ 80) (h2 : mx < p.length + 58) : ansL mx p r = shortL p 5 (63 + p.length - mx) ++ r.drop p.length := by unfold ansL; rw [if_neg h, if_pos h2]
theorem ans_long {mx : Nat} {p r : List Nat} (h : ¬ mx ≤ 80) (h2 : ¬ mx < p.length + 58) : ansL mx p r = shortL p 5 5 ++ shortL (r.drop p.length) 41 5 := by unfold ansL; rw [if_neg h, if_neg h2]

theorem csr_con (w : World) (mg mb : Str → Option Value) (vs : List Value) (ls : List (List Nat)) (hvs : All2 IsStr vs ls) (hne : ls ≠ []) (hn : ls.length < 100) (hL : ∀ l ∈ ls, Letters l) (hb : ∀ l ∈ ls, l.length < 900) :
    ConG w mg mb 61 60 vs 9 (fun tl r => CsrPost ls tl r) := by
  w_on
  w_top on
  k_with_none
  k_with "exec Assign" => ((fail_if_success (with_reducible show wpAny _ _ _ qk _ _)); refine letQ ?_; intro qk ek; walk_at "exec Assign")
  k_with "exec If" => ((fail_if_success (with_reducible show wpAny _ _ _ qk _ _)); refine letQ ?_; intro qk ek; walk_at "exec If")
  k_with "eval Call" => ((fail_if_success (with_reducible show wpAny _ _ _ qk _ _)); refine letQ ?_; intro qk ek; walk_at "eval Call")
  k_with "eval BinOp" => ((fail_if_success (with_reducible show wpAny _ _ _ qk _ _)); refine letQ ?_; intro qk ek; walk_at "eval BinOp")
  k_with "eval Subscript" => ((fail_if_success (with_reducible show wpAny _ _ _ qk _ _)); refine letQ ?_; intro qk ek; walk_at "eval Subscript")
  k_with "isTrue Compare" => ((fail_if_success (with_reducible show wpAny _ _ _ qk _ _)); refine letQ ?_; intro qk ek; walk_at "isTrue Compare")
  k_with "isTrue BoolOp" => ((fail_if_success (with_reducible show wpAny _ _ _ qk _ _)); refine letQ ?_; intro qk ek; walk_at "isTrue BoolOp")
  k_with "callWith" => ((fail_if_success (with_reducible show wpAny _ _ _ qk _ _)); refine letQ ?_; intro qk ek; walk_at "callWith")
  k_with "eval Compare" => ((fail_if_success (with_reducible show wpAny _ _ _ qk _ _)); refine letQ ?_; intro qk ek; walk_at "eval Compare")
  k_with "eval Call Attribute" => ((fail_if_success (with_reducible show wpAny _ _ _ qk _ _)); refine letQ ?_; intro qk ek; walk_at "eval Call Attribute")
  k_with "binaryOp Add str str" => refine stop ?_
  k_with "pyIter ref" => refine stop ?_
  k_with "eval GeneratorExp" => refine stop ?_
  k_with "call ref" => refine stop ?_
  k_with "call type:map" => refine stop ?_
  k_with "call type:tuple" => refine stop ?_
  k_with "call builtin:max" => refine stop ?_
  k_with "eval Name" => (k_here; (with_reducible show wpAny _ _ (eval (Expr.Name _ _) (genEnv _ _ _ _ _ _)) _ _ _); k_dflt (apply nameG_K; (· assumption); (· assumption); (· assumption); (· k_is); rotate_left; (· rfl); (· rfl); (· rfl); (· decide); k_whole))
  k_with "eval Name" => (k_here; (with_reducible show wpAny _ _ (eval (Expr.Name _ _) (genEnv _ _ _ _ _ _)) _ _ _); k_dflt (first | (apply nameGL; (· assumption); (· assumption); rotate_left; (· rfl); (· rfl); (· decide); k_whole) | (apply nameGF; (· rfl); (· assumption); (· assumption); rotate_left; (· rfl); (· rfl); (· decide); (· decide); k_whole)))
  k_with "subscriptTail Name Slice str ref" => (k_here; (with_reducible show wpAny _ _ (subscriptTail _ (Expr.Slice (some _) none none _) _ _) _ _ _); k_dflt (apply slice_keep (s := ⟨_, _, _, _, _⟩); (· assumption); rotate_left; (· with_unfolding_all rfl); (· (intro _; with_unfolding_all rfl)); (· (rw [sizeLine_eq]; omega)); k_whole); refine stop ?_)
  have hz : vs.length ≤ sizeLine := by rw [hvs.length, sizeLine_eq]; (first | lia | omega)
  unfold ConG
  k_fill
  intro dp un gd fr s Q E vp lo P bm ob X T M B G hd hu hret
  k_dflt (refine' enterV ?k1 ?k2 ?k6 ?k7 ?k8 ?kZ ?kB ?kD ?_ ?c2 ?c3 ?c4; (case k1 => assumption); (case k2 => assumption); (case k6 => k_is); (case k7 => k_is); (case k8 => first | exact roomA hd | (show dp < recursionLimit; omega)); (case kZ => assumption); (case kB => (intro _; exact rfl)); (case kD => decide +kernel); (case c2 => exact rfl); (case c3 => exact rfl); (case c4 => exact rfl); k_whole; intro g t kp ht X2 T2 L' h' tk' cells' F' N' Y'; k_cells Y'; (try simp only [List.cons_append, List.nil_append] at N'); (try dsimp only); (show wpAny _ _ _ _ _ _); k_fold)
  have M2 := M.keeps kp
  have B2 : Based g g 60 P #[] := Based.start (B.code.keeps kp) (B.tab.keeps kp) B.notStatics
  k_steps
  refine stopped ?_
  refine call_map_N (by k_asm) (by k_asm) (ht.keeps (Fr.keep (by k_asm))) ?_
  intro M1 TI1 I1 h1 F1 N1 A1 hI1 hL1 off1
  k_steps
  refine stopped ?_
  refine tuple_map_N (P := fun i v => IsStr v (qL (ls.getD i []))) rfl F1 N1 A1 hI1 hL1 off1 (by rw [List.size_toArray]; exact hz) ?_ ?_
  · intro i x s' Q' E' hx hkp hQ
    obtain ⟨tx, rfl, hi⟩ := strs_at hvs hx
    have kg : Keeps g s'.heap := fun b o e => hkp b o (fun hbI => by rw [hbI, hI1] at e; cases e) (F1.keep b o e)
    have hm : ls.getD i [] ∈ ls := by rw [getD_at hi]; exact List.getElem_mem hi
    have hq : (S (ls.getD i [])).cps.toList = ls.getD i [] := rfl
    refine saferepr_con w mg mb (S (ls.getD i [])) tx (hL _ hm) (by rw [S_len]; have := hb _ hm; (first | lia | omega)) _ _ _ _ s' Q' E' _ _ (X2.keeps kg) (T2.keeps kg) trivial ?_ ?_ fun r tl h' tk' k n hP => hQ r h' tk' hP k
    · show dp + 1 + 1 < _; (first | lia | omega)
    · dsimp only [AR, Around.in1, Around.deeper]; (first | lia | omega)
  · intro acc h2 tk2 D2 F2 N2 lt2 hacc
    have hq9 : ∀ l ∈ ls.map qL, l.length < 1000 := fun l hl => by
      obtain ⟨l0, h0, rfl⟩ := List.mem_map.mp hl
      have := hb _ h0
      simp only [qL, List.length_cons, List.length_append, List.length_nil]; (first | lia | omega)
    have hq8 : ∀ l ∈ ls.map qL, ∀ c ∈ l, c < 128 := fun l hl c hc => by
      obtain ⟨l0, h0, rfl⟩ := List.mem_map.mp hl
      exact letters_q (hL _ h0) c hc
    have hR := strs_of_items (f := qL) (by rw [List.size_toArray, hvs.length]) hacc
    obtain ⟨rs⟩ := acc
    k_steps
    refine stopped ?_
    refine call_map_N (by k_asm) (by k_asm) (tup_of_news (by k_asm) (by k_mem)) ?_
    intro M3 TI3 I3 h3 F3 N3 A3 hI3 hL3 off3
    k_steps
    refine stopped ?_
    refine max_map_len_N rfl F3 N3 A3 hI3 hL3 off3 hR (by simpa using hne) hq9 ?_
    intro mx u9 h4 tk4 hmx hmx2 F4 N4
    obtain ⟨r0, hr0, hr0l⟩ := List.mem_map.mp hmx
    have hmx3 : mx < 1000 := by rw [← hr0l]; exact hq9 _ hr0
    k_steps
    · all_goals try dsimp only
      refine hret _ [(D2, { cls := .type "tuple", data := .seq { toList := rs } })] _ (fun b o _ e => Fr.keep (by k_asm) b o (kp b o e)) ⟨_, Fr.keep (by k_asm) _ _ (kp _ _ B.tab.2)⟩ (newIn_kp kp (by k_asm) (fun p hp => by simp only [List.mem_singleton] at hp; subst hp; k_mem)) G rfl (csrPost_of (p := []) hmx hmx2 (fun h => absurd h (by (first | lia | omega))) List.mem_cons_self ?_)
      have e : (ls.map fun l => ansL mx [] (qL l)) = ls.map qL := List.map_congr_left fun l _ => ans_short (by (first | lia | omega))
      rw [e]; exact hR
    · refine stopped ?_
      k_dflt (refine' Con.useV (cpre_con _ _ _ _ _ _ hR (by simpa using hne) (by simpa using hn) hq9 hq8) ?k1 ?k2 ?k3 ?k4 ?k5 ?k6 ?k7 ?_; (case k1 => k_asm); (case k2 => k_asm); (case k3 => k_asm); (case k4 => k_asm); (case k5 => exact tup_of_news (by k_asm) (by k_mem)); (case k6 => first | exact roomB hd (by decide) | (first | lia | omega) | (dsimp only [AR]; (first | lia | omega))); (case k7 => first | exact roomC hu (by decide) | (first | lia | omega) | (dsimp only [AR]; (first | lia | omega))); k_whole)
      rintro r tl5 h5 tk5 F5 N5 ⟨p, ⟨tp, rfl⟩, hp1, hp2⟩
      have hpl : p.length ≤ mx := by rw [← hr0l]; exact (hp1 r0 hr0).length_le
      have hSp : (S p).length = p.length := S_len p
      k_steps
      · refine stopped ?_
        k_dflt (refine' Con.useS (shorten_con' _ _ _ (S p) 5 _ 5 (63 + p.length - mx) _ _ _ rfl (by (first | lia | omega)) (by decide) (by (first | lia | omega)) (by (first | lia | omega))) ?k1 ?k2 ?k3 ?k4 ?k5 ?k6 ?k7 ?_; (case k1 => k_asm); (case k2 => k_asm); (case k3 => k_asm); (case k4 => k_asm); (case k5 => trivial); (case k6 => first | exact roomB hd (by decide) | (first | lia | omega) | (dsimp only [AR]; (first | lia | omega))); (case k7 => first | exact roomC hu (by decide) | (first | lia | omega) | (dsimp only [AR]; (first | lia | omega))); k_whole)
        intro t6 h6 tk6 F6 N6
        k_steps
        refine stopped ?_
        refine LGe.GeneratorExp_K (by k_asm) B2 M2 rfl rfl rfl rfl rfl (by decide) rfl rfl rfl (by show dp + 1 < recursionLimit; (first | lia | omega)) ?_ (by intro _; rfl)
        k_steps
        refine stopped ?_
        rename_i h7 o7 F7 N7 d7
        refine src_tup (K := h7.objs.size - 1) (F := fun i v => IsStr v (shortL p 5 (63 + p.length - mx) ++ (qL (ls.getD i [])).drop p.length)) B2 (tup_of_news (by k_asm) (by k_mem)) (by k_asm) G (T2.nolimit.keeps (Fr.keep (by k_asm))) (Nat.le_sub_one_of_lt F7.ns.lt) (Nat.sub_lt (Nat.lt_of_le_of_lt (Nat.zero_le _) F7.ns.lt) Nat.one_pos) ?_ ?_
        · intro c' C A' E' i v t m₂ hA hD hU hv hF hm hLC hk
          have hp1 : t.heap.get? (L' + 1) = some o7 := hk _ _ (news_ne B2 N7 (p := (L' + 1, o7)) (by simp)) (N7 (L' + 1, o7) (by simp)).1
          have hp2 : t.heap.get? (L' + 1 + 1) = some _ := hk _ _ (news_ne B2 N7 (p := (L' + 1 + 1, _)) (List.mem_cons_of_mem _ List.mem_cons_self)) (N7 (L' + 1 + 1, _) (List.mem_cons_of_mem _ List.mem_cons_self)).1
          obtain ⟨tv, rfl, hi⟩ := strs_at hR hv
          have hlq : (S ((ls.map qL).getD i [])).length < 1000 := by rw [S_len]; exact hq9 _ (by rw [getD_at hi]; exact List.getElem_mem _)
          clear F7 N7
          obtain ⟨th, tg, td, tt, tos⟩ := t
          dsimp only at hF hp1 hp2 hk
          have N8 := news_nil hF
          k_steps
          refine stopped ?_
          intro h9 t9 k9 K9 F9
          k_steps
          refine stopped ?_
          refine add_str ?_ ?sz
          · intro _ _
            refine ⟨IsStr.of ?_, _, _, rfl, K9⟩
            rw [S_len, slice_drop, S_append, getD_map hi]
            rfl
          · have l1 := shortL_len (l := p) (a := 5) (b := 63 + p.length - mx) (by (first | lia | omega))
            have l2 := PyProof.Txt.length_slice_le (S ((ls.map qL).getD i [])) (some ↑(S p).length) none
            rw [S_len, sizeLine_eq]
            simp only [S_cps]
            (first | lia | omega)
        · intro c' a s5 B5 F5' G5 hos hk5 X5
          k_steps
          refine stopped ?_
          refine tuple_end (F := fun i v => IsStr v ((fun l => ansL mx p (qL l)) (ls.getD i []))) B2 kp F7 N7 F5' G5 hk5 (X5.imp fun j y hy => ?_) (by rw [sizeLine_eq]; have := hR.length; simp only [List.length_map] at this; simp only [List.size_toArray]; (first | lia | omega)) ?_
          · show IsStr y (ansL mx p (qL (ls.getD j [])))
            rw [ans_mid (by (first | lia | omega)) (by (first | lia | omega))]; exact hy
          · intro s' D acc K' P' N' G' os' hacc
            refine hret _ _ s' K' P' N' G' (os'.trans hos) (csrPost_of hmx hmx2 (fun _ => ⟨hp1, hp2⟩) List.mem_cons_self (strs_of_items (f := fun l => ansL mx p (qL l)) ?_ hacc))
            have := hR.length; simp only [List.length_map] at this; simp only [List.size_toArray]; exact this
      · refine stopped ?_
        k_dflt (refine' Con.useS (shorten_con' _ _ _ (S p) 5 5 5 5 _ _ _ rfl rfl (by decide) (by decide) (by (first | lia | omega))) ?k1 ?k2 ?k3 ?k4 ?k5 ?k6 ?k7 ?_; (case k1 => k_asm); (case k2 => k_asm); (case k3 => k_asm); (case k4 => k_asm); (case k5 => trivial); (case k6 => first | exact roomB hd (by decide) | (first | lia | omega) | (dsimp only [AR]; (first | lia | omega))); (case k7 => first | exact roomC hu (by decide) | (first | lia | omega) | (dsimp only [AR]; (first | lia | omega))); k_whole)
        intro t6 h6 tk6 F6 N6
        k_steps
        refine stopped ?_
        refine LGe.GeneratorExp_K (by k_asm) B2 M2 rfl rfl rfl rfl rfl (by decide) rfl rfl rfl (by show dp + 1 < recursionLimit; (first | lia | omega)) ?_ (by intro _; rfl)
        k_steps
        refine stopped ?_
        rename_i h7 o7 F7 N7 d7
        refine src_tup (K := h7.objs.size - 1) (F := fun i v => IsStr v (shortL p 5 5 ++ shortL ((qL (ls.getD i [])).drop p.length) 41 5)) B2 (tup_of_news (by k_asm) (by k_mem)) (by k_asm) G (T2.nolimit.keeps (Fr.keep (by k_asm))) (Nat.le_sub_one_of_lt F7.ns.lt) (Nat.sub_lt (Nat.lt_of_le_of_lt (Nat.zero_le _) F7.ns.lt) Nat.one_pos) ?_ ?_
        · intro c' C A' E' i v t m₂ hA hD hU hv hF hm hLC hk
          have hp1 : t.heap.get? (L' + 1) = some o7 := hk _ _ (news_ne B2 N7 (p := (L' + 1, o7)) (by simp)) (N7 (L' + 1, o7) (by simp)).1
          have hp2 : t.heap.get? (L' + 1 + 1) = some _ := hk _ _ (news_ne B2 N7 (p := (L' + 1 + 1, _)) (List.mem_cons_of_mem _ List.mem_cons_self)) (N7 (L' + 1 + 1, _) (List.mem_cons_of_mem _ List.mem_cons_self)).1
          obtain ⟨tv, rfl, hi⟩ := strs_at hR hv
          have hlq : (S ((ls.map qL).getD i [])).length < 1000 := by rw [S_len]; exact hq9 _ (by rw [getD_at hi]; exact List.getElem_mem _)
          clear F7 N7
          obtain ⟨th, tg, td, tt, tos⟩ := t
          dsimp only at hF hp1 hp2 hk
          have N8 := news_nil hF
          have X3 := LGeL.in_regrown hF X2 T2 B2 (classed w)
          have T3 := LGe.top_regrown hF T2 B2
          obtain ⟨hh9, dd9, ff9, gg9, uu9⟩ := A'
          dsimp only [AR, Around.deeper] at hA hD hU
          subst hA
          k_steps
          refine stopped ?_
          intro h9 t9 k9 K9 F9
          clear hF N8
          have N9 := news_nil F9
          k_steps
          refine stopped ?_
          have l3 := PyProof.Txt.length_slice_le (S ((ls.map qL).getD i [])) (some ↑(S p).length) none
          refine shorten_con' _ _ _ (Txt.slice (S ((ls.map qL).getD i [])) (some ↑(S p).length) none) _ _ 41 5 _ _ _ rfl rfl (by decide) (by decide) (by (first | lia | omega)) _ _ _ _ _ _ _ _ _ (X3.keeps (Fr.keep (by k_asm))) (T3.keeps (Fr.keep (by k_asm))) trivial ?_ ?_ ?_
          · (first | lia | omega)
          · (first | lia | omega)
          · rintro r tl h10 tk10 K10 _ ⟨tr, rfl⟩
            k_steps
            refine stopped ?_
            refine add_str ?_ ?sz2
            · intro _ _
              refine ⟨IsStr.of ?_, _, _, rfl, Keeps.trans K9 K10⟩
              rw [S_len, slice_drop, S_append, getD_map hi]
              rfl
            · have l1 := shortL_len (l := p) (a := 5) (b := 5) (by (first | lia | omega))
              have l2 := shortL_len (l := (Txt.slice (S ((ls.map qL).getD i [])) (some ↑(S p).length) none).cps.toList) (a := 41) (b := 5) (by rw [← str_len]; (first | lia | omega))
              rw [← str_len] at l2
              rw [S_len, S_len, sizeLine_eq]
              simp only [S_cps]
              (first | lia | omega)
        · intro c' a s5 B5 F5' G5 hos hk5 X5
          k_steps
          refine stopped ?_
          refine tuple_end (F := fun i v => IsStr v ((fun l => ansL mx p (qL l)) (ls.getD i []))) B2 kp F7 N7 F5' G5 hk5 (X5.imp fun j y hy => ?_) (by rw [sizeLine_eq]; have := hR.length; simp only [List.length_map] at this; simp only [List.size_toArray]; (first | lia | omega)) ?_
          · show IsStr y (ansL mx p (qL (ls.getD j [])))
            rw [ans_long (by (first | lia | omega)) (by (first | lia | omega))]; exact hy
          · intro s' D acc K' P' N' G' os' hacc
            refine hret _ _ s' K' P' N' G' (os'.trans hos) (csrPost_of hmx hmx2 (fun _ => ⟨hp1, hp2⟩) List.mem_cons_self (strs_of_items (f := fun l => ansL mx p (qL l)) ?_ hacc))
            have := hR.length; simp only [List.length_map] at this; simp only [List.size_toArray]; exact this

end Mine
end
section
open PySem PySem.W PySem.Calls PyProof.Rows PyProof
set_option Elab.async false
set_option maxRecDepth 100000
namespace Mine
section
variable {g h h' : Heap} {c P L : Addr} {ps : Array Value} {m : Str → Option Value} {news tl : List (Addr × Obj)}
theorem based_ne (B : Based g g c P #[]) : c ≠ P := by obtain ⟨_, _, _, _, _, _, _, _, _, _, _, _, _, _, _, _, _, _, _, _, x⟩ := B.code; exact x
theorem tab_regrown (B : Based g g c P #[]) (ps : Array Value) : (regrown g P ps).TableAt c P ps :=
  let ⟨⟨o, vs, e, r⟩, _⟩ := B.tab; ⟨⟨o, vs, (regrown_other (based_ne B)).trans e, r⟩, regrown_self B⟩
theorem old_regrown (B : Based g g c P #[]) (ps : Array Value) : OldK g (regrown g P ps) := by
  obtain ⟨ps₁, ht₁⟩ := B.tab₁
  refine B.old.step_table (more := ps) ht₁ B.tab ?_ (fun b o hb e => (regrown_other hb).trans e) B.notStatics
  rw [Array.empty_append]
  exact tab_regrown B ps
/-- a frame behind a call that grew the table P -/
theorem frame_regrown (B : Based g g c P #[]) (F : Fr g L h m) (hk : KeepsP P h h') (hp : h'.get? P = some { cls := .none, data := .fields ps }) : Fr (regrown g P ps) L h' m := by
  have hPlt : P < g.objs.size := B.code.lt.2
  have hLP : L ≠ P := Nat.ne_of_gt (Nat.lt_of_lt_of_le hPlt F.above)
  refine ⟨F.ns.extBut (fun b o hb e => hk b o hb e) hLP, fun b o e => ?_, Nat.le_trans (Nat.le_of_eq (Heap.SameBut.update g P _).1) F.above⟩
  by_cases hb : b = P
  · subst hb; rw [regrown_self B] at e; cases e; exact hp
  · rw [regrown_other hb] at e; exact hk b o hb (F.keep b o e)
theorem news_after (B : Based g g c P #[]) (F : Fr g L h m) (N : News g L h news) (hk : KeepsP P h h') (n : NewIn h h' tl) : News (regrown g P ps) L h' (tl ++ news) := by
  intro p hp
  rcases List.mem_append.mp hp with hp | hp
  · have hz := n p hp
    have hne : p.1 ≠ P := fun e => by
      have := F.keep _ _ B.tab.2
      rw [← e, hz.2] at this; cases this
    refine ⟨hz.1, fun e => ?_, ?_⟩
    · obtain ⟨o, _, _, hL, _⟩ := F.ns
      rw [e, hL] at hz; exact absurd hz.2 (by simp)
    · rw [regrown_other hne]
      cases q : g.get? p.1 with
      | none => rfl
      | some o => have := F.keep _ _ q; rw [hz.2] at this; cases this
  · exact news_regrown B N (fun b o hb e => hk b o hb e) p hp
end
end Mine
end
section
open PySem PySem.W PySem.Calls PyProof.Rows PyProof
set_option Elab.async false
set_option maxRecDepth 100000
namespace Mine
theorem mid_len (q : List Nat) (a b : Nat) : (midL q a b).length ≤ q.length := by unfold midL; rw [List.length_take, List.length_drop]; (first | lia | omega)
theorem take_len (q : List Nat) (a : Nat) : (q.take a).length ≤ q.length := by rw [List.length_take]; (first | lia | omega)
theorem drop_len (q : List Nat) (a : Nat) : (q.drop a).length ≤ q.length := by rw [List.length_drop]; (first | lia | omega)
theorem hole_len {n : Nat} (h : n < 1000) : (holeL n).length ≤ 11 := by
  have := digs_len h
  unfold holeL
  simp only [List.length_append, List.length_cons, List.length_nil]
  (first | lia | omega)
theorem cut_len {q : List Nat} : ∀ {rs : List (Nat × Nat)}, (∀ n ∈ numsK rs, n < 1000) → (cutL q rs).length ≤ 3 * q.length + 22
  | [], _ => by simp only [cutL]; (first | lia | omega)
  | [(x, y)], h => by
    have h1 := hole_len (h (y - x) (by simp [numsK]))
    have h2 := take_len q x; have h3 := drop_len q y
    simp only [cutL, List.length_append]; (first | lia | omega)
  | (x, y) :: (x', y') :: _, h => by
    have h1 := hole_len (h (y - x) (by simp [numsK]))
    have h4 := hole_len (h (y' - x') (by simp [numsK]))
    have h2 := take_len q x; have h3 := drop_len q y'; have h5 := mid_len q y x'
    simp only [cutL, List.length_append]; (first | lia | omega)
theorem pieces_sum {q : List Nat} : ∀ {rs : List (Nat × Nat)}, (∀ n ∈ numsK rs, n < 1000) → ((piecesK q rs).map List.length).sum ≤ 3 * q.length + 6
  | [], _ => by simp only [piecesK, List.map_cons, List.map_nil, List.sum_cons, List.sum_nil]; (first | lia | omega)
  | [(x, y)], h => by
    have h1 := digs_len (h (y - x) (by simp [numsK]))
    have h2 := take_len q x; have h3 := drop_len q y
    simp only [piecesK, List.map_cons, List.map_nil, List.sum_cons, List.sum_nil]; (first | lia | omega)
  | (x, y) :: (x', y') :: _, h => by
    have h1 := digs_len (h (y - x) (by simp [numsK]))
    have h4 := digs_len (h (y' - x') (by simp [numsK]))
    have h2 := take_len q x; have h3 := drop_len q y'; have h5 := mid_len q y x'
    simp only [piecesK, List.map_cons, List.map_nil, List.sum_cons, List.sum_nil]; (first | lia | omega)
theorem parts_sum_le {q : List Nat} : ∀ {rs : List (Nat × Nat)}, ((partsK q rs).map List.length).sum ≤ 3 * q.length ∧ (partsK q rs).length ≤ 3
  | [] => by simp only [partsK, List.map_cons, List.map_nil, List.sum_cons, List.sum_nil, List.length_cons, List.length_nil]; (first | lia | omega)
  | [(x, y)] => by
    have h2 := take_len q x; have h3 := drop_len q y
    simp only [partsK, List.map_cons, List.map_nil, List.sum_cons, List.sum_nil, List.length_cons, List.length_nil]; (first | lia | omega)
  | (x, y) :: (x', y') :: _ => by
    have h2 := take_len q x; have h3 := drop_len q y'; have h5 := mid_len q y x'
    simp only [partsK, List.map_cons, List.map_nil, List.sum_cons, List.sum_nil, List.length_cons, List.length_nil]; (first | lia | omega)
theorem glue_pieces_len {q : List Nat} {rs : List (Nat × Nat)} (h : ∀ n ∈ numsK rs, n < 1000) : (glueL [91] (piecesK q rs)).length ≤ 3 * q.length + 11 := by
  have h1 := glue_len [91] (piecesK q rs)
  have h2 := pieces_sum (q := q) h
  have h3 := (pieces_len q rs).1
  simp only [List.length_cons, List.length_nil] at h1
  (first | lia | omega)
theorem glue_parts_len {q : List Nat} {rs : List (Nat × Nat)} : (glueL [46, 46, 46] (partsK q rs)).length ≤ 3 * q.length + 9 := by
  have h1 := glue_len [46, 46, 46] (partsK q rs)
  have h2 := parts_sum_le (q := q) (rs := rs)
  simp only [List.length_cons, List.length_nil] at h1
  (first | lia | omega)
theorem glue_parts_len' {q : List Nat} {n : Nat} (hl : q.length = n + 2) {rs : List (Nat × Nat)} (g : GoodR n rs) : (glueL [46, 46, 46] (partsK q rs)).length ≤ n + 11 := by
  have h1 := glue_len [46, 46, 46] (partsK q rs)
  have h2 := (parts_sum_le (q := q) (rs := rs)).2
  have h3 := parts_sum hl g
  simp only [List.length_cons, List.length_nil] at h1
  (first | lia | omega)
theorem strs_values : ∀ {l : List (Str × Tok)} {ps : List (List Nat)}, l.map (·.1) = ps.map S → All2 IsStr (strValues l) ps
  | [], [], _ => .nil
  | [], _ :: _, h => by cases h
  | _ :: _, [], h => by cases h
  | (x, t) :: l, p :: ps, h => by
    simp only [List.map_cons, List.cons.injEq] at h
    exact .cons ⟨t, by rw [← h.1]⟩ (strs_values h.2)
theorem parts_each {q : List Nat} : ∀ {rs : List (Nat × Nat)}, ∀ p ∈ partsK q rs, p.length ≤ q.length
  | [], p, hp => by simp only [partsK, List.mem_singleton] at hp; rw [hp]; exact Nat.le_refl _
  | [(x, y)], p, hp => by
    simp only [partsK, List.mem_cons, List.not_mem_nil, or_false] at hp
    rcases hp with rfl | rfl
    · exact take_len q x
    · exact drop_len q y
  | (x, y) :: (x', y') :: _, p, hp => by
    simp only [partsK, List.mem_cons, List.not_mem_nil, or_false] at hp
    rcases hp with rfl | rfl | rfl
    · exact take_len q x
    · exact mid_len q y x'
    · exact drop_len q y'
theorem nums_len : ∀ rs : List (Nat × Nat), (numsK rs).length ≤ 2
  | [] => by simp [numsK]
  | [(_, _)] => by simp [numsK]
  | (_, _) :: (_, _) :: _ => by simp [numsK]
theorem S_digs (n : Nat) : S (digs n) = Str.ofString (toString (n : Int)) := S_of _
theorem runs_con' (w : World) (mg mb : Str → Option Value) (a b c : Int) (size longest shared : Nat) (t u v : Tok) (ha : a = (size : Int)) (hb : b = (longest : Int)) (hc : c = (shared : Int)) (h1 : size < 1000) (hf1 : longest < 1000) (h3 : shared < 1000) :
    Con w mg mb 104 [.int a t, .int b u, .int c v] 1 (fun _ => True) (fun tl r => RunsG (inL tl) r (runsL size longest shared)) := by
  subst ha hb hc; exact runs_con w mg mb size longest shared t u v h1 hf1 h3
theorem runs_len (a b c : Nat) : (runsL a b c).length ≤ 4 := by
  unfold runsL
  split
  · simp
  · split
    · simp
    · split <;> split <;> simp
theorem sum_nat_cast (ls : List (List Nat)) : (ls.map fun l => (l.length : Int)).sum = ((ls.map List.length).sum : Int) := by
  induction ls with
  | nil => rfl
  | cons l ls ih => rw [List.map_cons, List.sum_cons, ih, List.map_cons, List.sum_cons]; (first | lia | omega)
end Mine
end
section
open PySem PySem.W PySem.Calls PyProof.Rows PyProof PyProof.Rows.LCg
set_option Elab.async false
namespace Mine
section
variable {prog : Program} {w : World} {A : Around} {E : Value → Shared → Prop} {s : Shared} {env : Env} {h₀ : Heap} {L : Addr} {m : Str → Option Value}
/-- the source of a comprehension: range(n) -/
theorem compAt_range {elt : Expr} {x : Str} {px : Pos} {ifs : List Expr} {scope : Scope} {cl : List (Str × Addr)} {Fin : Shared → List Value → List (Addr × Obj) → Prop} {z : Int} {n : Nat} {t : Tok} {news : List (Addr × Obj)} (Inv : Nat → List Value → Prop)
    (hh : A.handled = none) (hz : z = (n : Int)) (hsz : n ≤ 1000000) (F : Fr h₀ L s.heap m) (N : News h₀ L s.heap news)
    (hinv : Inv 0 []) (hlen : ∀ i ys, Inv i ys → ys.length ≤ i)
    (turn : ∀ I i v h₂ tk₂, i < n → (∃ t, v = .int (i : Int) t) → Turn prog w A h₀ L m env elt (.Name x px) ifs scope cl { s with heap := h₂, toks := tk₂ } I news Inv i v (fun _ => True))
    (fin : ∀ ys h₂ tk₂, Inv n ys → Fin { s with heap := h₂, toks := tk₂ } ys news) :
    wpAny (model prog w) A (call (.type "range") [.int z t]) (fun xv s₁ => wpAny (model prog w) A (pyIter xv) (CompAt prog w A h₀ L m env elt (.Name x px) ifs scope cl Fin) E s₁) E s := by
  subst hz
  refine call_range_1 ?_
  have h1 : ∀ b o, s.heap.get? b = some o → (s.heap.push { cls := .type "range", data := .fields #[.int 0 s.toks, .int (n : Int) t, .int 1 (s.toks + 1)] }).get? b = some o := fun b o e => Heap.get?_push_of_some _ e
  have F1 := F.keeps h1
  have N1 := N.grown h1
  have hr : IsRange (s.heap.push { cls := .type "range", data := .fields #[.int 0 s.toks, .int (n : Int) t, .int 1 (s.toks + 1)] }) s.heap.objs.size 0 (n : Int) 1 s.toks t (s.toks + 1) := IsRange.new _ _ _ _ _ _ _
  generalize hg : s.heap.push { cls := .type "range", data := .fields #[.int 0 s.toks, .int (n : Int) t, .int 1 (s.toks + 1)] } = g at F1 N1 hr h1
  refine wpAny_pyIter_range hr (small_one (by decide) (by decide) (by (first | lia | omega)) (by (first | lia | omega))) ?_
  have es : Builtin.Range.rangeSize 0 (n : Int) 1 = (n : Int) := by rw [rangeSize_one]; split <;> (first | lia | omega)
  rw [es]
  have W := Walks.range (prog := prog) (w := w) hh g.objs.size 0 1 n
  have up : ∀ b o, g.get? b = some o → (g.push { cls := .type "range_iterator", data := .fields #[rawInt 0, rawInt (n : Int), rawInt 1] }).get? b = some o := fun b o e => Heap.get?_push_of_some _ e
  refine ⟨g.objs.size, _, n, _, _, _, news, Inv, rfl, KTurns.ofWalks W fun i v s Q E st q => wpAny_pure q, fun s Q E st q => W.self 0 s Q E st q, Nat.le_trans hsz (by rw [sizeLine_eq]; decide), ?_, ?_, ?_, ?_,
    F1.keeps up, N1.grown up, Nat.ne_of_lt F1.ns.lt, next_is_new F1, fun p hp => Nat.ne_of_lt (Heap.lt_size (N1 p hp).1), hinv, hlen, ?_, fun ys hi => fin ys _ _ hi⟩
  · intro i h st
    exact ⟨_, st⟩
  · intro i h h' o st e e' k N'
    have q := e.symm.trans st
    exact e'.trans q
  · have : IsRangeIter (g.push { cls := .type "range_iterator", data := .fields #[rawInt 0, rawInt (n : Int), rawInt 1] }) g.objs.size (0 + ((0 : Nat) : Int) * 1) ((n : Int) - ((0 : Nat) : Int)) 1 := by
      have q : (g.push { cls := .type "range_iterator", data := .fields #[rawInt 0, rawInt (n : Int), rawInt 1] }).get? g.objs.size = some { cls := .type "range_iterator", data := .fields #[rawInt 0, rawInt (n : Int), rawInt 1] } := Heap.get?_push_size _ rfl
      simpa using q
    exact this
  · intro b hb
    show b < (g.push _).objs.size
    rw [Heap.size_push, List.mem_singleton.mp hb]
    exact Nat.lt_succ_self _
  · intro i v hi ys C D oI oC m₂ h tk E' hP
    obtain ⟨t', rfl⟩ := hP
    exact turn _ i _ _ _ hi ⟨t', by simp⟩ ys C D oI oC m₂ h tk E' trivial
end
end Mine
end
section
open PySem PySem.W PySem.Calls PyProof.Rows PyProof
set_option Elab.async false
namespace Mine
theorem setGen_toks (s : Shared) (g : Nat) (x : GenState) : (s.setGen g x).toks = s.toks := rfl
/-- no step takes a token back -/
theorem runs_toks {M : Model} {Γ : Ctx} {p : Pos} {t : Sem Fin} {fs : List Frame} {s : Shared} {e : End} {s' : Shared} (h : Runs M Γ p t fs s e s') : s.toks ≤ s'.toks := by
  induction h with
  | done => exact Nat.le_refl _
  | raise => exact Nat.le_refl _
  | yield => exact Nat.le_refl _
  | fresh _ ih => exact Nat.le_trans (Nat.le_succ _) ih
  | call _ _ a b => exact Nat.le_trans a b
  | resumeFresh _ _ _ _ a b => exact Nat.le_trans a b
  | resumeSuspended _ _ _ _ a b => exact Nat.le_trans a b
  | segRet _ _ a b => exact Nat.le_trans a b
  | segGen _ _ a b => exact Nat.le_trans a b
  | segSuspGen _ _ _ _ a b => exact Nat.le_trans a b
  | _ => assumption
theorem wakes_toks {M : Model} {Γ : Ctx} {p : Pos} {g : Nat} {r : Resume} {s s' : Shared} {res : GenResult} (h : Wakes M Γ p g r s res s') : s.toks ≤ s'.toks := by
  unfold Wakes at h
  split at h
  · exact h.elim
  · split at h
    · obtain ⟨e₁, s₁, hr, _, _, rfl⟩ := h; have := runs_toks hr; exact this
    · rw [h.2]; exact Nat.le_refl _
    · rw [h.2]; exact Nat.le_refl _
  · obtain ⟨e₁, s₁, hr, _, _, rfl⟩ := h; have := runs_toks hr; exact this
  · rw [h.2]; exact Nat.le_refl _
  · rw [h.2]; exact Nat.le_refl _
theorem wp_toks {α : Type} {M : Model} {Γ : Ctx} {k : Nat} {Q : α → Pos → Shared → Prop} {E : Value → Pos → Shared → Prop} (t : Sem α) :
    ∀ {p : Pos} {s : Shared}, k ≤ s.toks → Sem.wp M Γ t (fun a p' s' => k ≤ s'.toks → Q a p' s') (fun e p' s' => k ≤ s'.toks → E e p' s') p s → Sem.wp M Γ t Q E p s := by
  induction t with
  | pure a => intro p s hk h; rw [Sem.wp] at h ⊢; exact h hk
  | raise e => intro p s hk h; rw [Sem.wp] at h ⊢; exact h hk
  | load a part c ih => intro p s hk h; rw [Sem.wp] at h ⊢; obtain ⟨o, ho, h⟩ := h; exact ⟨o, ho, ih o hk h⟩
  | update a part f c ih => intro p s hk h; rw [Sem.wp] at h ⊢; exact ⟨h.1, ih () hk h.2⟩
  | fresh c ih => intro p s hk h; rw [Sem.wp] at h ⊢; exact ih _ (Nat.le_succ_of_le hk) h
  | choose src n c ih => intro p s hk h; rw [Sem.wp] at h ⊢; exact ⟨h.1, ih _ hk h.2⟩
  | call c hd g l kk ih => intro p s hk h; rw [Sem.wp] at h ⊢; obtain ⟨r, s', hr, h⟩ := h; exact ⟨r, s', hr, ih r (Nat.le_trans hk (runs_toks hr)) h⟩
  | genState g c ih => intro p s hk h; rw [Sem.wp] at h ⊢; obtain ⟨st, hs, h⟩ := h; exact ⟨st, hs, ih _ hk h⟩
  | resume g r l c ih => intro p s hk h; rw [Sem.wp] at h ⊢; obtain ⟨res, s', hr, h⟩ := h; exact ⟨res, s', hr, ih res (Nat.le_trans hk (wakes_toks hr)) h⟩
  | _ => intro p s hk h; rw [Sem.wp] at h ⊢; first | exact h | (rename_i ih; exact ih _ hk h)
/-- what is known of the tokens ahead is known behind -/
theorem wpAny_toks {α : Type} {M : Model} {A : Around} {t : Sem α} {Q : α → Shared → Prop} {E : Value → Shared → Prop} {s : Shared} {k : Nat} (hk : k ≤ s.toks)
    (h : wpAny M A t (fun a s' => k ≤ s'.toks → Q a s') (fun e s' => k ≤ s'.toks → E e s') s) : wpAny M A t Q E s := fun Γ p hΓ => wp_toks t hk (h Γ p hΓ)
theorem codeAny_toks {M : Model} {A : Around} {c : Code} {R : Result → Shared → Prop} {s : Shared} {k : Nat} (hk : k ≤ s.toks) (h : codeAny M A c (fun r s' => k ≤ s'.toks → R r s') s) : codeAny M A c R s := fun Γ p hc hb => by
  obtain ⟨r, s', hr, h⟩ := h Γ p hc hb
  exact ⟨r, s', hr, h (Nat.le_trans hk (runs_toks hr))⟩
end Mine
end
section
open PySem PySem.W PySem.Calls PyProof.Rows PyProof
set_option Elab.async false
set_option maxRecDepth 100000
namespace Mine
noncomputable abbrev TupO (h : Heap) (T : Addr) (vs : Array Value) : Prop := h.get? T = some { cls := .type "tuple", data := .seq vs }
theorem upd_tup {prog : Program} {w : World} {A : Around} {E : Value → Shared → Prop} {s : Shared} {T : Addr} {vs : Array Value} {x : Value} {k : Nat} {Q : Unit → Shared → Prop} (hT : TupO s.heap T vs) (hz : vs.size ≤ sizeLine)
    (h : ∀ h', TupO h' T (vs.setIfInBounds k x) → Heap.SameBut T s.heap h' → Q () { s with heap := h' }) :
    wpAny (model prog w) A (updateSeq T (·.setIfInBounds k x)) Q E s := by
  refine wpAny_updateSeq hT rfl (h _ ?_ (Heap.SameBut.update ..)) hz (by rw [Array.size_setIfInBounds]; exact Nat.le_succ_of_le hz)
  show Heap.get? _ T = _
  rw [Heap.get?_update_self _ hT rfl]
  simp [Obj.mapSeq]
theorem Draws.tuple {prog : Program} {w : World} {A : Around} (hh : A.handled = none) (it l : Addr) (hne : l ≠ it) (items : Array Value) :
    Draws prog w A it [it, l] items.size (fun i v => items[i]? = some v) (fun i h => IsTupIter h it l i ∧ IsTup h l items) where
  live := fun _ _ st => let ⟨o, ho, _⟩ := st.1; ⟨o, ho⟩
  frame := fun _ _ _ st hk => ⟨(let ⟨o, ho, r⟩ := st.1; ⟨o, hk it (by simp) o ho, r⟩), (let ⟨o, ho, r⟩ := st.2; ⟨o, hk l (by simp) o ho, r⟩)⟩
  item := fun i s Q E hi st hQ => by
    refine nextOf_tup_item st.1 st.2 (x := items[i]) (by simp [hi]) fun h' hit' hs' => ?_
    exact hQ _ h' s.toks (by simp [hi]) ⟨hit', st.2.extBut hs'.extBut hne⟩ hs'
  done := fun s Q E st hE => nextOf_tup_end hh st.1 st.2 (by simp) hE
structure ZAp2 (z TI TO i1 i2 : Addr) (fp1 fp2 : List Addr) : Prop where
  nz_TI : z ≠ TI
  nz_TO : z ≠ TO
  nz_i1 : z ≠ i1
  nz_i2 : z ≠ i2
  nTI_TO : TI ≠ TO
  nTI_i1 : TI ≠ i1
  nTI_i2 : TI ≠ i2
  nTO_i1 : TO ≠ i1
  nTO_i2 : TO ≠ i2
  ni1_i2 : i1 ≠ i2
  f1 : ∀ b ∈ fp1, b ∉ [z, TO, i2]
  m1 : i1 ∈ fp1
  f2 : ∀ b ∈ fp2, b ∉ [z, TO, i1]
  m2 : i2 ∈ fp2
noncomputable abbrev KeepW2 (z TO i1 i2 : Addr) (h h' : Heap) : Prop := ∀ c o, c ∉ [z, TO, i1, i2] → h.get? c = some o → h'.get? c = some o
section
variable {prog : Program} {w : World} {A : Around} {E : Value → Shared → Prop} {s : Shared} {z TI TO i1 i2 : Addr} {n k : Nat} {a1 a2 : Value} {fp1 : List Addr} {P1 : Nat → Value → Prop} {St1 : Nat → Heap → Prop} {fp2 : List Addr} {P2 : Nat → Value → Prop} {St2 : Nat → Heap → Prop}
theorem zip2_item {Q : Value → Shared → Prop} (D1 : Draws prog w A i1 fp1 n P1 St1) (D2 : Draws prog w A i2 fp2 n P2 St2) (ap : ZAp2 z TI TO i1 i2 fp1 fp2) (hk : k < n)
    (hz : IsZip s.heap z TI TO .none) (hTI : TupO s.heap TI #[.ref i1, .ref i2]) (hTO : TupO s.heap TO #[a1, a2]) (st1 : St1 k s.heap) (st2 : St2 k s.heap)
    (hQ : ∀ x1 x2 h' tk, P1 k x1 → P2 k x2 → IsZip h' z TI TO (rawInt s.heap.objs.size) → TupO h' TO #[x1, x2] → St1 (k + 1) h' → St2 (k + 1) h' → TupO h' s.heap.objs.size #[x1, x2] → KeepW2 z TO i1 i2 s.heap h' → Q (.ref s.heap.objs.size) { s with heap := h', toks := tk }) :
    wpAny (model prog w) A (Builtin.«zip.__next__» ⟨[.ref z], []⟩) (fun fin s' => ∃ v, fin = .done (.ret v) ∧ Q v s') E s := by
  show wpAny _ _ (field (.ref z) 2 >>= _) _ _ _
  refine wpAny_bind (wpAny_field hz rfl (x := .bool false) rfl ?_)
  show wpAny _ _ (field (.ref z) 3 >>= _) _ _ _
  refine wpAny_bind (wpAny_field hz rfl (x := .ref TI) rfl ?_)
  refine wpAny_bind (wpAny_seqItems hTI rfl ?_)
  show wpAny _ _ (Builtin.SmallTypes.ownedTupleIsFree (.ref z) >>= _) _ _ _
  refine wpAny_bind ?_
  unfold Builtin.SmallTypes.ownedTupleIsFree
  refine wpAny_bind (wpAny_field hz rfl (x := .none) rfl (wpAny_pure ?_))
  simp only [if_true]
  refine wpAny_bind (wpAny_rule ?_)
  refine wpAny_bind (wpAny_field hz rfl (x := .ref TO) rfl ?_)
  refine wpAny_bind (wpAny_setField_rec hz (by simp) fun h0 hz0 hs0 => ?_)
  replace hz0 : IsZip h0 z TI TO .ellipsis := hz0
  refine wpAny_bind ?_
  simp only [List.zipIdx_cons, List.zipIdx_nil, List.forIn_cons, List.forIn_nil]
  have hTO0 : TupO h0 TO #[a1, a2] := hs0.extBut _ _ ap.nz_TO.symm hTO
  have st1_0 : St1 k h0 := D1.frame _ _ _ st1 fun b hb o e => hs0.extBut _ _ (fun x => ap.f1 b hb (by simp [x])) e
  have st2_0 : St2 k h0 := D2.frame _ _ _ st2 fun b hb o e => hs0.extBut _ _ (fun x => ap.f2 b hb (by simp [x])) e
  have K0 : KeepW2 z TO i1 i2 s.heap h0 := fun c o hc e => hs0.extBut _ _ (fun x => hc (by simp [x])) e
  have sz0 : h0.objs.size = s.heap.objs.size := hs0.1
  refine wpAny_bind (wpAny_bind (wpAny_onRaise ?_))
  show wpAny _ _ (Builtin.SmallTypes.nextOf (.ref i1) >>= _) _ _ _
  refine wpAny_bind (D1.item k _ _ _ hk st1_0 fun x1 h1 tk1 hP1 st1_1 hs1 => wpAny_pure ?_)
  have hz1 : IsZip h1 z TI TO .ellipsis := hs1.extBut _ _ ap.nz_i1 hz0
  have hTO1 : TupO h1 TO #[a1, a2] := hs1.extBut _ _ ap.nTO_i1 hTO0
  have st2_1 : St2 k h1 := D2.frame _ _ _ st2_0 fun b hb o e => hs1.extBut _ _ (fun x => ap.f2 b hb (by simp [x])) e
  have K1 : KeepW2 z TO i1 i2 s.heap h1 := fun c o hc e => hs1.extBut _ _ (fun x => hc (by simp [x])) (K0 c o hc e)
  have sz1 : h1.objs.size = s.heap.objs.size := hs1.1.trans sz0
  refine wpAny_bind (wpAny_seqItems hTO1 rfl ?_)
  refine wpAny_bind (upd_tup hTO1 (by simp [sizeLine_eq]) fun h2 hTO2 hs2 => ?_)
  replace hTO2 : TupO h2 TO #[x1, a2] := hTO2
  have hz2 : IsZip h2 z TI TO .ellipsis := hs2.extBut _ _ ap.nz_TO hz1
  have st1_2 : St1 (k + 1) h2 := D1.frame _ _ _ st1_1 fun b hb o e => hs2.extBut _ _ (fun x => ap.f1 b hb (by simp [x])) e
  have st2_2 : St2 k h2 := D2.frame _ _ _ st2_1 fun b hb o e => hs2.extBut _ _ (fun x => ap.f2 b hb (by simp [x])) e
  have K2 : KeepW2 z TO i1 i2 s.heap h2 := fun c o hc e => hs2.extBut _ _ (fun x => hc (by simp [x])) (K1 c o hc e)
  have sz2 : h2.objs.size = s.heap.objs.size := hs2.1.trans sz1
  refine wpAny_bind (wpAny_letGo (wpAny_pure ?_))
  refine wpAny_bind (wpAny_bind (wpAny_onRaise ?_))
  show wpAny _ _ (Builtin.SmallTypes.nextOf (.ref i2) >>= _) _ _ _
  refine wpAny_bind (D2.item k _ _ _ hk st2_2 fun x2 h3 tk2 hP2 st2_3 hs3 => wpAny_pure ?_)
  have hz3 : IsZip h3 z TI TO .ellipsis := hs3.extBut _ _ ap.nz_i2 hz2
  have hTO3 : TupO h3 TO #[x1, a2] := hs3.extBut _ _ ap.nTO_i2 hTO2
  have st1_3 : St1 (k + 1) h3 := D1.frame _ _ _ st1_2 fun b hb o e => hs3.extBut _ _ (fun x => ap.f1 b hb (by simp [x])) e
  have K3 : KeepW2 z TO i1 i2 s.heap h3 := fun c o hc e => hs3.extBut _ _ (fun x => hc (by simp [x])) (K2 c o hc e)
  have sz3 : h3.objs.size = s.heap.objs.size := hs3.1.trans sz2
  refine wpAny_bind (wpAny_seqItems hTO3 rfl ?_)
  refine wpAny_bind (upd_tup hTO3 (by simp [sizeLine_eq]) fun h4 hTO4 hs4 => ?_)
  replace hTO4 : TupO h4 TO #[x1, x2] := hTO4
  have hz4 : IsZip h4 z TI TO .ellipsis := hs4.extBut _ _ ap.nz_TO hz3
  have st1_4 : St1 (k + 1) h4 := D1.frame _ _ _ st1_3 fun b hb o e => hs4.extBut _ _ (fun x => ap.f1 b hb (by simp [x])) e
  have st2_4 : St2 (k + 1) h4 := D2.frame _ _ _ st2_3 fun b hb o e => hs4.extBut _ _ (fun x => ap.f2 b hb (by simp [x])) e
  have K4 : KeepW2 z TO i1 i2 s.heap h4 := fun c o hc e => hs4.extBut _ _ (fun x => hc (by simp [x])) (K3 c o hc e)
  have sz4 : h4.objs.size = s.heap.objs.size := hs4.1.trans sz3
  refine wpAny_bind (wpAny_letGo (wpAny_pure (wpAny_pure ?_)))
  refine wpAny_bind (wpAny_seqItems hTO4 rfl ?_)
  refine wpAny_bind (wpAny_newTuple ?_)
  show wpAny _ _ (Builtin.SmallTypes.ownedTupleHandOut (.ref z) (.ref h4.objs.size) >>= _) _ _ _
  refine wpAny_bind ?_
  unfold Builtin.SmallTypes.ownedTupleHandOut
  have hzp : IsZip (h4.push { cls := .type "tuple", data := .seq #[x1, x2] }) z TI TO .ellipsis := Heap.get?_push_of_some _ hz4
  refine wpAny_bind (wpAny_setField_rec hzp (by simp) fun hA hzA hsA => ?_)
  replace hzA : IsZip hA z TI TO (rawInt h4.objs.size) := hzA
  refine wpAny_setField_rec hzA (by simp) fun hB hzB hsB => ?_
  replace hzB : IsZip hB z TI TO (rawInt h4.objs.size) := hzB
  have hzlt : z < h4.objs.size := Heap.lt_size hz4
  have up : ∀ c o, c ≠ z → h4.get? c = some o → hB.get? c = some o := fun c o c1 e => hsB.extBut _ _ c1 (hsA.extBut _ _ c1 (Heap.get?_push_of_some _ e))
  have hT : TupO hB h4.objs.size #[x1, x2] := hsB.extBut _ _ (Nat.ne_of_gt hzlt) (hsA.extBut _ _ (Nat.ne_of_gt hzlt) (Heap.get?_push_size _ rfl))
  rw [sz4] at hzB hT
  refine wpAny_pure ⟨_, rfl, ?_⟩
  show Q (.ref h4.objs.size) _
  rw [sz4]
  exact hQ x1 x2 hB _ hP1 hP2 hzB (up _ _ ap.nz_TO.symm hTO4) (D1.frame _ _ _ st1_4 fun b hb o e => up b o (fun x => ap.f1 b hb (by simp [x])) e) (D2.frame _ _ _ st2_4 fun b hb o e => up b o (fun x => ap.f2 b hb (by simp [x])) e) hT fun c o hc e => up c o (fun x => hc (by simp [x])) (K4 c o hc e)
theorem zip2_end {Q : Fin → Shared → Prop} (D1 : Draws prog w A i1 fp1 n P1 St1) (ap : ZAp2 z TI TO i1 i2 fp1 fp2)
    (hz : IsZip s.heap z TI TO .none) (hTI : TupO s.heap TI #[.ref i1, .ref i2]) (st1 : St1 n s.heap)
    (hE : ∀ h' e, KeepW2 z TO i1 i2 s.heap h' → (∃ o, h'.get? e = some o ∧ o.cls = .type "StopIteration") → E (.ref e) { s with heap := h' }) :
    wpAny (model prog w) A (Builtin.«zip.__next__» ⟨[.ref z], []⟩) Q E s := by
  show wpAny _ _ (field (.ref z) 2 >>= _) _ _ _
  refine wpAny_bind (wpAny_field hz rfl (x := .bool false) rfl ?_)
  show wpAny _ _ (field (.ref z) 3 >>= _) _ _ _
  refine wpAny_bind (wpAny_field hz rfl (x := .ref TI) rfl ?_)
  refine wpAny_bind (wpAny_seqItems hTI rfl ?_)
  show wpAny _ _ (Builtin.SmallTypes.ownedTupleIsFree (.ref z) >>= _) _ _ _
  refine wpAny_bind ?_
  unfold Builtin.SmallTypes.ownedTupleIsFree
  refine wpAny_bind (wpAny_field hz rfl (x := .none) rfl (wpAny_pure ?_))
  simp only [if_true]
  refine wpAny_bind (wpAny_rule ?_)
  refine wpAny_bind (wpAny_field hz rfl (x := .ref TO) rfl ?_)
  refine wpAny_bind (wpAny_setField_rec hz (by simp) fun h0 hz0 hs0 => ?_)
  replace hz0 : IsZip h0 z TI TO .ellipsis := hz0
  refine wpAny_bind ?_
  simp only [List.zipIdx_cons, List.zipIdx_nil, List.forIn_cons, List.forIn_nil]
  have st1_0 : St1 n h0 := D1.frame _ _ _ st1 fun b hb o e => hs0.extBut _ _ (fun x => ap.f1 b hb (by simp [x])) e
  refine wpAny_bind (wpAny_bind (wpAny_onRaise ?_))
  show wpAny _ _ (Builtin.SmallTypes.nextOf (.ref i1) >>= _) _ _ _
  refine wpAny_bind (D1.done _ _ _ st1_0 fun h1 e hs1 he => ?_)
  obtain ⟨oe, hoe, hce⟩ := he
  have hz1 : IsZip h1 z TI TO .ellipsis := hs1 _ _ ap.nz_i1 hz0
  have hez : e ≠ z := fun x => by subst x; rw [hz1] at hoe; cases hoe; simp at hce
  refine wpAny_setField_rec hz1 (by simp) fun h2 _ hs2 => hE h2 e (fun c o hc x => hs2.extBut _ _ (fun y => hc (by simp [y])) (hs1 _ _ (fun y => hc (by simp [y])) (hs0.extBut _ _ (fun y => hc (by simp [y])) x))) ⟨oe, hs2.extBut _ _ hez hoe, hce⟩
theorem zip2_walks (D1 : Draws prog w A.in1 i1 fp1 n P1 St1) (D2 : Draws prog w A.in1 i2 fp2 n P2 St2) (ap : ZAp2 z TI TO i1 i2 fp1 fp2) :
    WalksT prog w A z (z :: TI :: TO :: (fp1 ++ fp2)) [z, TO, i1, i2] n
      (fun i vals => ∃ x1 x2, P1 i x1 ∧ P2 i x2 ∧ vals = #[x1, x2])
      (fun i h => IsZip h z TI TO .none ∧ TupO h TI #[.ref i1, .ref i2] ∧ (∃ a1 a2, TupO h TO #[a1, a2]) ∧ St1 i h ∧ St2 i h)
      (fun i T h => IsZip h z TI TO (rawInt T) ∧ TupO h TI #[.ref i1, .ref i2] ∧ (∃ a1 a2, TupO h TO #[a1, a2]) ∧ St1 (i + 1) h ∧ St2 (i + 1) h ∧ T ∉ [z, TO, i1, i2]) where
  sub := fun c hc => by
    simp only [List.mem_cons, List.not_mem_nil, or_false] at hc
    simp only [List.mem_cons, List.mem_append]
    rcases hc with rfl | rfl | rfl | rfl
    · simp
    · simp
    · simp [ap.m1]
    · simp [ap.m2]
  frame := fun i h h' hst hk => by
    obtain ⟨hz, hTI, ⟨a1, a2, hTO⟩, st1, st2⟩ := hst
    exact ⟨hk z (by simp) _ hz, hk TI (by simp) _ hTI, ⟨a1, a2, hk TO (by simp) _ hTO⟩, D1.frame _ _ _ st1 fun b hb o e => hk b (by simp [hb]) o e, D2.frame _ _ _ st2 fun b hb o e => hk b (by simp [hb]) o e⟩
  item := fun i s Q E hi hst hQ => by
    obtain ⟨hz, hTI, ⟨a1, a2, hTO⟩, st1, st2⟩ := hst
    have hT : s.TypeIs (.ref z) "zip" := ⟨_, hz, rfl⟩
    unfold pyNext
    refine wpAny_bind (wpAny_attempt (wpAny_callSpecial?_slot (name := Str.ofString "__next__") hT F.slot_zip_next (wpAny_call_entry F.slot_zip_next hT F.entry_zip_next ?_ (F.args_zip_next_1 _))))
    refine zip2_item D1 D2 ap hi hz hTI hTO st1 st2 fun x1 x2 h' tk hP1 hP2 hz' hTO' q1 q2 hT' hk => ?_
    have lt : ∀ {c o}, s.heap.get? c = some o → s.heap.objs.size ≠ c := fun e => Nat.ne_of_gt (Heap.lt_size e)
    have l1 : s.heap.objs.size ≠ i1 := by obtain ⟨o, e⟩ := D1.live _ _ st1; exact lt e
    have l2 : s.heap.objs.size ≠ i2 := by obtain ⟨o, e⟩ := D2.live _ _ st2; exact lt e
    exact wpAny_pure (hQ s.heap.objs.size #[x1, x2] h' tk ⟨x1, x2, hP1, hP2, rfl⟩ (Nat.le_refl _) ⟨_, hT', rfl, _, rfl⟩
      ⟨hz', hk _ _ (by simp only [List.mem_cons, List.not_mem_nil, or_false, not_or]; exact ⟨ap.nz_TI.symm, ap.nTI_TO, ap.nTI_i1, ap.nTI_i2⟩) hTI, ⟨_, _, hTO'⟩, q1, q2, (by simp only [List.mem_cons, List.not_mem_nil, or_false, not_or]; exact ⟨lt hz, lt hTO, l1, l2⟩)⟩ fun c o hc e => hk c o hc e)
  go := fun elts k pos i T s Q E hm hQ => by
    obtain ⟨hz, hTI, ⟨a1, a2, hTO⟩, st1, st2, _⟩ := hm
    refine wpAny_letOwnedTupleGo_zip hz fun h' hz' hs' => hQ h' ⟨hz', hs'.extBut _ _ ap.nz_TI.symm hTI, ⟨a1, a2, hs'.extBut _ _ ap.nz_TO.symm hTO⟩, D1.frame _ _ _ st1 fun b hb o e => hs'.extBut _ _ (fun x => ap.f1 b hb (by simp [x])) e, D2.frame _ _ _ st2 fun b hb o e => hs'.extBut _ _ (fun x => ap.f2 b hb (by simp [x])) e⟩ fun c o hc e => hs'.extBut _ _ (fun x => hc (by simp [x])) e
  apart := fun i T h hm => by
    obtain ⟨_, _, _, _, _, t⟩ := hm
    exact t
  done := fun s Q E hst hQ => by
    obtain ⟨hz, hTI, _, st1, _⟩ := hst
    have hT : s.TypeIs (.ref z) "zip" := ⟨_, hz, rfl⟩
    unfold pyNext
    refine wpAny_bind (wpAny_attempt (wpAny_callSpecial?_slot (name := Str.ofString "__next__") hT F.slot_zip_next (wpAny_call_entry F.slot_zip_next hT F.entry_zip_next (zip2_end D1 ap hz hTI st1 fun h' e hk he => ?_) (F.args_zip_next_1 _))))
    obtain ⟨o, ho, hc⟩ := he
    refine wpAny_bind (wpAny_isInstance (T := "StopIteration") (b := true) ⟨o, ho, hc⟩ isSubtype_stop ?_)
    exact wpAny_pure (hQ _ _ fun c o hc e => hk c o hc e)
  self := fun i s Q E hst hQ => wpAny_pyIter_zip hst.1 hQ
end
structure ZAp3 (z TI TO i1 i2 i3 : Addr) (fp1 fp2 fp3 : List Addr) : Prop where
  nz_TI : z ≠ TI
  nz_TO : z ≠ TO
  nz_i1 : z ≠ i1
  nz_i2 : z ≠ i2
  nz_i3 : z ≠ i3
  nTI_TO : TI ≠ TO
  nTI_i1 : TI ≠ i1
  nTI_i2 : TI ≠ i2
  nTI_i3 : TI ≠ i3
  nTO_i1 : TO ≠ i1
  nTO_i2 : TO ≠ i2
  nTO_i3 : TO ≠ i3
  ni1_i2 : i1 ≠ i2
  ni1_i3 : i1 ≠ i3
  ni2_i3 : i2 ≠ i3
  f1 : ∀ b ∈ fp1, b ∉ [z, TO, i2, i3]
  m1 : i1 ∈ fp1
  f2 : ∀ b ∈ fp2, b ∉ [z, TO, i1, i3]
  m2 : i2 ∈ fp2
  f3 : ∀ b ∈ fp3, b ∉ [z, TO, i1, i2]
  m3 : i3 ∈ fp3
noncomputable abbrev KeepW3 (z TO i1 i2 i3 : Addr) (h h' : Heap) : Prop := ∀ c o, c ∉ [z, TO, i1, i2, i3] → h.get? c = some o → h'.get? c = some o
section
variable {prog : Program} {w : World} {A : Around} {E : Value → Shared → Prop} {s : Shared} {z TI TO i1 i2 i3 : Addr} {n k : Nat} {a1 a2 a3 : Value} {fp1 : List Addr} {P1 : Nat → Value → Prop} {St1 : Nat → Heap → Prop} {fp2 : List Addr} {P2 : Nat → Value → Prop} {St2 : Nat → Heap → Prop} {fp3 : List Addr} {P3 : Nat → Value → Prop} {St3 : Nat → Heap → Prop}
theorem zip3_item {Q : Value → Shared → Prop} (D1 : Draws prog w A i1 fp1 n P1 St1) (D2 : Draws prog w A i2 fp2 n P2 St2) (D3 : Draws prog w A i3 fp3 n P3 St3) (ap : ZAp3 z TI TO i1 i2 i3 fp1 fp2 fp3) (hk : k < n)
    (hz : IsZip s.heap z TI TO .none) (hTI : TupO s.heap TI #[.ref i1, .ref i2, .ref i3]) (hTO : TupO s.heap TO #[a1, a2, a3]) (st1 : St1 k s.heap) (st2 : St2 k s.heap) (st3 : St3 k s.heap)
    (hQ : ∀ x1 x2 x3 h' tk, P1 k x1 → P2 k x2 → P3 k x3 → IsZip h' z TI TO (rawInt s.heap.objs.size) → TupO h' TO #[x1, x2, x3] → St1 (k + 1) h' → St2 (k + 1) h' → St3 (k + 1) h' → TupO h' s.heap.objs.size #[x1, x2, x3] → KeepW3 z TO i1 i2 i3 s.heap h' → Q (.ref s.heap.objs.size) { s with heap := h', toks := tk }) :
    wpAny (model prog w) A (Builtin.«zip.__next__» ⟨[.ref z], []⟩) (fun fin s' => ∃ v, fin = .done (.ret v) ∧ Q v s') E s := by
  show wpAny _ _ (field (.ref z) 2 >>= _) _ _ _
  refine wpAny_bind (wpAny_field hz rfl (x := .bool false) rfl ?_)
  show wpAny _ _ (field (.ref z) 3 >>= _) _ _ _
  refine wpAny_bind (wpAny_field hz rfl (x := .ref TI) rfl ?_)
  refine wpAny_bind (wpAny_seqItems hTI rfl ?_)
  show wpAny _ _ (Builtin.SmallTypes.ownedTupleIsFree (.ref z) >>= _) _ _ _
  refine wpAny_bind ?_
  unfold Builtin.SmallTypes.ownedTupleIsFree
  refine wpAny_bind (wpAny_field hz rfl (x := .none) rfl (wpAny_pure ?_))
  simp only [if_true]
  refine wpAny_bind (wpAny_rule ?_)
  refine wpAny_bind (wpAny_field hz rfl (x := .ref TO) rfl ?_)
  refine wpAny_bind (wpAny_setField_rec hz (by simp) fun h0 hz0 hs0 => ?_)
  replace hz0 : IsZip h0 z TI TO .ellipsis := hz0
  refine wpAny_bind ?_
  simp only [List.zipIdx_cons, List.zipIdx_nil, List.forIn_cons, List.forIn_nil]
  have hTO0 : TupO h0 TO #[a1, a2, a3] := hs0.extBut _ _ ap.nz_TO.symm hTO
  have st1_0 : St1 k h0 := D1.frame _ _ _ st1 fun b hb o e => hs0.extBut _ _ (fun x => ap.f1 b hb (by simp [x])) e
  have st2_0 : St2 k h0 := D2.frame _ _ _ st2 fun b hb o e => hs0.extBut _ _ (fun x => ap.f2 b hb (by simp [x])) e
  have st3_0 : St3 k h0 := D3.frame _ _ _ st3 fun b hb o e => hs0.extBut _ _ (fun x => ap.f3 b hb (by simp [x])) e
  have K0 : KeepW3 z TO i1 i2 i3 s.heap h0 := fun c o hc e => hs0.extBut _ _ (fun x => hc (by simp [x])) e
  have sz0 : h0.objs.size = s.heap.objs.size := hs0.1
  refine wpAny_bind (wpAny_bind (wpAny_onRaise ?_))
  show wpAny _ _ (Builtin.SmallTypes.nextOf (.ref i1) >>= _) _ _ _
  refine wpAny_bind (D1.item k _ _ _ hk st1_0 fun x1 h1 tk1 hP1 st1_1 hs1 => wpAny_pure ?_)
  have hz1 : IsZip h1 z TI TO .ellipsis := hs1.extBut _ _ ap.nz_i1 hz0
  have hTO1 : TupO h1 TO #[a1, a2, a3] := hs1.extBut _ _ ap.nTO_i1 hTO0
  have st2_1 : St2 k h1 := D2.frame _ _ _ st2_0 fun b hb o e => hs1.extBut _ _ (fun x => ap.f2 b hb (by simp [x])) e
  have st3_1 : St3 k h1 := D3.frame _ _ _ st3_0 fun b hb o e => hs1.extBut _ _ (fun x => ap.f3 b hb (by simp [x])) e
  have K1 : KeepW3 z TO i1 i2 i3 s.heap h1 := fun c o hc e => hs1.extBut _ _ (fun x => hc (by simp [x])) (K0 c o hc e)
  have sz1 : h1.objs.size = s.heap.objs.size := hs1.1.trans sz0
  refine wpAny_bind (wpAny_seqItems hTO1 rfl ?_)
  refine wpAny_bind (upd_tup hTO1 (by simp [sizeLine_eq]) fun h2 hTO2 hs2 => ?_)
  replace hTO2 : TupO h2 TO #[x1, a2, a3] := hTO2
  have hz2 : IsZip h2 z TI TO .ellipsis := hs2.extBut _ _ ap.nz_TO hz1
  have st1_2 : St1 (k + 1) h2 := D1.frame _ _ _ st1_1 fun b hb o e => hs2.extBut _ _ (fun x => ap.f1 b hb (by simp [x])) e
  have st2_2 : St2 k h2 := D2.frame _ _ _ st2_1 fun b hb o e => hs2.extBut _ _ (fun x => ap.f2 b hb (by simp [x])) e
  have st3_2 : St3 k h2 := D3.frame _ _ _ st3_1 fun b hb o e => hs2.extBut _ _ (fun x => ap.f3 b hb (by simp [x])) e
  have K2 : KeepW3 z TO i1 i2 i3 s.heap h2 := fun c o hc e => hs2.extBut _ _ (fun x => hc (by simp [x])) (K1 c o hc e)
  have sz2 : h2.objs.size = s.heap.objs.size := hs2.1.trans sz1
  refine wpAny_bind (wpAny_letGo (wpAny_pure ?_))
  refine wpAny_bind (wpAny_bind (wpAny_onRaise ?_))
  show wpAny _ _ (Builtin.SmallTypes.nextOf (.ref i2) >>= _) _ _ _
  refine wpAny_bind (D2.item k _ _ _ hk st2_2 fun x2 h3 tk2 hP2 st2_3 hs3 => wpAny_pure ?_)
  have hz3 : IsZip h3 z TI TO .ellipsis := hs3.extBut _ _ ap.nz_i2 hz2
  have hTO3 : TupO h3 TO #[x1, a2, a3] := hs3.extBut _ _ ap.nTO_i2 hTO2
  have st1_3 : St1 (k + 1) h3 := D1.frame _ _ _ st1_2 fun b hb o e => hs3.extBut _ _ (fun x => ap.f1 b hb (by simp [x])) e
  have st3_3 : St3 k h3 := D3.frame _ _ _ st3_2 fun b hb o e => hs3.extBut _ _ (fun x => ap.f3 b hb (by simp [x])) e
  have K3 : KeepW3 z TO i1 i2 i3 s.heap h3 := fun c o hc e => hs3.extBut _ _ (fun x => hc (by simp [x])) (K2 c o hc e)
  have sz3 : h3.objs.size = s.heap.objs.size := hs3.1.trans sz2
  refine wpAny_bind (wpAny_seqItems hTO3 rfl ?_)
  refine wpAny_bind (upd_tup hTO3 (by simp [sizeLine_eq]) fun h4 hTO4 hs4 => ?_)
  replace hTO4 : TupO h4 TO #[x1, x2, a3] := hTO4
  have hz4 : IsZip h4 z TI TO .ellipsis := hs4.extBut _ _ ap.nz_TO hz3
  have st1_4 : St1 (k + 1) h4 := D1.frame _ _ _ st1_3 fun b hb o e => hs4.extBut _ _ (fun x => ap.f1 b hb (by simp [x])) e
  have st2_4 : St2 (k + 1) h4 := D2.frame _ _ _ st2_3 fun b hb o e => hs4.extBut _ _ (fun x => ap.f2 b hb (by simp [x])) e
  have st3_4 : St3 k h4 := D3.frame _ _ _ st3_3 fun b hb o e => hs4.extBut _ _ (fun x => ap.f3 b hb (by simp [x])) e
  have K4 : KeepW3 z TO i1 i2 i3 s.heap h4 := fun c o hc e => hs4.extBut _ _ (fun x => hc (by simp [x])) (K3 c o hc e)
  have sz4 : h4.objs.size = s.heap.objs.size := hs4.1.trans sz3
  refine wpAny_bind (wpAny_letGo (wpAny_pure ?_))
  refine wpAny_bind (wpAny_bind (wpAny_onRaise ?_))
  show wpAny _ _ (Builtin.SmallTypes.nextOf (.ref i3) >>= _) _ _ _
  refine wpAny_bind (D3.item k _ _ _ hk st3_4 fun x3 h5 tk3 hP3 st3_5 hs5 => wpAny_pure ?_)
  have hz5 : IsZip h5 z TI TO .ellipsis := hs5.extBut _ _ ap.nz_i3 hz4
  have hTO5 : TupO h5 TO #[x1, x2, a3] := hs5.extBut _ _ ap.nTO_i3 hTO4
  have st1_5 : St1 (k + 1) h5 := D1.frame _ _ _ st1_4 fun b hb o e => hs5.extBut _ _ (fun x => ap.f1 b hb (by simp [x])) e
  have st2_5 : St2 (k + 1) h5 := D2.frame _ _ _ st2_4 fun b hb o e => hs5.extBut _ _ (fun x => ap.f2 b hb (by simp [x])) e
  have K5 : KeepW3 z TO i1 i2 i3 s.heap h5 := fun c o hc e => hs5.extBut _ _ (fun x => hc (by simp [x])) (K4 c o hc e)
  have sz5 : h5.objs.size = s.heap.objs.size := hs5.1.trans sz4
  refine wpAny_bind (wpAny_seqItems hTO5 rfl ?_)
  refine wpAny_bind (upd_tup hTO5 (by simp [sizeLine_eq]) fun h6 hTO6 hs6 => ?_)
  replace hTO6 : TupO h6 TO #[x1, x2, x3] := hTO6
  have hz6 : IsZip h6 z TI TO .ellipsis := hs6.extBut _ _ ap.nz_TO hz5
  have st1_6 : St1 (k + 1) h6 := D1.frame _ _ _ st1_5 fun b hb o e => hs6.extBut _ _ (fun x => ap.f1 b hb (by simp [x])) e
  have st2_6 : St2 (k + 1) h6 := D2.frame _ _ _ st2_5 fun b hb o e => hs6.extBut _ _ (fun x => ap.f2 b hb (by simp [x])) e
  have st3_6 : St3 (k + 1) h6 := D3.frame _ _ _ st3_5 fun b hb o e => hs6.extBut _ _ (fun x => ap.f3 b hb (by simp [x])) e
  have K6 : KeepW3 z TO i1 i2 i3 s.heap h6 := fun c o hc e => hs6.extBut _ _ (fun x => hc (by simp [x])) (K5 c o hc e)
  have sz6 : h6.objs.size = s.heap.objs.size := hs6.1.trans sz5
  refine wpAny_bind (wpAny_letGo (wpAny_pure (wpAny_pure ?_)))
  refine wpAny_bind (wpAny_seqItems hTO6 rfl ?_)
  refine wpAny_bind (wpAny_newTuple ?_)
  show wpAny _ _ (Builtin.SmallTypes.ownedTupleHandOut (.ref z) (.ref h6.objs.size) >>= _) _ _ _
  refine wpAny_bind ?_
  unfold Builtin.SmallTypes.ownedTupleHandOut
  have hzp : IsZip (h6.push { cls := .type "tuple", data := .seq #[x1, x2, x3] }) z TI TO .ellipsis := Heap.get?_push_of_some _ hz6
  refine wpAny_bind (wpAny_setField_rec hzp (by simp) fun hA hzA hsA => ?_)
  replace hzA : IsZip hA z TI TO (rawInt h6.objs.size) := hzA
  refine wpAny_setField_rec hzA (by simp) fun hB hzB hsB => ?_
  replace hzB : IsZip hB z TI TO (rawInt h6.objs.size) := hzB
  have hzlt : z < h6.objs.size := Heap.lt_size hz6
  have up : ∀ c o, c ≠ z → h6.get? c = some o → hB.get? c = some o := fun c o c1 e => hsB.extBut _ _ c1 (hsA.extBut _ _ c1 (Heap.get?_push_of_some _ e))
  have hT : TupO hB h6.objs.size #[x1, x2, x3] := hsB.extBut _ _ (Nat.ne_of_gt hzlt) (hsA.extBut _ _ (Nat.ne_of_gt hzlt) (Heap.get?_push_size _ rfl))
  rw [sz6] at hzB hT
  refine wpAny_pure ⟨_, rfl, ?_⟩
  show Q (.ref h6.objs.size) _
  rw [sz6]
  exact hQ x1 x2 x3 hB _ hP1 hP2 hP3 hzB (up _ _ ap.nz_TO.symm hTO6) (D1.frame _ _ _ st1_6 fun b hb o e => up b o (fun x => ap.f1 b hb (by simp [x])) e) (D2.frame _ _ _ st2_6 fun b hb o e => up b o (fun x => ap.f2 b hb (by simp [x])) e) (D3.frame _ _ _ st3_6 fun b hb o e => up b o (fun x => ap.f3 b hb (by simp [x])) e) hT fun c o hc e => up c o (fun x => hc (by simp [x])) (K6 c o hc e)
theorem zip3_end {Q : Fin → Shared → Prop} (D1 : Draws prog w A i1 fp1 n P1 St1) (ap : ZAp3 z TI TO i1 i2 i3 fp1 fp2 fp3)
    (hz : IsZip s.heap z TI TO .none) (hTI : TupO s.heap TI #[.ref i1, .ref i2, .ref i3]) (st1 : St1 n s.heap)
    (hE : ∀ h' e, KeepW3 z TO i1 i2 i3 s.heap h' → (∃ o, h'.get? e = some o ∧ o.cls = .type "StopIteration") → E (.ref e) { s with heap := h' }) :
    wpAny (model prog w) A (Builtin.«zip.__next__» ⟨[.ref z], []⟩) Q E s := by
  show wpAny _ _ (field (.ref z) 2 >>= _) _ _ _
  refine wpAny_bind (wpAny_field hz rfl (x := .bool false) rfl ?_)
  show wpAny _ _ (field (.ref z) 3 >>= _) _ _ _
  refine wpAny_bind (wpAny_field hz rfl (x := .ref TI) rfl ?_)
  refine wpAny_bind (wpAny_seqItems hTI rfl ?_)
  show wpAny _ _ (Builtin.SmallTypes.ownedTupleIsFree (.ref z) >>= _) _ _ _
  refine wpAny_bind ?_
  unfold Builtin.SmallTypes.ownedTupleIsFree
  refine wpAny_bind (wpAny_field hz rfl (x := .none) rfl (wpAny_pure ?_))
  simp only [if_true]
  refine wpAny_bind (wpAny_rule ?_)
  refine wpAny_bind (wpAny_field hz rfl (x := .ref TO) rfl ?_)
  refine wpAny_bind (wpAny_setField_rec hz (by simp) fun h0 hz0 hs0 => ?_)
  replace hz0 : IsZip h0 z TI TO .ellipsis := hz0
  refine wpAny_bind ?_
  simp only [List.zipIdx_cons, List.zipIdx_nil, List.forIn_cons, List.forIn_nil]
  have st1_0 : St1 n h0 := D1.frame _ _ _ st1 fun b hb o e => hs0.extBut _ _ (fun x => ap.f1 b hb (by simp [x])) e
  refine wpAny_bind (wpAny_bind (wpAny_onRaise ?_))
  show wpAny _ _ (Builtin.SmallTypes.nextOf (.ref i1) >>= _) _ _ _
  refine wpAny_bind (D1.done _ _ _ st1_0 fun h1 e hs1 he => ?_)
  obtain ⟨oe, hoe, hce⟩ := he
  have hz1 : IsZip h1 z TI TO .ellipsis := hs1 _ _ ap.nz_i1 hz0
  have hez : e ≠ z := fun x => by subst x; rw [hz1] at hoe; cases hoe; simp at hce
  refine wpAny_setField_rec hz1 (by simp) fun h2 _ hs2 => hE h2 e (fun c o hc x => hs2.extBut _ _ (fun y => hc (by simp [y])) (hs1 _ _ (fun y => hc (by simp [y])) (hs0.extBut _ _ (fun y => hc (by simp [y])) x))) ⟨oe, hs2.extBut _ _ hez hoe, hce⟩
theorem zip3_walks (D1 : Draws prog w A.in1 i1 fp1 n P1 St1) (D2 : Draws prog w A.in1 i2 fp2 n P2 St2) (D3 : Draws prog w A.in1 i3 fp3 n P3 St3) (ap : ZAp3 z TI TO i1 i2 i3 fp1 fp2 fp3) :
    WalksT prog w A z (z :: TI :: TO :: (fp1 ++ fp2 ++ fp3)) [z, TO, i1, i2, i3] n
      (fun i vals => ∃ x1 x2 x3, P1 i x1 ∧ P2 i x2 ∧ P3 i x3 ∧ vals = #[x1, x2, x3])
      (fun i h => IsZip h z TI TO .none ∧ TupO h TI #[.ref i1, .ref i2, .ref i3] ∧ (∃ a1 a2 a3, TupO h TO #[a1, a2, a3]) ∧ St1 i h ∧ St2 i h ∧ St3 i h)
      (fun i T h => IsZip h z TI TO (rawInt T) ∧ TupO h TI #[.ref i1, .ref i2, .ref i3] ∧ (∃ a1 a2 a3, TupO h TO #[a1, a2, a3]) ∧ St1 (i + 1) h ∧ St2 (i + 1) h ∧ St3 (i + 1) h ∧ T ∉ [z, TO, i1, i2, i3]) where
  sub := fun c hc => by
    simp only [List.mem_cons, List.not_mem_nil, or_false] at hc
    simp only [List.mem_cons, List.mem_append]
    rcases hc with rfl | rfl | rfl | rfl | rfl
    · simp
    · simp
    · simp [ap.m1]
    · simp [ap.m2]
    · simp [ap.m3]
  frame := fun i h h' hst hk => by
    obtain ⟨hz, hTI, ⟨a1, a2, a3, hTO⟩, st1, st2, st3⟩ := hst
    exact ⟨hk z (by simp) _ hz, hk TI (by simp) _ hTI, ⟨a1, a2, a3, hk TO (by simp) _ hTO⟩, D1.frame _ _ _ st1 fun b hb o e => hk b (by simp [hb]) o e, D2.frame _ _ _ st2 fun b hb o e => hk b (by simp [hb]) o e, D3.frame _ _ _ st3 fun b hb o e => hk b (by simp [hb]) o e⟩
  item := fun i s Q E hi hst hQ => by
    obtain ⟨hz, hTI, ⟨a1, a2, a3, hTO⟩, st1, st2, st3⟩ := hst
    have hT : s.TypeIs (.ref z) "zip" := ⟨_, hz, rfl⟩
    unfold pyNext
    refine wpAny_bind (wpAny_attempt (wpAny_callSpecial?_slot (name := Str.ofString "__next__") hT F.slot_zip_next (wpAny_call_entry F.slot_zip_next hT F.entry_zip_next ?_ (F.args_zip_next_1 _))))
    refine zip3_item D1 D2 D3 ap hi hz hTI hTO st1 st2 st3 fun x1 x2 x3 h' tk hP1 hP2 hP3 hz' hTO' q1 q2 q3 hT' hk => ?_
    have lt : ∀ {c o}, s.heap.get? c = some o → s.heap.objs.size ≠ c := fun e => Nat.ne_of_gt (Heap.lt_size e)
    have l1 : s.heap.objs.size ≠ i1 := by obtain ⟨o, e⟩ := D1.live _ _ st1; exact lt e
    have l2 : s.heap.objs.size ≠ i2 := by obtain ⟨o, e⟩ := D2.live _ _ st2; exact lt e
    have l3 : s.heap.objs.size ≠ i3 := by obtain ⟨o, e⟩ := D3.live _ _ st3; exact lt e
    exact wpAny_pure (hQ s.heap.objs.size #[x1, x2, x3] h' tk ⟨x1, x2, x3, hP1, hP2, hP3, rfl⟩ (Nat.le_refl _) ⟨_, hT', rfl, _, rfl⟩
      ⟨hz', hk _ _ (by simp only [List.mem_cons, List.not_mem_nil, or_false, not_or]; exact ⟨ap.nz_TI.symm, ap.nTI_TO, ap.nTI_i1, ap.nTI_i2, ap.nTI_i3⟩) hTI, ⟨_, _, _, hTO'⟩, q1, q2, q3, (by simp only [List.mem_cons, List.not_mem_nil, or_false, not_or]; exact ⟨lt hz, lt hTO, l1, l2, l3⟩)⟩ fun c o hc e => hk c o hc e)
  go := fun elts k pos i T s Q E hm hQ => by
    obtain ⟨hz, hTI, ⟨a1, a2, a3, hTO⟩, st1, st2, st3, _⟩ := hm
    refine wpAny_letOwnedTupleGo_zip hz fun h' hz' hs' => hQ h' ⟨hz', hs'.extBut _ _ ap.nz_TI.symm hTI, ⟨a1, a2, a3, hs'.extBut _ _ ap.nz_TO.symm hTO⟩, D1.frame _ _ _ st1 fun b hb o e => hs'.extBut _ _ (fun x => ap.f1 b hb (by simp [x])) e, D2.frame _ _ _ st2 fun b hb o e => hs'.extBut _ _ (fun x => ap.f2 b hb (by simp [x])) e, D3.frame _ _ _ st3 fun b hb o e => hs'.extBut _ _ (fun x => ap.f3 b hb (by simp [x])) e⟩ fun c o hc e => hs'.extBut _ _ (fun x => hc (by simp [x])) e
  apart := fun i T h hm => by
    obtain ⟨_, _, _, _, _, _, t⟩ := hm
    exact t
  done := fun s Q E hst hQ => by
    obtain ⟨hz, hTI, _, st1, _⟩ := hst
    have hT : s.TypeIs (.ref z) "zip" := ⟨_, hz, rfl⟩
    unfold pyNext
    refine wpAny_bind (wpAny_attempt (wpAny_callSpecial?_slot (name := Str.ofString "__next__") hT F.slot_zip_next (wpAny_call_entry F.slot_zip_next hT F.entry_zip_next (zip3_end D1 ap hz hTI st1 fun h' e hk he => ?_) (F.args_zip_next_1 _))))
    obtain ⟨o, ho, hc⟩ := he
    refine wpAny_bind (wpAny_isInstance (T := "StopIteration") (b := true) ⟨o, ho, hc⟩ isSubtype_stop ?_)
    exact wpAny_pure (hQ _ _ fun c o hc e => hk c o hc e)
  self := fun i s Q E hst hQ => wpAny_pyIter_zip hst.1 hQ
end
end Mine
end
section
open PySem PySem.W PySem.Calls PyProof.Rows PyProof
set_option Elab.async false
set_option maxRecDepth 100000
namespace Mine
set_option maxHeartbeats 2000000
theorem isList_keeps0 {h h' : Heap} {a : Addr} {its : Array Value} (x : h.IsList a its) (k : Keeps h h') : h'.IsList a its := let ⟨o, e, r⟩ := x; ⟨o, k _ _ e, r⟩
/-- a source and its iterator lie off the others -/
theorem fp_off {n l i : Nat} {js : List Nat} (hl : l < n) (h : i ∉ js) (_u : True := trivial) : ∀ b ∈ [n + i, l], b ∉ js.map (n + ·) := by
  intro b hb hm
  obtain ⟨j, hj, e⟩ := List.mem_map.mp hm
  simp only [List.mem_cons, List.not_mem_nil, or_false] at hb
  rcases hb with rfl | rfl
  · have : j = i := by (first | lia | omega)
    exact h (this ▸ hj)
  · (first | lia | omega)
noncomputable abbrev z2H1 (h : Heap) (l1 : Addr) : Heap := Heap.push h { cls := .type "list_iterator", data := .fields #[.ref l1, .int 0 0] }
noncomputable abbrev z2H2 (h : Heap) (l1 l2 : Addr) : Heap := Heap.push (z2H1 h l1) { cls := .type "tuple_iterator", data := .fields #[.ref l2, .int 0 0] }
noncomputable abbrev z2H3 (h : Heap) (l1 l2 : Addr) : Heap := (z2H2 h l1 l2).push { cls := .type "tuple", data := .seq #[.ref (h.objs.size), .ref (z2H1 h l1).objs.size] }
noncomputable abbrev z2H4 (h : Heap) (l1 l2 : Addr) : Heap := (z2H3 h l1 l2).push { cls := .type "tuple", data := .seq #[.none, .none] }
noncomputable abbrev z2H5 (h : Heap) (l1 l2 : Addr) : Heap := (z2H4 h l1 l2).push { cls := .type "zip", data := .fields #[.none, .bool false, .bool false, .ref (z2H2 h l1 l2).objs.size, .ref (z2H3 h l1 l2).objs.size] }
theorem meets_zip2 (l1 l2 : Addr) (xs1 xs2 : Array Value) :
    Meets (Builtin.«zip.__new__» ⟨[.type "zip", .ref l1, .ref l2], []⟩) (fun _ R s => Heap.IsList s.heap l1 xs1 ∧ IsTup s.heap l2 xs2 ∧ R (.ok (.ret (.ref (z2H4 s.heap l1 l2).objs.size))) { s with heap := z2H5 s.heap l1 l2 }) :=
  .of_wp fun prog w A R s h => by
    obtain ⟨hp, g, d, tk, os⟩ := s; obtain ⟨hl1, hl2, h⟩ := h
    have hsub := sub_zip
    have hL1 : Heap.IsList (Shared.heap ⟨hp, g, d, tk, os⟩) l1 xs1 := hl1
    have hL2 : IsTup (Shared.heap ⟨(z2H1 hp l1), g, d, tk, os⟩) l2 xs2 := (hl2.push _)
    wp_walk using wpAny_pyIter_list hL1, iter_tuple hL2
    exact ⟨_, rfl, h⟩
theorem typeCall_zip2 (v1 v2 : Value) : checkTypeCall "zip" ⟨[v1, v2], []⟩ = pure () := by kernel_rfl
theorem newCall_zip2 (v1 v2 : Value) : checkBuiltinCall "zip.__new__" ⟨[.type "zip", v1, v2], []⟩ = pure () := by kernel_rfl
section
variable {prog : Program} {w : World} {A : Around} {E : Value → Shared → Prop} {s : Shared}
theorem call_zip2 {l1 l2 : Addr} {xs1 xs2 : Array Value} {Q : Value → Shared → Prop} (hl1 : Heap.IsList s.heap l1 xs1) (hl2 : IsTup s.heap l2 xs2)
    (h : ∀ h', IsZip h' (s.heap.objs.size + 4) (s.heap.objs.size + 2) (s.heap.objs.size + 3) .none → TupO h' (s.heap.objs.size + 2) #[.ref s.heap.objs.size, .ref (s.heap.objs.size + 1)] → TupO h' (s.heap.objs.size + 3) #[.none, .none] → Heap.IsListIter h' s.heap.objs.size l1 0 → IsTupIter h' (s.heap.objs.size + 1) l2 0 → Keeps s.heap h' → Q (.ref (s.heap.objs.size + 4)) { s with heap := h' }) :
    wpAny (model prog w) A (call (.type "zip") [.ref l1, .ref l2]) Q E s := by
  refine callType_new F.called_zip (by decide) (typeCall_zip2 _ _) (newCall_zip2 _ _) (fun obj => F.args_object_init_3 obj _ _) F.entry_zip_new
    (meets_zip2 l1 l2 xs1 xs2) ⟨hl1, hl2, ?_⟩
  have e1 : (z2H1 s.heap l1).objs.size = s.heap.objs.size + 1 := Heap.size_push ..
  have e2 : (z2H2 s.heap l1 l2).objs.size = s.heap.objs.size + 2 := by rw [Heap.size_push, e1]
  have e3 : (z2H3 s.heap l1 l2).objs.size = s.heap.objs.size + 3 := by rw [Heap.size_push, e2]
  have e4 : (z2H4 s.heap l1 l2).objs.size = s.heap.objs.size + 4 := by rw [Heap.size_push, e3]
  have e5 : (z2H5 s.heap l1 l2).objs.size = s.heap.objs.size + 5 := by rw [Heap.size_push, e4]
  have g4 : (z2H5 s.heap l1 l2).get? (z2H4 s.heap l1 l2).objs.size = some _ := (Heap.get?_push_size _ rfl)
  have g3 : (z2H5 s.heap l1 l2).get? (z2H3 s.heap l1 l2).objs.size = some _ := (Heap.get?_push_of_some _ (Heap.get?_push_size _ rfl))
  have g2 : (z2H5 s.heap l1 l2).get? (z2H2 s.heap l1 l2).objs.size = some _ := (Heap.get?_push_of_some _ (Heap.get?_push_of_some _ (Heap.get?_push_size _ rfl)))
  have g1 : (z2H5 s.heap l1 l2).get? (z2H1 s.heap l1).objs.size = some _ := (Heap.get?_push_of_some _ (Heap.get?_push_of_some _ (Heap.get?_push_of_some _ (Heap.get?_push_size _ rfl))))
  have g0 : (z2H5 s.heap l1 l2).get? s.heap.objs.size = some _ := (Heap.get?_push_of_some _ (Heap.get?_push_of_some _ (Heap.get?_push_of_some _ (Heap.get?_push_of_some _ (Heap.get?_push_size _ rfl)))))
  show _ ∧ _
  rw [e2, e3, e4] at g4
  rw [e3] at g3
  rw [e1, e2] at g2
  rw [e1] at g1
  rw [e4]
  exact ⟨⟨_, g4, rfl⟩, h _ g4 g2 g3 ⟨_, g0, rfl, rfl⟩ ⟨_, g1, rfl, rfl⟩ fun c o x => (Heap.get?_push_of_some _ (Heap.get?_push_of_some _ (Heap.get?_push_of_some _ (Heap.get?_push_of_some _ (Heap.get?_push_of_some _ x)))))⟩
variable {env : Env} {h₀ : Heap} {body : List Stmt} {Q : Flow → Shared → Prop}
end
noncomputable abbrev z3H1 (h : Heap) (l1 : Addr) : Heap := Heap.push h { cls := .type "list_iterator", data := .fields #[.ref l1, .int 0 0] }
noncomputable abbrev z3H2 (h : Heap) (l1 l2 : Addr) : Heap := Heap.push (z3H1 h l1) { cls := .type "list_iterator", data := .fields #[.ref l2, .int 0 0] }
noncomputable abbrev z3H3 (h : Heap) (l1 l2 l3 : Addr) : Heap := Heap.push (z3H2 h l1 l2) { cls := .type "tuple_iterator", data := .fields #[.ref l3, .int 0 0] }
noncomputable abbrev z3H4 (h : Heap) (l1 l2 l3 : Addr) : Heap := (z3H3 h l1 l2 l3).push { cls := .type "tuple", data := .seq #[.ref (h.objs.size), .ref (z3H1 h l1).objs.size, .ref (z3H2 h l1 l2).objs.size] }
noncomputable abbrev z3H5 (h : Heap) (l1 l2 l3 : Addr) : Heap := (z3H4 h l1 l2 l3).push { cls := .type "tuple", data := .seq #[.none, .none, .none] }
noncomputable abbrev z3H6 (h : Heap) (l1 l2 l3 : Addr) : Heap := (z3H5 h l1 l2 l3).push { cls := .type "zip", data := .fields #[.none, .bool false, .bool false, .ref (z3H3 h l1 l2 l3).objs.size, .ref (z3H4 h l1 l2 l3).objs.size] }
theorem meets_zip3 (l1 l2 l3 : Addr) (xs1 xs2 xs3 : Array Value) :
    Meets (Builtin.«zip.__new__» ⟨[.type "zip", .ref l1, .ref l2, .ref l3], []⟩) (fun _ R s => Heap.IsList s.heap l1 xs1 ∧ Heap.IsList s.heap l2 xs2 ∧ IsTup s.heap l3 xs3 ∧ R (.ok (.ret (.ref (z3H5 s.heap l1 l2 l3).objs.size))) { s with heap := z3H6 s.heap l1 l2 l3 }) :=
  .of_wp fun prog w A R s h => by
    obtain ⟨hp, g, d, tk, os⟩ := s; obtain ⟨hl1, hl2, hl3, h⟩ := h
    have hsub := sub_zip
    have hL1 : Heap.IsList (Shared.heap ⟨hp, g, d, tk, os⟩) l1 xs1 := hl1
    have hL2 : Heap.IsList (Shared.heap ⟨(z3H1 hp l1), g, d, tk, os⟩) l2 xs2 := (hl2.push _)
    have hL3 : IsTup (Shared.heap ⟨(z3H2 hp l1 l2), g, d, tk, os⟩) l3 xs3 := ((hl3.push _).push _)
    wp_walk using wpAny_pyIter_list hL1, wpAny_pyIter_list hL2, iter_tuple hL3
    exact ⟨_, rfl, h⟩
theorem typeCall_zip3 (v1 v2 v3 : Value) : checkTypeCall "zip" ⟨[v1, v2, v3], []⟩ = pure () := by kernel_rfl
theorem newCall_zip3 (v1 v2 v3 : Value) : checkBuiltinCall "zip.__new__" ⟨[.type "zip", v1, v2, v3], []⟩ = pure () := by kernel_rfl
theorem args_object_init_4 (a b c d : Value) : argsOk "object.__init__" ⟨[a, b, c, d], []⟩ := by
  unfold argsOk; rw [signature?_of (id := "object.__init__") (n := ['_', '_', 't', 'i', 'n', 'i', '_', '_']) (o := ['t', 'c', 'e', 'j', 'b', 'o']) (by kernel_rfl) F.owner_object]; kernel_rfl
section
variable {prog : Program} {w : World} {A : Around} {E : Value → Shared → Prop} {s : Shared}
theorem call_zip3 {l1 l2 l3 : Addr} {xs1 xs2 xs3 : Array Value} {Q : Value → Shared → Prop} (hl1 : Heap.IsList s.heap l1 xs1) (hl2 : Heap.IsList s.heap l2 xs2) (hl3 : IsTup s.heap l3 xs3)
    (h : ∀ h', IsZip h' (s.heap.objs.size + 5) (s.heap.objs.size + 3) (s.heap.objs.size + 4) .none → TupO h' (s.heap.objs.size + 3) #[.ref s.heap.objs.size, .ref (s.heap.objs.size + 1), .ref (s.heap.objs.size + 2)] → TupO h' (s.heap.objs.size + 4) #[.none, .none, .none] → Heap.IsListIter h' s.heap.objs.size l1 0 → Heap.IsListIter h' (s.heap.objs.size + 1) l2 0 → IsTupIter h' (s.heap.objs.size + 2) l3 0 → Keeps s.heap h' → Q (.ref (s.heap.objs.size + 5)) { s with heap := h' }) :
    wpAny (model prog w) A (call (.type "zip") [.ref l1, .ref l2, .ref l3]) Q E s := by
  refine callType_new F.called_zip (by decide) (typeCall_zip3 _ _ _) (newCall_zip3 _ _ _) (fun obj => args_object_init_4 obj _ _ _) F.entry_zip_new
    (meets_zip3 l1 l2 l3 xs1 xs2 xs3) ⟨hl1, hl2, hl3, ?_⟩
  have e1 : (z3H1 s.heap l1).objs.size = s.heap.objs.size + 1 := Heap.size_push ..
  have e2 : (z3H2 s.heap l1 l2).objs.size = s.heap.objs.size + 2 := by rw [Heap.size_push, e1]
  have e3 : (z3H3 s.heap l1 l2 l3).objs.size = s.heap.objs.size + 3 := by rw [Heap.size_push, e2]
  have e4 : (z3H4 s.heap l1 l2 l3).objs.size = s.heap.objs.size + 4 := by rw [Heap.size_push, e3]
  have e5 : (z3H5 s.heap l1 l2 l3).objs.size = s.heap.objs.size + 5 := by rw [Heap.size_push, e4]
  have e6 : (z3H6 s.heap l1 l2 l3).objs.size = s.heap.objs.size + 6 := by rw [Heap.size_push, e5]
  have g5 : (z3H6 s.heap l1 l2 l3).get? (z3H5 s.heap l1 l2 l3).objs.size = some _ := (Heap.get?_push_size _ rfl)
  have g4 : (z3H6 s.heap l1 l2 l3).get? (z3H4 s.heap l1 l2 l3).objs.size = some _ := (Heap.get?_push_of_some _ (Heap.get?_push_size _ rfl))
  have g3 : (z3H6 s.heap l1 l2 l3).get? (z3H3 s.heap l1 l2 l3).objs.size = some _ := (Heap.get?_push_of_some _ (Heap.get?_push_of_some _ (Heap.get?_push_size _ rfl)))
  have g2 : (z3H6 s.heap l1 l2 l3).get? (z3H2 s.heap l1 l2).objs.size = some _ := (Heap.get?_push_of_some _ (Heap.get?_push_of_some _ (Heap.get?_push_of_some _ (Heap.get?_push_size _ rfl))))
  have g1 : (z3H6 s.heap l1 l2 l3).get? (z3H1 s.heap l1).objs.size = some _ := (Heap.get?_push_of_some _ (Heap.get?_push_of_some _ (Heap.get?_push_of_some _ (Heap.get?_push_of_some _ (Heap.get?_push_size _ rfl)))))
  have g0 : (z3H6 s.heap l1 l2 l3).get? s.heap.objs.size = some _ := (Heap.get?_push_of_some _ (Heap.get?_push_of_some _ (Heap.get?_push_of_some _ (Heap.get?_push_of_some _ (Heap.get?_push_of_some _ (Heap.get?_push_size _ rfl))))))
  show _ ∧ _
  rw [e3, e4, e5] at g5
  rw [e4] at g4
  rw [e1, e2, e3] at g3
  rw [e1] at g1
  rw [e2] at g2
  rw [e5]
  exact ⟨⟨_, g5, rfl⟩, h _ g5 g3 g4 ⟨_, g0, rfl, rfl⟩ ⟨_, g1, rfl, rfl⟩ ⟨_, g2, rfl, rfl⟩ fun c o x => (Heap.get?_push_of_some _ (Heap.get?_push_of_some _ (Heap.get?_push_of_some _ (Heap.get?_push_of_some _ (Heap.get?_push_of_some _ (Heap.get?_push_of_some _ x))))))⟩
variable {env : Env} {h₀ : Heap} {body : List Stmt} {Q : Flow → Shared → Prop}
theorem loop_zip3 {l1 l2 l3 : Addr} {xs1 xs2 xs3 : List Value} {elts : List Expr} {k : Nat} {pos : Pos} {m₀ : Str → Option Value} {news : List (Addr × Obj)} (J : Nat → (Str → Option Value) → Prop)
    (hh : A.handled = none) (hl1 : Heap.IsList s.heap l1 xs1.toArray) (o1 : l1 ≠ env.locals) (hl2 : Heap.IsList s.heap l2 xs2.toArray) (o2 : l2 ≠ env.locals) (hl3 : IsTup s.heap l3 xs3.toArray) (o3 : l3 ≠ env.locals) (z2 : xs2.length = xs1.length) (z3 : xs3.length = xs1.length) (F : Fr h₀ env.locals s.heap m₀) (N : News h₀ env.locals s.heap news) (hj : J 0 m₀)
    (turn : ∀ (i : Nat) T x1 x2 x3 m₁ h tk own, xs1[i]? = some x1 → xs2[i]? = some x2 → xs3[i]? = some x3 → IsTup h T #[x1, x2, x3] → J i m₁ → Fr h₀ env.locals h m₁ → News h₀ env.locals h (own ++ news) →
      wpAny (model prog w) A (assign (.Tuple elts k pos) env (.ref T)) (fun _ s₃ => wpAny (model prog w) A (execs body env) (InvPost h₀ env.locals (J (i + 1)) (own ++ news) { s with heap := h, toks := tk } Q) E s₃) E { s with heap := h, toks := tk })
    (done : ∀ m₁ h tk, J xs1.length m₁ → Fr h₀ env.locals h m₁ → News h₀ env.locals h news → Q .next { s with heap := h, toks := tk }) :
    wpAny (model prog w) A (call (.type "zip") [.ref l1, .ref l2, .ref l3]) (fun xv s₁ => wpAny (model prog w) A (pyIter xv) (fun it s₂ => TurnsAt prog w A h₀ env (.Tuple elts k pos) body Q E it s₂) E s₁) E s := by
  have hLs : env.locals < s.heap.objs.size := F.ns.lt
  have hab : h₀.objs.size ≤ env.locals := F.above
  refine call_zip3 hl1 hl2 hl3 fun h' hz hTI hTO it1 it2 it3 hk => ?_
  have b1 : l1 < s.heap.objs.size := by obtain ⟨_, e, _⟩ := hl1; exact Heap.lt_size e
  have n1 : l1 ≠ s.heap.objs.size := Nat.ne_of_lt (Nat.lt_of_lt_of_le b1 (Nat.le_add_right _ 0))
  have D1 := Draws.list (prog := prog) (w := w) (A := A.in1) hh s.heap.objs.size l1 n1 xs1.toArray
  have b2 : l2 < s.heap.objs.size := by obtain ⟨_, e, _⟩ := hl2; exact Heap.lt_size e
  have n2 : l2 ≠ (s.heap.objs.size + 1) := Nat.ne_of_lt (Nat.lt_of_lt_of_le b2 (Nat.le_add_right _ 1))
  have D2 := Draws.list (prog := prog) (w := w) (A := A.in1) hh (s.heap.objs.size + 1) l2 n2 xs2.toArray
  have b3 : l3 < s.heap.objs.size := by obtain ⟨_, e, _⟩ := hl3; exact Heap.lt_size e
  have n3 : l3 ≠ (s.heap.objs.size + 2) := Nat.ne_of_lt (Nat.lt_of_lt_of_le b3 (Nat.le_add_right _ 2))
  have D3 := Draws.tuple (prog := prog) (w := w) (A := A.in1) hh (s.heap.objs.size + 2) l3 n3 xs3.toArray
  rw [show xs2.toArray.size = xs1.length by rw [List.size_toArray, z2]] at D2
  rw [show xs3.toArray.size = xs1.length by rw [List.size_toArray, z3]] at D3
  rw [show xs1.toArray.size = xs1.length from List.size_toArray] at D1
  have ap : ZAp3 (s.heap.objs.size + 5) (s.heap.objs.size + 3) (s.heap.objs.size + 4) s.heap.objs.size (s.heap.objs.size + 1) (s.heap.objs.size + 2) [s.heap.objs.size, l1] [(s.heap.objs.size + 1), l2] [(s.heap.objs.size + 2), l3] := ⟨(Nat.ne_of_gt (Nat.add_lt_add_left (show 3 < 5 by decide) s.heap.objs.size)), (Nat.ne_of_gt (Nat.add_lt_add_left (show 4 < 5 by decide) s.heap.objs.size)), (Nat.ne_of_gt (Nat.add_lt_add_left (show 0 < 5 by decide) s.heap.objs.size)), (Nat.ne_of_gt (Nat.add_lt_add_left (show 1 < 5 by decide) s.heap.objs.size)), (Nat.ne_of_gt (Nat.add_lt_add_left (show 2 < 5 by decide) s.heap.objs.size)), (Nat.ne_of_lt (Nat.add_lt_add_left (show 3 < 4 by decide) s.heap.objs.size)), (Nat.ne_of_gt (Nat.add_lt_add_left (show 0 < 3 by decide) s.heap.objs.size)), (Nat.ne_of_gt (Nat.add_lt_add_left (show 1 < 3 by decide) s.heap.objs.size)), (Nat.ne_of_gt (Nat.add_lt_add_left (show 2 < 3 by decide) s.heap.objs.size)), (Nat.ne_of_gt (Nat.add_lt_add_left (show 0 < 4 by decide) s.heap.objs.size)), (Nat.ne_of_gt (Nat.add_lt_add_left (show 1 < 4 by decide) s.heap.objs.size)), (Nat.ne_of_gt (Nat.add_lt_add_left (show 2 < 4 by decide) s.heap.objs.size)), (Nat.ne_of_lt (Nat.add_lt_add_left (show 0 < 1 by decide) s.heap.objs.size)), (Nat.ne_of_lt (Nat.add_lt_add_left (show 0 < 2 by decide) s.heap.objs.size)), (Nat.ne_of_lt (Nat.add_lt_add_left (show 1 < 2 by decide) s.heap.objs.size)), (fp_off (i := 0) (js := [5, 4, 1, 2]) b1 (by decide)), List.mem_cons_self, (fp_off (i := 1) (js := [5, 4, 0, 2]) b2 (by decide)), List.mem_cons_self, (fp_off (i := 2) (js := [5, 4, 0, 1]) b3 (by decide)), List.mem_cons_self⟩
  refine wpAny_pyIter_zip hz ?_
  have W := KTurns.ofWalksU (elts := elts) (k := k) (pos := pos) (zip3_walks D1 D2 D3 ap).toU
  have far : ∀ i, env.locals ≠ s.heap.objs.size + i := fun i => Nat.ne_of_lt (Nat.lt_of_lt_of_le hLs (Nat.le_add_right _ _))
  have near : env.locals ≠ s.heap.objs.size := Nat.ne_of_lt hLs
  have p1 : env.locals ≠ l1 := fun e => o1 e.symm
  have p2 : env.locals ≠ l2 := fun e => o2 e.symm
  have p3 : env.locals ≠ l3 := fun e => o3 e.symm
  have new : ∀ i, h₀.get? (s.heap.objs.size + i) = none := fun i => Heap.get?_none_of_le (Nat.le_trans hab (Nat.le_of_lt (Nat.lt_of_lt_of_le hLs (Nat.le_add_right _ _))))
  refine loopT (s := { s with heap := h' }) W ?_ ?_ ?_ ⟨hz, hTI, ⟨_, _, _, hTO⟩, ⟨it1, isList_keeps0 hl1 hk⟩, ⟨it2, isList_keeps0 hl2 hk⟩, ⟨it3, hl3.keeps hk⟩⟩ (Fr.kept F hk) (News.kept N hk) J hj ?_ done
  · simp only [List.mem_cons, List.mem_append, List.not_mem_nil, or_false, far, near, p1, p2, p3, not_false_eq_true]
  · intro b hb
    simp only [List.mem_cons, List.not_mem_nil, or_false] at hb
    rcases hb with rfl | rfl | rfl | rfl | rfl <;> first | exact new _ | exact new 0
  · intro p hp hm
    have hq1 : p.1 < s.heap.objs.size := Heap.lt_size (N p hp).1
    have fr : ∀ i, p.1 ≠ s.heap.objs.size + i := fun i => Nat.ne_of_lt (Nat.lt_of_lt_of_le hq1 (Nat.le_add_right _ _))
    simp only [List.mem_cons, List.not_mem_nil, or_false] at hm
    rcases hm with e | e | e | e | e <;> first | exact fr _ e | exact fr 0 e
  · rintro i v m₁ h tk own hi ⟨T, vals, rfl, ⟨x1, x2, x3, e1, e2, e3, rfl⟩, hT⟩ hJ F₁ N₁
    exact turn i T x1 x2 x3 m₁ h tk own (by simpa using e1) (by simpa using e2) (by simpa using e3) hT hJ F₁ N₁
end
end Mine
end
section
open PySem PySem.W PySem.Calls PyProof.Rows PyProof
set_option Elab.async false
namespace Mine
section
variable {prog : Program} {w : World} {A : Around} {E : Value → Shared → Prop} {s : Shared} {env : Env} {h₀ : Heap} {target : Expr} {body : List Stmt}
/-- a loop whose state is the frame's names, tokens counted from lo -/
theorem loopB {R : Result → Shared → Prop} {I : Addr} {fp wr : List Addr} {n : Nat} {P Md : Nat → Value → Heap → Prop} {St : Nat → Heap → Prop} {m₀ : Str → Option Value} {news : List (Addr × Obj)} {lo : Nat}
    (W : KTurns prog w A target I fp wr n P Md St) (hLf : env.locals ∉ fp) (hwr : ∀ b ∈ wr, h₀.get? b = none) (hnw : ∀ p ∈ news, p.1 ∉ wr) (hst : St 0 s.heap)
    (F : Fr h₀ env.locals s.heap m₀) (N : News h₀ env.locals s.heap news) (J : Nat → (Str → Option Value) → Prop) (hj : J 0 m₀) (hlo : lo ≤ s.toks)
    (turn : ∀ i v m₁ h tk own, i < n → P i v h → J i m₁ → lo ≤ tk → Fr h₀ env.locals h m₁ → News h₀ env.locals h (own ++ news) →
      wpAny (model prog w) A (assign target env v) (fun _ s₃ => wpAny (model prog w) A (execs body env) (InvPost h₀ env.locals (J (i + 1)) (own ++ news) { s with heap := h, toks := tk } (fun f s' => R (.ok f) s'))
        (notedBy (model prog w) A env fun e s' => R (.error e) s') s₃) (notedBy (model prog w) A env fun e s' => R (.error e) s') { s with heap := h, toks := tk })
    (done : ∀ m₁ h tk, J n m₁ → Fr h₀ env.locals h m₁ → News h₀ env.locals h news → R (.ok .next) { s with heap := h, toks := tk }) :
    codeAny (model prog w) A (.forLoop target (.ref I) body [] env) R s := by
  have hLw : env.locals ∉ wr := fun h => hLf (W.sub _ h)
  have base : ∀ b o, h₀.get? b = some o → b ∉ wr := fun b o e hb => by rw [hwr b hb] at e; cases e
  refine codeAny_forLoop_any (fun k t => ∃ h tk m i, t = { s with heap := h, toks := tk } ∧ lo ≤ tk ∧ St i h ∧ Fr h₀ env.locals h m ∧ News h₀ env.locals h news ∧ J i m ∧ i ≤ n ∧ k = n - i) ?_ n
    ⟨s.heap, s.toks, m₀, 0, rfl, hlo, hst, F, N, hj, Nat.zero_le _, rfl⟩
  rintro k t ⟨h, tk, m, i, rfl, htk, st, F', N', hJ, hi, rfl⟩
  have carry : ∀ g : Heap, (∀ b o, b ∉ wr → h.get? b = some o → g.get? b = some o) → Fr h₀ env.locals g m ∧ News h₀ env.locals g news := fun g hg =>
    ⟨⟨F'.ns.at' fun o e => hg _ o hLw e, fun b o e => hg b o (base b o e) (F'.keep b o e), F'.above⟩, fun p hp => ⟨hg _ _ (hnw p hp) (N' p hp).1, (N' p hp).2⟩⟩
  by_cases hlt : i < n
  · refine wpAny_toks (k := lo) htk (W.item i _ _ _ hlt st fun v h₁ tk₁ hMd hk₁ (ht₁ : lo ≤ tk₁) => ?_)
    refine W.go i v _ _ _ hMd fun h₂ hP st₂ hk₂ => ?_
    obtain ⟨F₂, N₂⟩ := carry h₂ fun b o hb x => hk₂ b o hb (hk₁ b o hb x)
    have own : News h₀ env.locals h₂ (PyProof.Rows.ownOf h₀ fp h₂) := news_ownOf hLf
    refine wpAny_toks (k := lo) ht₁ (wpAny_mono (turn i v m h₂ tk₁ (PyProof.Rows.ownOf h₀ fp h₂) hlt hP hJ ht₁ F₂ (own.append N₂)) (fun _ t₂ q _ => ?_) fun _ _ e _ => e)
    refine wpAny_mono (wpAny_toks (k := lo) (by assumption) (wpAny_mono q (fun f t₃ q₃ ht₃ => ?_) fun _ _ e _ => e)) (fun f t₃ x => x) fun _ _ e => e
    have stay : ∀ {h₃ : Heap} {m₃ : Str → Option Value} {nx : List (Addr × Obj)}, Fr h₀ env.locals h₃ m₃ → News h₀ env.locals h₃ nx → (∀ p ∈ PyProof.Rows.ownOf h₀ fp h₂ ++ news, p ∈ nx) → St (i + 1) h₃ := fun {h₃ m₃ nx} F₃ N₃ hn =>
      W.frame _ _ _ st₂ fun b hb o e => by
        cases q0 : h₀.get? b with
        | some o₀ =>
          have := F₂.keep b o₀ q0
          rw [e] at this; cases this
          exact F₃.keep b o q0
        | none => exact (N₃ _ (hn _ (List.mem_append_left _ (mem_ownOf hb q0 e)))).1
    have fin : InvEnd h₀ env.locals (J (i + 1)) (PyProof.Rows.ownOf h₀ fp h₂ ++ news) { s with heap := h₂, toks := tk₁ } t₃ → ∃ m, m < n - i ∧ ∃ h tk m' j, t₃ = { s with heap := h, toks := tk } ∧ lo ≤ tk ∧ St j h ∧ Fr h₀ env.locals h m' ∧ News h₀ env.locals h news ∧ J j m' ∧ j ≤ n ∧ m = n - j := by
      rintro ⟨h₃, tk₃, m₃, nx, rfl, F₃, N₃, hn, hJ₃⟩
      exact ⟨n - (i + 1), by (first | lia | omega), h₃, tk₃, m₃, i + 1, rfl, ht₃, stay F₃ N₃ hn, F₃, fun p hp => N₃ p (hn p (List.mem_append_right _ hp)), hJ₃, hlt, rfl⟩
    cases f with
    | ret v => exact q₃
    | brk => exact q₃
    | next => exact fin q₃
    | cont => exact fin q₃
  · obtain rfl : i = n := by (first | lia | omega)
    refine W.done _ _ _ st fun h₁ tk₁ hk₁ => wpAny_execs_nil ?_
    obtain ⟨F₁, N₁⟩ := carry h₁ hk₁
    exact done m h₁ tk₁ hJ F₁ N₁
variable {Q : Flow → Shared → Prop}
noncomputable def TurnsB (prog : Program) (w : World) (A : Around) (h₀ : Heap) (env : Env) (target : Expr) (body : List Stmt) (Q : Flow → Shared → Prop) (E : Value → Shared → Prop) (it : Value) (s : Shared) : Prop :=
  ∃ (I : Addr) (fp wr : List Addr) (n : Nat) (P Md : Nat → Value → Heap → Prop) (St : Nat → Heap → Prop) (m₀ : Str → Option Value) (news : List (Addr × Obj)) (J : Nat → (Str → Option Value) → Prop) (lo : Nat),
    it = .ref I ∧ KTurns prog w A target I fp wr n P Md St ∧ env.locals ∉ fp ∧ (∀ b ∈ wr, h₀.get? b = none) ∧ (∀ p ∈ news, p.1 ∉ wr) ∧ St 0 s.heap ∧ Fr h₀ env.locals s.heap m₀ ∧ News h₀ env.locals s.heap news ∧ J 0 m₀ ∧ lo ≤ s.toks ∧
    (∀ i v m₁ h tk own, i < n → P i v h → J i m₁ → lo ≤ tk → Fr h₀ env.locals h m₁ → News h₀ env.locals h (own ++ news) →
      wpAny (model prog w) A (assign target env v) (fun _ s₃ => wpAny (model prog w) A (execs body env) (InvPost h₀ env.locals (J (i + 1)) (own ++ news) { s with heap := h, toks := tk } Q) E s₃) E { s with heap := h, toks := tk }) ∧
    (∀ m₁ h tk, J n m₁ → Fr h₀ env.locals h m₁ → News h₀ env.locals h news → Q .next { s with heap := h, toks := tk })
theorem For_turnsB {iter : Expr} {pos : Pos} {m : Str → Option Value} (_F : Fr h₀ env.locals s.heap m)
    (h : wpAny (model prog w) A (eval iter env) (fun xv s₁ => wpAny (model prog w) A (pyIter xv) (fun it s₂ => TurnsB prog w A h₀ env target body Q E it s₂) E s₁) E s)
    (hs : ∀ x, foldedSetIterable iter env x = pure x := by intro _; rfl)
    (hE : PassesOwn (model prog w) A env E := by passes_own) :
    wpAny (model prog w) A (exec (.For target iter body [] pos) env) Q E s := by
  refine wpAny_For (wpAny_mono h (fun xv s₁ h₁ => wpAny_mono h₁ (fun it s₂ h₂ => ?_) fun _ _ e => e) fun _ _ e => e) hs
  obtain ⟨I, fp, wr, n, P, Md, St, m, news, J, lo, rfl, W, hLf, hwr, hnw, hst, F, N, hj, hlo, turn, done⟩ := h₂
  exact loopB (R := fun r s' => match r with | .ok f => Q f s' | .error e => cameBackBy (model prog w) A env E e s') W hLf hwr hnw hst F N J hj hlo
    (fun i v m₁ h tk own a b c d F₁ N₁ => wpAny_mono (turn i v m₁ h tk own a b c d F₁ N₁) (fun _ _ x => wpAny_passesOwn hE x) hE) done
theorem loop_zip2B {l1 l2 : Addr} {xs1 xs2 : List Value} {elts : List Expr} {k : Nat} {pos : Pos} {m₀ : Str → Option Value} {news : List (Addr × Obj)} {lo : Nat} (J : Nat → (Str → Option Value) → Prop)
    (hh : A.handled = none) (hl1 : Heap.IsList s.heap l1 xs1.toArray) (o1 : l1 ≠ env.locals) (hl2 : IsTup s.heap l2 xs2.toArray) (o2 : l2 ≠ env.locals) (z2 : xs2.length = xs1.length) (F : Fr h₀ env.locals s.heap m₀) (N : News h₀ env.locals s.heap news) (hj : J 0 m₀) (hlo : lo ≤ s.toks)
    (turn : ∀ (i : Nat) T x1 x2 m₁ h tk own, xs1[i]? = some x1 → xs2[i]? = some x2 → IsTup h T #[x1, x2] → J i m₁ → lo ≤ tk → Fr h₀ env.locals h m₁ → News h₀ env.locals h (own ++ news) →
      wpAny (model prog w) A (assign (.Tuple elts k pos) env (.ref T)) (fun _ s₃ => wpAny (model prog w) A (execs body env) (InvPost h₀ env.locals (J (i + 1)) (own ++ news) { s with heap := h, toks := tk } Q) E s₃) E { s with heap := h, toks := tk })
    (done : ∀ m₁ h tk, J xs1.length m₁ → Fr h₀ env.locals h m₁ → News h₀ env.locals h news → Q .next { s with heap := h, toks := tk }) :
    wpAny (model prog w) A (call (.type "zip") [.ref l1, .ref l2]) (fun xv s₁ => wpAny (model prog w) A (pyIter xv) (fun it s₂ => TurnsB prog w A h₀ env (.Tuple elts k pos) body Q E it s₂) E s₁) E s := by
  have hLs : env.locals < s.heap.objs.size := F.ns.lt
  have hab : h₀.objs.size ≤ env.locals := F.above
  refine call_zip2 hl1 hl2 fun h' hz hTI hTO it1 it2 hk => ?_
  have b1 : l1 < s.heap.objs.size := by obtain ⟨_, e, _⟩ := hl1; exact Heap.lt_size e
  have n1 : l1 ≠ s.heap.objs.size := Nat.ne_of_lt (Nat.lt_of_lt_of_le b1 (Nat.le_add_right _ 0))
  have D1 := Draws.list (prog := prog) (w := w) (A := A.in1) hh s.heap.objs.size l1 n1 xs1.toArray
  have b2 : l2 < s.heap.objs.size := by obtain ⟨_, e, _⟩ := hl2; exact Heap.lt_size e
  have n2 : l2 ≠ (s.heap.objs.size + 1) := Nat.ne_of_lt (Nat.lt_of_lt_of_le b2 (Nat.le_add_right _ 1))
  have D2 := Draws.tuple (prog := prog) (w := w) (A := A.in1) hh (s.heap.objs.size + 1) l2 n2 xs2.toArray
  rw [show xs2.toArray.size = xs1.length by rw [List.size_toArray, z2]] at D2
  rw [show xs1.toArray.size = xs1.length from List.size_toArray] at D1
  have ap : ZAp2 (s.heap.objs.size + 4) (s.heap.objs.size + 2) (s.heap.objs.size + 3) s.heap.objs.size (s.heap.objs.size + 1) [s.heap.objs.size, l1] [(s.heap.objs.size + 1), l2] := ⟨(Nat.ne_of_gt (Nat.add_lt_add_left (show 2 < 4 by decide) s.heap.objs.size)), (Nat.ne_of_gt (Nat.add_lt_add_left (show 3 < 4 by decide) s.heap.objs.size)), (Nat.ne_of_gt (Nat.add_lt_add_left (show 0 < 4 by decide) s.heap.objs.size)), (Nat.ne_of_gt (Nat.add_lt_add_left (show 1 < 4 by decide) s.heap.objs.size)), (Nat.ne_of_lt (Nat.add_lt_add_left (show 2 < 3 by decide) s.heap.objs.size)), (Nat.ne_of_gt (Nat.add_lt_add_left (show 0 < 2 by decide) s.heap.objs.size)), (Nat.ne_of_gt (Nat.add_lt_add_left (show 1 < 2 by decide) s.heap.objs.size)), (Nat.ne_of_gt (Nat.add_lt_add_left (show 0 < 3 by decide) s.heap.objs.size)), (Nat.ne_of_gt (Nat.add_lt_add_left (show 1 < 3 by decide) s.heap.objs.size)), (Nat.ne_of_lt (Nat.add_lt_add_left (show 0 < 1 by decide) s.heap.objs.size)), (fp_off (i := 0) (js := [4, 3, 1]) b1 (by decide)), List.mem_cons_self, (fp_off (i := 1) (js := [4, 3, 0]) b2 (by decide)), List.mem_cons_self⟩
  refine wpAny_pyIter_zip hz ?_
  have W := KTurns.ofWalksU (elts := elts) (k := k) (pos := pos) (zip2_walks D1 D2 ap).toU
  have far : ∀ i, env.locals ≠ s.heap.objs.size + i := fun i => Nat.ne_of_lt (Nat.lt_of_lt_of_le hLs (Nat.le_add_right _ _))
  have near : env.locals ≠ s.heap.objs.size := Nat.ne_of_lt hLs
  have p1 : env.locals ≠ l1 := fun e => o1 e.symm
  have p2 : env.locals ≠ l2 := fun e => o2 e.symm
  have new : ∀ i, h₀.get? (s.heap.objs.size + i) = none := fun i => Heap.get?_none_of_le (Nat.le_trans hab (Nat.le_of_lt (Nat.lt_of_lt_of_le hLs (Nat.le_add_right _ _))))
  refine ⟨_, _, _, _, _, _, _, m₀, news, J, lo, rfl, W, ?_, ?_, ?_, ⟨hz, hTI, ⟨_, _, hTO⟩, ⟨it1, isList_keeps0 hl1 hk⟩, ⟨it2, hl2.keeps hk⟩⟩, Fr.kept F hk, News.kept N hk, hj, hlo, ?_, done⟩
  · simp only [List.mem_cons, List.mem_append, List.not_mem_nil, or_false, far, near, p1, p2, not_false_eq_true]
  · intro b hb
    simp only [List.mem_cons, List.not_mem_nil, or_false] at hb
    rcases hb with rfl | rfl | rfl | rfl <;> first | exact new _ | exact new 0
  · intro p hp hm
    have hq1 : p.1 < s.heap.objs.size := Heap.lt_size (N p hp).1
    have fr : ∀ i, p.1 ≠ s.heap.objs.size + i := fun i => Nat.ne_of_lt (Nat.lt_of_lt_of_le hq1 (Nat.le_add_right _ _))
    simp only [List.mem_cons, List.not_mem_nil, or_false] at hm
    rcases hm with e | e | e | e <;> first | exact fr _ e | exact fr 0 e
  · rintro i v m₁ h tk own hi ⟨T, vals, rfl, ⟨x1, x2, e1, e2, rfl⟩, hT⟩ hJ hb F₁ N₁
    exact turn i T x1 x2 m₁ h tk own (by simpa using e1) (by simpa using e2) hT hJ hb F₁ N₁
theorem execs_append (l1 l2 : List Stmt) : execs (l1 ++ l2) env = (execs l1 env >>= fun f => match f with | .next => execs l2 env | f => pure f) := by
  induction l1 with
  | nil => rfl
  | cons a l ih =>
    rw [List.cons_append, execs_cons, execs_cons, bind_assoc]
    congr 1
    funext f
    cases f with
    | next => exact ih
    | _ => rfl
/-- an implication that the walk does not open -/
noncomputable def Imp (p q : Prop) : Prop := p → q
theorem Imp.open {p q : Prop} (h : p → q) : Imp p q := h
theorem wpAny_toksI {α : Type} {M : Model} {t : Sem α} {Q : α → Shared → Prop} {k : Nat} (hk : k ≤ s.toks) (h : wpAny M A t (fun a s' => Imp (k ≤ s'.toks) (Q a s')) E s) : wpAny M A t Q E s :=
  wpAny_toks hk (wpAny_mono h (fun _ _ x => x) fun _ _ e _ => e)
/-- a part of a block, what is known of the tokens carried over -/
theorem execs_toks {l1 l2 : List Stmt} {k : Nat} (hk : k ≤ s.toks)
    (h : wpAny (model prog w) A (execs l1 env) (fun f s' => match f with | .next => Imp (k ≤ s'.toks) (wpAny (model prog w) A (execs l2 env) Q E s') | f => Q f s') E s) : wpAny (model prog w) A (execs (l1 ++ l2) env) Q E s := by
  rw [execs_append]
  refine wpAny_bind (wpAny_toks (k := k) hk (wpAny_mono h (fun f s' q ht => ?_) fun _ _ e _ => e))
  cases f with
  | next => exact q ht
  | _ => exact wpAny_pure q
end
end Mine
end
section
open PySem PySem.W PySem.Calls PyProof.Rows PyProof
set_option Elab.async false
set_option maxRecDepth 100000
set_option maxHeartbeats 4000000
namespace Mine
noncomputable def Mark : Prop := True
theorem roomD {d k r : Nat} (h : d + 12 < r) (hk : k ≤ 11) : d + 1 + k < r := by omega
theorem roomU {u k c : Nat} (h : u + 8 * 12 < c) (hk : k ≤ 11) : u + 3 + 8 * k < c := by omega
noncomputable def MarkS : Prop := True
/-- what the names hold in the loops -/
noncomputable def LJ (aK D aA : Addr) (N sh : Nat) (m : Str → Option Value) : Prop :=
  m (Str.ofString "kinds") = some (.ref aK) ∧ HasInt m (Str.ofString "longest") ((N : Int) + 2) ∧ m (Str.ofString "texts") = some (.ref D) ∧ HasInt m (Str.ofString "shared") (sh : Int) ∧ m (Str.ofString "answers") = some (.ref aA)
/-- what the names hold in the inner loop -/
noncomputable def LI (aK D aA aT Dp aR : Addr) (N sh : Nat) (q : List Nat) (m : Str → Option Value) : Prop :=
  LJ aK D aA N sh m ∧ m (Str.ofString "one") = some (.ref aT) ∧ HasStr m (Str.ofString "answer") q ∧ m (Str.ofString "pieces") = some (.ref Dp) ∧ m (Str.ofString "runs") = some (.ref aR)
theorem store_cell {prog : Program} {w : World} {A : Around} {E : Value → Shared → Prop} {s : Shared} {env : Env} {h₀ : Heap} {m : Str → Option Value} {x : Str} {c : Addr} {o : Obj} {v0 : Option Value} {v : Value} {rest : List (Addr × Obj)} {Q : Unit → Shared → Prop}
    (hc : env.cells.lookup x = some c) (hx : env.kindOf x = some .cell) (hk : env.scope.kind = .function) (F : Fr h₀ env.locals s.heap m) (N : News h₀ env.locals s.heap ((c, o) :: rest)) (hap : ∀ p ∈ rest, p.1 ≠ c) (ho : o.data = .cell v0)
    (h : ∀ h' o', o'.data = .cell (some v) → Fr h₀ env.locals h' m → News h₀ env.locals h' ((c, o') :: rest) → Q () { s with heap := h' }) : wpAny (model prog w) A (storeName env x v) Q E s := by
  have zc := N (c, o) List.mem_cons_self
  refine wpAny_storeName_cell hk hx hc ⟨o, zc.1, ho⟩ fun h₂ hv₂ hs₂ => ?_
  obtain ⟨o₂, ho₂, hd₂⟩ := hv₂
  refine h h₂ o₂ hd₂ (F.change hs₂ zc.2.1 zc.2.2) fun p hp => ?_
  rcases List.mem_cons.mp hp with rfl | hp
  · exact ⟨ho₂, zc.2⟩
  · have z := N p (List.mem_cons_of_mem _ hp)
    exact ⟨hs₂.extBut _ _ (hap p hp) z.1, z.2⟩
theorem tupG_get {tl : List (Addr × Obj)} {v : Value} {vs : List Value} (x : TupG (inL tl) v vs) : ∃ a o n, v = .ref a ∧ (a, o) ∈ tl ∧ o.cls = .type "tuple" ∧ o.data = .seq vs.toArray n := x
theorem isTup_mem {h₀ h : Heap} {L a : Addr} {o : Obj} {news : List (Addr × Obj)} {vs : Array Value} {n : Nat} (N : News h₀ L h news) (hm : (a, o) ∈ news) (hc : o.cls = .type "tuple") (hd : o.data = .seq vs n) : IsTup h a vs := ⟨o, (N _ hm).1, hc, n, hd⟩
theorem isList_mem {h₀ h : Heap} {L a : Addr} {o : Obj} {news : List (Addr × Obj)} {vs : Array Value} {n : Nat} (N : News h₀ L h news) (hm : (a, o) ∈ news) (hc : o.cls = .type "list") (hd : o.data = .seq vs n) : h.IsList a vs := ⟨o, (N _ hm).1, hc, n, hd⟩

theorem law_con (w : World) (mg mb : Str → Option Value) (a : Addr) (vs : List Value) (zs : List Int) (hvs : IntsAre vs zs) (hz : zs.length ≤ 63) :
    ∀ (dp un : Nat) (gd : Option (List Code)) (fr : Option (List Env)) (s : Shared) (Q E : Value → Shared → Prop) (vp : Program) (lo : List Str) (P bm : Addr) (ob : Obj),
      (hk w.params).In s.heap → TopRead vp lo mg mb s.heap →
      BMod s.heap mainGlobals mg bm ob → Based s.heap s.heap 60 P #[] → AllBare s.gens → s.heap.IsList a vs.toArray → dp + 12 < recursionLimit → un + 8 * 12 < cLine →
      (∀ s', OldK s.heap s'.heap → AllBare s'.gens → s'.os = s.os → Q (.bool true) s') →
      wpAny (model Challenge.rw_mq0167_01.row.prog w) (AR dp un gd fr) (call (.ref 119) [.ref a]) Q E s := by
  w_on
  w_top on
  k_with_none
  k_with "exec Assign" => ((fail_if_success (with_reducible show wpAny _ _ _ qk _ _)); refine letQ ?_; intro qk ek; walk_at "exec Assign")
  k_with "exec If" => ((fail_if_success (with_reducible show wpAny _ _ _ qk _ _)); refine letQ ?_; intro qk ek; walk_at "exec If")
  k_with "eval Call" => ((fail_if_success (with_reducible show wpAny _ _ _ qk _ _)); refine letQ ?_; intro qk ek; walk_at "eval Call")
  k_with "eval BinOp" => ((fail_if_success (with_reducible show wpAny _ _ _ qk _ _)); refine letQ ?_; intro qk ek; walk_at "eval BinOp")
  k_with "eval Subscript" => ((fail_if_success (with_reducible show wpAny _ _ _ qk _ _)); refine letQ ?_; intro qk ek; walk_at "eval Subscript")
  k_with "isTrue Compare" => ((fail_if_success (with_reducible show wpAny _ _ _ qk _ _)); refine letQ ?_; intro qk ek; walk_at "isTrue Compare")
  k_with "isTrue BoolOp" => ((fail_if_success (with_reducible show wpAny _ _ _ qk _ _)); refine letQ ?_; intro qk ek; walk_at "isTrue BoolOp")
  k_with "callWith" => ((fail_if_success (with_reducible show wpAny _ _ _ qk _ _)); refine letQ ?_; intro qk ek; walk_at "callWith")
  k_with "eval Compare" => ((fail_if_success (with_reducible show wpAny _ _ _ qk _ _)); refine letQ ?_; intro qk ek; walk_at "eval Compare")
  k_with "eval Call Attribute" => ((fail_if_success (with_reducible show wpAny _ _ _ qk _ _)); refine letQ ?_; intro qk ek; walk_at "eval Call Attribute")
  k_with "storeName" => (rename MarkS => hMS9; refine stop ?_)
  k_with "eval ListComp" => (rename Mark => hMk9; refine stop ?_)
  k_with "exec Assign cons ListComp" => (rename Mark => hMk9; refine stop ?_)
  k_with "pyIter ref" => (rename Mark => hMk9; refine stop ?_)
  k_with "call builtin:max" => refine stop ?_
  k_with "call builtin:str.join" => refine stop ?_
  k_with "call type:range" => refine stop ?_
  k_with "call type:zip" => refine stop ?_
  k_with "call builtin:str.replace" => refine stop ?_
  k_with "call builtin:str.split" => refine stop ?_
  k_with "subscriptTail Name" => (rename Mark => hMk9; (with_reducible show wpAny _ _ (subscriptTail _ _ (Value.ref _) (Value.int _ _)) _ _ _); refine stop ?_)
  k_with "call type:int" => (rename Mark => hMk9; refine stop ?_)
  k_with "binaryOp Add ref ref" => refine stop ?_
  k_with "exec For Tuple Call cons nil" => refine stop ?_
  k_with "subscriptTail Name Slice ref ref" => (rename Mark => hMk9; refine stop ?_)
  k_with "call builtin:len" => (k_here; (with_reducible show wpAny _ _ (call _ [Value.ref _]) _ _ _); refine stop ?_)
  k_with "call ref" => refine stop ?_
  k_with "eval Name" => (k_here; (with_reducible show wpAny _ _ (eval (Expr.Name _ _) (compEnvC _ _ _ _)) _ _ _); k_dflt (apply nameBC; (· k_asm); (· k_asm); (· k_asm); (· k_is); (· boot_by_name); (· decide); rotate_left; (· rfl); (· rfl); (· rfl); (· rfl); (· decide); k_whole))
  k_with "eval Name" => (k_here; (with_reducible show wpAny _ _ (eval (Expr.Name _ _) (compEnvC _ _ _ _)) _ _ _); k_dflt (apply nameG_K; (· k_asm); (· k_asm); (· k_asm); (· k_is); rotate_left; (· rfl); (· rfl); (· rfl); (· decide); k_whole))
  k_with "eval Name" => (k_here; (with_reducible show wpAny _ _ (eval (Expr.Name _ _) (compEnvC _ _ _ _)) _ _ _); k_dflt (apply nameCC1; (· k_asm); (· rfl); (· k_mem); (· k_asm); rotate_left; (· rfl); (· rfl); (· decide); k_whole))
  k_with "eval Name" => (k_here; (rename LCg.NsObj _ _ => hC9); (with_reducible show wpAny _ _ (eval (Expr.Name _ _) (compEnvC _ _ _ _)) _ _ _); k_dflt (apply nameC1; (· k_asm); (· k_mem); (· exact hC9); (· rfl); rotate_left; (· rfl); (· rfl); (· decide); k_whole))
  k_fill
  intro dp un gd fr s Q E vp lo P bm ob X T M B G hpre hd hu hret
  k_dflt (refine' enterC ?k1 ?k2 ?k6 ?k7 ?k8 ?k9 ?kB ?kD ?_ ?c2 ?c3 ?c4; (case k1 => assumption); (case k2 => assumption); (case k6 => k_is); (case k7 => k_is); (case k8 => first | exact roomA hd | (show dp < recursionLimit; omega)); (case k9 => first | exact BindsTo.of_eq rfl | exact binds_K (by assumption) rfl (by k_is) rfl rfl rfl); (case kB => exact rfl); (case kD => decide +kernel); (case c2 => exact rfl); (case c3 => exact rfl); (case c4 => exact rfl); k_whole; intro L' h' tk' cells' F' N' Y'; k_cells Y'; (try simp only [List.cons_append, List.nil_append] at N'); (try dsimp only); (show wpAny _ _ _ _ _ _); k_fold)
  k_steps
  refine stopped ?_
  rename Fr _ _ _ _ => Fn
  rename News _ _ _ _ => Nn
  rename IntsAre _ (List.map _ (List.take 6 zs)) => hI8q
  have hI8 := hI8q
  rw [nsOf_map zs] at hI8
  clear hI8q
  have hn6 := nsOf_len zs
  have hnlt := nsOf_lt zs
  generalize nsOf zs = ns at hI8 hn6 hnlt
  refine Con.use (kinds_con w mg mb _ _ ns hI8 hn6 hnlt) Fn X Nn T (News.isList Nn (by k_mem)) (roomD hd (by decide)) (roomU hu (by decide)) ?_
  rintro r tl h1 tk1 _ hnew F1 N1 ⟨vk, ⟨aK, oK, nK, rfl, hmK, hcK, hdK⟩, hAK⟩
  have N2 : News s.heap L' h1 ((L' + 1, _) :: tl) := fun p hp => N1 p (by
    rcases List.mem_cons.mp hp with rfl | hp
    · exact List.mem_append_right _ (by k_mem)
    · exact List.mem_append_left _ hp)
  have hap : ∀ p ∈ tl, p.1 ≠ L' + 1 := fun p hp e => by
    have z1 := (hnew p hp).2
    have z2 := (Nn (L' + 1, _) (by k_mem)).1
    rw [e] at z1
    rw [z1] at z2; cases z2
  have mark : Mark := trivial
  clear N1 Nn Fn
  have hz1 : vk.length = ns.length + 2 := by rw [hAK.length, kinds_len]
  try k_fold
  k_steps
  refine stopped ?_
  refine ListComp_E (cl := []) (by k_asm) rfl (by decide) rfl (by decide) ?_
  try k_fold
  k_steps
  refine stopped ?_
  refine compAt_list (fun i ys => All2 IsInt ys (((kindsL ns).take i).map fun q => (q.1 : Int))) rfl (stands_listL (List.mem_cons_of_mem _ hmK) hcK hdK) (by rw [sizeLine_eq]; (first | lia | omega)) (by k_asm) (by k_asm) (fun I i v s Q E hit h => goList hit h) .nil (fun i ys h => ?_) ?_ ?_
  · have := h.length; rw [List.length_map, List.length_take] at this; show ys.length ≤ i; (first | lia | omega)
  · intro I j v h₂ hj hvj ys C D2 oI oC m₂ h' tk' E' _ hys hC F' N' off ne
    obtain ⟨q, hq, tq, svq, ⟨aT, oT, nT, rfl, hmT, hcT, hdT⟩, hS⟩ := hAK.get hvj
    refine assignC2 rfl (isTup_mem N' (by repeat first | exact hmT | refine List.mem_cons_of_mem _ ?_) hcT hdT) rfl rfl rfl hC F' N' off ne ?_
    intro h3 oC3 tk3 hC3 F3 N3
    refine tests_nil ?_
    clear N' F' hC
    show wpAny _ _ _ _ _ _
    k_fold
    k_steps
    refine CEnd.intro (by k_asm) (by k_asm) (by assumption) ?_
    show All2 IsInt (ys ++ [Value.int _ _]) (((kindsL ns).take (j + 1)).map fun q => (q.1 : Int))
    rw [take_snoc hq, List.map_append]
    exact hys.snoc (IsInt.of rfl)
  intro ys1 h₂ hys D3 h3 tk3 F3 N3 off3
  have hI1 := ints_of hys
  rw [hAK.length, List.take_length] at hI1
  try k_fold
  k_steps
  refine stopped ?_
  refine kso_max F3 N3 (isList_mem N3 List.mem_cons_self rfl rfl) hI1 (by rw [List.length_map, kinds_len]; (first | lia | omega)) rfl ?_
  intro h4 M4 t4 tk4 F4 N4 hM4 hmax4
  obtain ⟨N, htop, hle, rfl⟩ : ∃ N : Nat, (∃ k ∈ kindsL ns, k.1 = N) ∧ (∀ k ∈ kindsL ns, k.1 ≤ N) ∧ M4 = (N : Int) := by
    obtain ⟨q, hq, rfl⟩ := List.mem_map.mp hM4
    refine ⟨q.1, ⟨q, hq, rfl⟩, fun k hk => ?_, rfl⟩
    have := hmax4 _ (List.mem_map.mpr ⟨k, hk, rfl⟩)
    exact Int.ofNat_le.mp this
  have K := kinds_ks htop hle
  have hN := K.hN
  replace N4 : News s.heap L' _ ((L' + 1, _) :: tl) := fun p hp => N4 p (List.mem_cons_of_mem _ hp)
  clear F3 N3 hI1 hys hmax4 hM4 off3
  have marks : MarkS := trivial
  try k_fold
  k_steps
  refine stopped ?_
  refine wpAny_toksI (k := 1) (Nat.le_add_left _ _) ?_
  rename MarkS => hMS
  clear hMS
  try k_fold
  k_steps
  refine Imp.open fun hpos => ?_
  refine execs_toks (l1 := [_, _, _, _, _]) (l2 := [_, _]) hpos ?_
  k_fold
  k_steps
  refine stopped ?_
  refine ListComp_E (cl := []) (by k_asm) rfl (by decide) rfl (by decide) ?_
  try k_fold
  k_steps
  refine stopped ?_
  refine compAt_range (n := N) (fun i ys => All2 IsStr ys ((List.range i).map fun p => [97 + sig p])) rfl (by (first | lia | omega)) (by (first | lia | omega)) (by k_asm) (by k_asm) .nil (fun i ys h => ?_) ?_ ?_
  · have := h.length; rw [List.length_map, List.length_range] at this; exact Nat.le_of_eq this
  · rintro I i v h₂ tk₂ hi ⟨ti, rfl⟩ ys C D2 oI oC m₂ h' tk' E' _ hys hC F' N' off ne
    refine assignC1 rfl rfl hC F' N' off ne ?_
    intro h3 oC3 tk3 hC3 F3 N3
    refine tests_nil ?_
    clear N' F' hC
    show wpAny _ _ _ _ _ _
    k_fold
    k_steps
    refine stopped ?_
    refine Con.useS (sign_con w mg mb i 97 _ _ (by (first | lia | omega)) (by decide)) F3 X N3 T trivial (roomD hd (by decide)) (roomU hu (by decide)) ?_
    intro t9 h9 tk9 F9 N9
    refine CEnd.intro F9 N9 (by assumption) ?_
    show All2 IsStr (ys ++ [Value.str _ _]) ((List.range (i + 1)).map fun p => [97 + sig p])
    rw [List.range_succ, List.map_append]
    exact hys.snoc (IsStr.of rfl)
  intro ysp h₂ tk₂ hysp D3 h3 tk3 F3 N3 off3
  try k_fold
  k_steps
  refine stopped ?_
  refine join_strs (sep := []) (isList_mem N3 List.mem_cons_self rfl rfl) hysp (by decide) (by decide) (by
    have : ((List.range N).map fun p => [97 + sig p]).map List.length = (List.range N).map fun _ => 1 := by rw [List.map_map]; rfl
    rw [this, List.length_map, List.length_range, List.map_const', List.sum_replicate_nat, List.length_range]; (first | lia | omega)) ?_
  rw [glue_nil]
  intro tp tkp
  replace N3 : News s.heap L' _ ((L' + 1, _) :: tl) := fun p hp => N3 p (List.mem_cons_of_mem _ hp)
  refine store_cell rfl rfl rfl F3 N3 hap (by assumption) ?_
  intro h5 oP hP5 F5 N5
  clear F3 N3 off3 hysp
  try k_fold
  k_steps
  refine stopped ?_
  refine ListComp_A (cl := [(Str.ofString "plain", L' + 1)]) F5 rfl rfl (by decide) rfl (by decide) rfl rfl ?_
  try k_fold
  k_steps
  refine stopped ?_
  refine compAt_list (fun i ys => All2 IsStr ys (((kindsL ns).take i).map (textL N))) rfl (stands_listL (List.mem_cons_of_mem _ hmK) hcK hdK) (by rw [sizeLine_eq]; (first | lia | omega)) (by k_asm) (by k_asm) (fun I i v s Q E hit h => goList hit h) .nil (fun i ys h => ?_) ?_ ?_
  · have := h.length; rw [List.length_map, List.length_take] at this; show ys.length ≤ i; (first | lia | omega)
  · intro I j v h₂ hj hvj ys C D2 oI oC m₂ h' tk' E' _ hys hC F' N' off ne
    obtain ⟨q, hq, tq, svq, ⟨aT, oT, nT, rfl, hmT, hcT, hdT⟩, hS⟩ := hAK.get hvj
    obtain ⟨vq, ⟨aS, oS, nS, rfl, hmS, hcS, hdS⟩, hvq⟩ := hS
    have hqk := List.mem_of_getElem? hq
    have hqN := hle q hqk
    refine assignC2 rfl (isTup_mem N' (by repeat first | exact hmT | refine List.mem_cons_of_mem _ ?_) hcT hdT) rfl rfl rfl hC F' N' off ne ?_
    intro h3 oC3 tk3 hC3 F3 N3
    refine tests_nil ?_
    clear N' F' hC F5 N5
    show wpAny _ _ _ _ _ _
    k_fold
    have hlp : (S (List.map (fun p => 97 + sig p) (List.range N))).length = N := by rw [S_len, List.length_map, List.length_range]
    try k_fold
    k_steps
    refine stopped ?_
    rename Fr _ _ _ _ => F6
    rename News _ _ _ _ => N6
    rw [slice_take]
    have hqs := (kinds_all hqk).2.1
    refine Con.useS (text_con w mg mb ((plainL N).take q.1) _ aS vq q.2 hvq (by rw [List.length_take, plain_len]; (first | lia | omega)) (fun p hp => by have := hqs p hp; rw [List.length_take, plain_len]; (first | lia | omega))) F6 X N6 T (isList_mem N6 (by repeat first | exact hmS | refine List.mem_cons_of_mem _ ?_) hcS hdS) (roomD hd (by decide)) (roomU hu (by decide)) ?_
    intro t9 h9 tk9 F9 N9
    refine CEnd.intro F9 N9 (by assumption) ?_
    show All2 IsStr (ys ++ [Value.str _ _]) (((kindsL ns).take (j + 1)).map (textL N))
    rw [take_snoc hq, List.map_append]
    exact hys.snoc (IsStr.of rfl)
  intro yst h₂ hyst D3 h3 tk3 F3 N3 off3
  rw [hAK.length, List.take_length] at hyst
  clear F5 N5
  try k_fold
  k_steps
  refine stopped ?_
  have hKH : All2 (KindG (inH h3)) vk (kindsL ns) := hAK.mono fun _ _ x => x.mono fun _ _ hm => (N3 _ (List.mem_cons_of_mem _ (List.mem_cons_of_mem _ hm))).1
  refine Con.useV (shared_con w mg mb aK vk (sizeL ns) [] ((sizeL ns, [spotL ns]) :: ns.map (kindL (sizeL ns) (spotL ns))) (by rw [List.length_cons, List.length_map]; (first | lia | omega)) (fun q hq => (kinds_all hq).2.2.1) (fun e => by have := congrArg List.length e; simp [spotsL] at this)) F3 X N3 T ⟨isList_mem N3 (List.mem_cons_of_mem _ (List.mem_cons_of_mem _ hmK)) hcK hdK, hKH⟩ (roomD hd (by decide)) (roomU hu (by decide)) ?_
  rintro rsh _ h6 tk6 F6 N6 ⟨sh, ⟨tsh, rfl⟩, hsh1, hsh2⟩
  have H : Sh (sizeL ns) sh (kindsL ns) := ⟨hsh1, hsh2⟩
  clear F3 N3 hKH hsh1 hsh2
  have hz2 : yst.length = ns.length + 2 := by rw [hyst.length, List.length_map, kinds_len]
  clear off3
  try k_fold
  k_steps
  rename Fr _ _ _ _ => F7
  rename News _ _ _ _ => N7
  refine star_seq F7 N7 List.mem_cons_self rfl rfl (.inl rfl) rfl (by rw [List.size_toArray, sizeLine_eq]; (first | lia | omega)) ?_
  intro h8 F8 N8
  clear F6 N6 F7 N7
  refine ⟨X.keeps F8.keep, ?_⟩
  dsimp only [List.nil_append]
  refine csr_con w mg mb yst _ hyst (by rw [kinds_cons]; simp) (by rw [List.length_map, kinds_len]; (first | lia | omega)) (fun l hl => ?_) (fun l hl => ?_) _ _ _ _ _ _ _ _ _ P bm ob (X.keeps F8.keep) (T.keeps F8.keep) (M.keeps F8.keep) (Based.start (B.code.keeps F8.keep) (B.tab.keeps F8.keep) B.notStatics) G (roomD hd (by decide)) (roomU hu (by decide)) ?_
  · obtain ⟨k, hk, rfl⟩ := List.mem_map.mp hl
    exact K.letters hk
  · obtain ⟨k, hk, rfl⟩ := List.mem_map.mp hl
    have := K.kd k hk
    rw [text_len this.le this.sp]
    exact K.lt hk
  rintro r tlA ⟨h9, g9, d9, t9, o9⟩ hk9 ⟨ps, hps⟩ hn9 hg9 hos9 hpost
  dsimp only at hk9 hps hn9 hg9 hos9
  obtain ⟨va, aA, rfl, hmA, hAA⟩ := csr_final K H hpost
  have O9 := old_regrown B ps
  have F9 := frame_regrown (P := P) B F8 hk9 hps
  have N9 : News (regrown s.heap P ps) L' h9 ((aA, { cls := .type "tuple", data := .seq va.toArray }) :: (D3, LCg.lst yst) :: (L' + 1, oP) :: tl) := fun p hp => news_after (P := P) B F8 N8 hk9 hn9 p (by
    rcases List.mem_cons.mp hp with rfl | hp
    · exact List.mem_append_left _ hmA
    · exact List.mem_append_right _ hp)
  have X9 := LGeL.in_regrown F9 X T B (classed w)
  have T9 := LGe.top_regrown F9 T B
  clear F8 N8 X T M B hpre
  generalize hg : regrown s.heap P ps = gb at O9 F9 N9 X9 T9
  clear hg
  have hz3 : va.length = ns.length + 2 := by rw [hAA.length, List.length_map, kinds_len]
  clear hk9 hps hn9 hpost hmA tlA
  try k_fold
  k_steps
  refine stopped ?_
  rename Fr _ _ _ _ => F10
  rename News _ _ _ _ => N10
  have hza : va.toArray.size = ns.length + 2 := by rw [List.size_toArray, hz3]
  have hzt : yst.toArray.size = ns.length + 2 := by rw [List.size_toArray, hz2]
  refine len_tuple (isTup_mem N10 List.mem_cons_self rfl rfl) (by (first | lia | omega)) ?_
  try k_fold
  k_steps
  refine stopped ?_
  refine len_list (isList_mem N10 (List.mem_cons_of_mem _ List.mem_cons_self) rfl rfl) (by (first | lia | omega)) ?_
  try k_fold
  k_steps
  · exfalso; (first | lia | omega)
  refine Imp.open fun hpos2 => ?_
  try k_fold
  k_steps
  refine stopped ?_
  refine For_turnsB (h₀ := gb) F10 ?_
  try k_fold
  k_steps
  refine stopped ?_
  have memK : (aK, oK) ∈ ((aA, { cls := .type "tuple", data := .seq va.toArray }) :: (D3, LCg.lst yst) :: (L' + 1, oP) :: tl : List (Addr × Obj)) := List.mem_cons_of_mem _ (List.mem_cons_of_mem _ (List.mem_cons_of_mem _ hmK))
  refine loop_zip2B (lo := 1) (fun _ m => LJ aK D3 aA N sh m) rfl (isList_mem N10 memK hcK hdK) (N10 _ memK).2.1 (isTup_mem N10 List.mem_cons_self rfl rfl) (N10 _ List.mem_cons_self).2.1 (by rw [hz3, hz1]) F10 N10 ⟨rfl, ⟨_, rfl⟩, rfl, ⟨_, rfl⟩, rfl⟩ hpos2 ?_ ?_
  · rintro i T x1 x2 m₁ h tk own hx1 hx2 hT ⟨jk, ⟨tl9, jl⟩, jt, ⟨ts9, js⟩, ja⟩ hlo Fa Na
    obtain ⟨k, hk, tq, svq, ⟨aT, oT, nT, rfl, hmT, hcT, hdT⟩, hS⟩ := hAK.get hx1
    obtain ⟨vq, ⟨aS, oS, nS, rfl, hmS, hcS, hdS⟩, hvq⟩ := hS
    obtain ⟨an, han, tx2, rfl⟩ := hAA.get hx2
    rw [List.getElem?_map, hk] at han
    cases han
    have hkm := List.mem_of_getElem? hk
    have Fb := Fr.told (Fr.told (Fr.told (Fr.told (Fr.told Fa (x := Str.ofString "kinds") jk) (x := Str.ofString "longest") jl) (x := Str.ofString "texts") jt) (x := Str.ofString "shared") js) (x := Str.ofString "answers") ja
    clear Fa F10 N10
    refine wpAny_toks (k := 1) hlo (assign_pair rfl hT Fb Na rfl rfl rfl ?_)
    intro h5 tk5 F5 N5 (hlo5 : 1 ≤ tk5)
    clear Fb Na
    generalize hR : own ++ (aA, ({ cls := .type "tuple", data := .seq va.toArray } : Obj)) :: (D3, LCg.lst yst) :: (L' + 1, oP) :: tl = R at N5 ⊢
    have memA : (aA, { cls := .type "tuple", data := .seq va.toArray }) ∈ R := by rw [← hR]; exact List.mem_append_right _ List.mem_cons_self
    have memD : (D3, LCg.lst yst) ∈ R := by rw [← hR]; exact List.mem_append_right _ (List.mem_cons_of_mem _ List.mem_cons_self)
    have memT : ∀ p ∈ tl, p ∈ R := fun p hp => by rw [← hR]; exact List.mem_append_right _ (List.mem_cons_of_mem _ (List.mem_cons_of_mem _ (List.mem_cons_of_mem _ hp)))
    clear hR
    show wpAny _ _ _ _ _ _
    k_fold
    have kd := K.kd k hkm
    have gr := goodR K H hkm
    have hnl := nums_lt (K.lt hkm) gr
    have hql := kd.qlen
    have hk9 := K.lt hkm
    have ec : Str.ofString " chars]" = S charsL := by decide +kernel
    have eb : Str.ofString "[" = S [91] := by decide +kernel
    try k_fold
    k_steps
    refine stopped ?_
    have er : Txt.replace (S (cutL (qT N k) (runsK N sh k.1))) (Str.ofString " chars]") (Str.ofString "[") = S (glueL [91] (piecesK (qT N k) (runsK N sh k.1))) := by
      rw [ec, eb]; exact replace_cut (K.free hkm (by decide) (by decide)) hnl
    refine SC.replaceW (show tk5 ≠ 0 by (first | lia | omega)) (show tk5 + 1 ≠ 0 by (first | lia | omega)) (show tk5 ≠ tk5 + 1 by (first | lia | omega)) (by decide +kernel) (by have := cut_len (q := qT N k) hnl; rw [S_len]; (first | lia | omega)) (by decide) ?_
    rw [er]
    intro t6 k6
    try k_fold
    k_steps
    refine stopped ?_
    refine KSpl.split1 F5 N5 (by decide) ?_ (by have := glue_pieces_len (q := qT N k) hnl; rw [S_len, sizeLine_eq]; (first | lia | omega))
    intro Dp lp h6 k7 hlp _ F6 N6 _
    rw [eb, split_pieces (K.free hkm (by decide) (by decide)) hnl] at hlp
    have hws := strs_values hlp
    generalize strValues lp = ws at hws N6
    clear F5 N5 hlp
    have hwl : ws.length ≤ 5 := by rw [hws.length]; exact (pieces_len _ _).1
    have hwe := hws.evens
    have hwo := hws.odds
    rw [evens_pieces] at hwe
    rw [odds_pieces] at hwo
    have hle2 := (parts_sum_le (q := qT N k) (rs := runsK N sh k.1)).2
    have hel : (evens ws).length ≤ 3 := by rw [hwe.length]; exact hle2
    have hwz : ws.toArray.size ≤ sizeLine := by rw [List.size_toArray, sizeLine_eq]; (first | lia | omega)
    try k_fold
    k_steps
    refine stopped ?_
    refine ListComp_E (cl := []) (by k_asm) rfl (by decide) rfl (by decide) ?_
    try k_fold
    k_steps
    refine stopped ?_
    k_dflt (refine' kmk_slice3_lit (zs := evens ws) ?zF ?zN ?zl ?zp ?zq ?zk ?zo (pick_evens ws hwl) ?_ ?zs ?zt ?zz; (case zF => k_asm); (case zN => k_asm); (case zl => kmk_list); (case zp => kmk_part); (case zq => kmk_part); (case zk => kmk_part); (case zo => decide); (case zs => with_unfolding_all rfl); (case zt => kmk_pure); (case zz => exact hwz))
    intro D7 h7 F7 N7 _
    try k_fold
    k_steps
    refine stopped ?_
    refine compAt_list (vs := evens ws) (fun i ys => All2 IsInt ys (((partsK (qT N k) (runsK N sh k.1)).take i).map fun l => (l.length : Int))) rfl (stands_listL List.mem_cons_self rfl rfl) (by rw [sizeLine_eq]; (first | lia | omega)) (by k_asm) (by k_asm) (fun I i v s Q E hit h => wpAny_pure h) .nil (fun i ys h => ?_) ?_ ?_
    · have := h.length; rw [List.length_map, List.length_take] at this; show ys.length ≤ i; (first | lia | omega)
    · intro I j v h₂ hj hvj ys C D2 oI oC m₂ h' tk' E' _ hys hC F' N' off ne
      obtain ⟨pc, hpc, tpc, rfl⟩ := hwe.get hvj
      refine assignC1 rfl rfl hC F' N' off ne ?_
      intro h3 oC3 tk3 hC3 F3 N3
      refine tests_nil ?_
      clear N' F' hC F7 N7
      show wpAny _ _ _ _ _ _
      k_fold
      k_steps
      refine len_str (by have := parts_each pc (List.mem_of_getElem? hpc); rw [S_len]; (first | lia | omega)) ?_
      refine CEnd.intro (by k_asm) (by k_asm) (by assumption) ?_
      show All2 IsInt (ys ++ [Value.int _ _]) (((partsK (qT N k) (runsK N sh k.1)).take (j + 1)).map fun l => (l.length : Int))
      rw [take_snoc hpc, List.map_append]
      exact hys.snoc (IsInt.of (by rw [S_len]))
    intro ysa h₂ hysa D8 h8 tk8 F8 N8 off8
    rw [hwe.length, List.take_length] at hysa
    have hzo : (odds ws).length ≤ 2 := by rw [hwo.length, List.length_map]; exact nums_len _
    clear F7 N7
    try k_fold
    k_steps
    refine stopped ?_
    refine ListComp_E (cl := []) (by k_asm) rfl (by decide) rfl (by decide) ?_
    try k_fold
    k_steps
    refine stopped ?_
    k_dflt (refine' kmk_slice3_lit (zs := odds ws) ?yF ?yN ?yl ?yp ?yq ?yk ?yo (pick_odds ws hwl) ?_ ?ys ?yt ?yz; (case yF => k_asm); (case yN => k_asm); (case yl => exact isList_mem (by k_asm) (List.mem_cons_of_mem _ (List.mem_cons_of_mem _ List.mem_cons_self)) rfl rfl); (case yp => kmk_part); (case yq => kmk_part); (case yk => kmk_part); (case yo => decide); (case ys => with_unfolding_all rfl); (case yt => kmk_pure); (case yz => exact hwz))
    intro D9 h9 F9 N9 _
    try k_fold
    k_steps
    refine stopped ?_
    refine compAt_list (vs := odds ws) (fun i ys => All2 IsInt ys (((numsK (runsK N sh k.1)).take i).map fun n : Nat => (n : Int))) rfl (stands_listL List.mem_cons_self rfl rfl) (by rw [sizeLine_eq]; (first | lia | omega)) (by k_asm) (by k_asm) (fun I i v s Q E hit h => wpAny_pure h) .nil (fun i ys h => ?_) ?_ ?_
    · have := h.length; rw [List.length_map, List.length_take] at this; show ys.length ≤ i; (first | lia | omega)
    · intro I j v h₂ hj hvj ys C D2 oI oC m₂ h' tk' E' _ hys hC F' N' off ne
      obtain ⟨pc, hpc, tpc, rfl⟩ := hwo.get hvj
      rw [List.getElem?_map] at hpc
      obtain ⟨n, hn, rfl⟩ := Option.map_eq_some_iff.mp hpc
      refine assignC1 rfl rfl hC F' N' off ne ?_
      intro h3 oC3 tk3 hC3 F3 N3
      refine tests_nil ?_
      clear N' F' hC F9 N9
      show wpAny _ _ _ _ _ _
      k_fold
      k_steps
      refine stopped ?_
      rw [S_digs]
      refine KIN.call_num (Int.natCast_nonneg n) (by have := hnl n (List.mem_of_getElem? hn); (first | lia | omega)) ?_
      refine CEnd.intro (by k_asm) (by k_asm) (by assumption) ?_
      show All2 IsInt (ys ++ [Value.int _ _]) (((numsK (runsK N sh k.1)).take (j + 1)).map fun n : Nat => (n : Int))
      rw [take_snoc hn, List.map_append]
      exact hys.snoc (IsInt.of rfl)
    intro ysb h₂ hysb D10 h10 tk10 F10 N10 off10
    have hwon := hwo.length
    rw [List.length_map] at hwon
    rw [hwon, List.take_length] at hysb
    have hIa := ints_of hysa
    have hIb := ints_of hysb
    clear F9 N9
    try k_fold
    k_steps
    refine stopped ?_
    refine kmk_add_ints F10 N10 (vs := ysa) (ws := ysb) (isList_mem N10 (List.mem_cons_of_mem _ (List.mem_cons_of_mem _ List.mem_cons_self)) rfl rfl) (isList_mem N10 List.mem_cons_self rfl rfl) hIa hIb ?_ (by have h1 := hIa.length; have h2 := hIb.length; have h3 := nums_len (runsK N sh k.1); rw [List.length_map] at h1 h2; rw [List.length_map, List.length_map, sizeLine_eq]; (first | lia | omega))
    intro D11 us h11 F11 N11 _ hus
    replace N11 : News gb L' h11 ((D11, listOf us.toArray 0) :: (Dp, listOf ws.toArray 0) :: R) := fun p hp => N11 p (by
      rcases List.mem_cons.mp hp with rfl | hp
      · exact List.mem_cons_self
      · exact List.mem_cons_of_mem _ (List.mem_cons_of_mem _ (List.mem_cons_of_mem _ (List.mem_cons_of_mem _ (List.mem_cons_of_mem _ hp)))))
    have hsum : (((partsK (qT N k) (runsK N sh k.1)).map fun l => (l.length : Int)) ++ (numsK (runsK N sh k.1)).map fun n : Nat => (n : Int)).sum = (k.1 : Int) + 2 := by
      rw [List.sum_append, sum_nat_cast, sum_cast]
      have := parts_sum hql gr
      (first | lia | omega)
    clear F10 N10 hIa hIb hysa hysb
    try k_fold
    k_steps
    refine stopped ?_
    rename Fr _ _ _ _ => F12
    rename News _ _ _ _ => N12
    refine item_tupleT (isTup_mem N12 (by repeat first | exact memT _ hmT | refine List.mem_cons_of_mem _ ?_) hcT hdT) (by decide) (by decide) rfl rfl ?_
    try k_fold
    k_steps
    · exfalso; (first | lia | omega)
    refine stopped ?_
    refine item_tupleT (isTup_mem N12 (by repeat first | exact memT _ hmT | refine List.mem_cons_of_mem _ ?_) hcT hdT) (by decide) (by decide) rfl rfl ?_
    try k_fold
    k_steps
    refine stopped ?_
    have hN2 := H.le K
    refine Con.use (runs_con' w mg mb _ _ _ (k.1 + 2) (N + 2) sh _ _ _ (by (first | lia | omega)) (by (first | lia | omega)) rfl (by (first | lia | omega)) (by (first | lia | omega)) (by have := sizeL_lt ns; (first | lia | omega))) (by k_asm) X9 (by k_asm) T9 trivial (roomD hd (by decide)) (roomU hu (by decide)) ?_
    rintro _ tlR hR tkR _ _ FR NR ⟨vr, ⟨aR, oR, nR, rfl, hmR, hcR, hdR⟩, hAR⟩
    have memP : (Dp, listOf ws.toArray 0) ∈ tlR ++ (D11, listOf us.toArray 0) :: (Dp, listOf ws.toArray 0) :: R := List.mem_append_right _ (List.mem_cons_of_mem _ List.mem_cons_self)
    have memR : ∀ p ∈ R, p ∈ tlR ++ (D11, listOf us.toArray 0) :: (Dp, listOf ws.toArray 0) :: R := fun p hp => List.mem_append_right _ (List.mem_cons_of_mem _ (List.mem_cons_of_mem _ hp))
    have memRR : ∀ p ∈ tlR, p ∈ tlR ++ (D11, listOf us.toArray 0) :: (Dp, listOf ws.toArray 0) :: R := fun p hp => List.mem_append_left _ hp
    generalize tlR ++ (D11, listOf us.toArray 0) :: (Dp, listOf ws.toArray 0) :: R = R2 at NR memP memR memRR
    clear F12 N12
    try k_fold
    k_steps
    refine stopped ?_
    refine For_turns (h₀ := gb) (by k_asm) ?_
    try k_fold
    k_steps
    refine stopped ?_
    rename Fr _ _ _ _ => F13
    rename News _ _ _ _ => N13
    refine loop_zip3 (fun _ m => LI aK D3 aA aT Dp aR N sh (cutL (qT N k) (runsK N sh k.1)) m) rfl (isList_mem N13 (memR _ (memT _ hmK)) hcK hdK) (N13 _ (memR _ (memT _ hmK))).2.1 (isList_mem N13 (memR _ memD) rfl rfl) (N13 _ (memR _ memD)).2.1 (isTup_mem N13 (memR _ memA) rfl rfl) (N13 _ (memR _ memA)).2.1 (by rw [hz2, hz1]) (by rw [hz3, hz1]) F13 N13 ⟨⟨rfl, ⟨_, rfl⟩, rfl, ⟨_, rfl⟩, rfl⟩, rfl, ⟨_, rfl⟩, rfl, rfl⟩ ?_ ?_
    · rintro i' T' y1 y2 y3 m₂ h' tk' own' hy1 hy2 hy3 hT' ⟨⟨jk2, ⟨tl2, jl2⟩, jt2, ⟨ts2, js2⟩, ja2⟩, jo2, ⟨tn2, jn2⟩, jp2, jr2⟩ Fa Na
      obtain ⟨k', hk', tq', svq', ⟨aT', oT', nT', rfl, hmT', hcT', hdT'⟩, hS'⟩ := hAK.get hy1
      obtain ⟨vq', ⟨aS', oS', nS', rfl, hmS', hcS', hdS'⟩, hvq'⟩ := hS'
      obtain ⟨tn, htn, ty2, rfl⟩ := hyst.get hy2
      rw [List.getElem?_map, hk'] at htn
      cases htn
      obtain ⟨an, han, ty3, rfl⟩ := hAA.get hy3
      rw [List.getElem?_map, hk'] at han
      cases han
      have hkm' := List.mem_of_getElem? hk'
      have Fb := Fr.told (Fr.told (Fr.told (Fr.told (Fr.told (Fr.told (Fr.told (Fr.told (Fr.told Fa (x := Str.ofString "kinds") jk2) (x := Str.ofString "longest") jl2) (x := Str.ofString "texts") jt2) (x := Str.ofString "shared") js2) (x := Str.ofString "answers") ja2) (x := Str.ofString "one") jo2) (x := Str.ofString "answer") jn2) (x := Str.ofString "pieces") jp2) (x := Str.ofString "runs") jr2
      clear Fa F13 N13
      refine assign_triple rfl hT' Fb Na rfl rfl rfl rfl ?_
      intro h14 tk14 F14 N14
      clear Fb Na
      replace memP : (Dp, listOf ws.toArray 0) ∈ own' ++ R2 := List.mem_append_right _ memP
      have memR3 : ∀ p ∈ R2, p ∈ own' ++ R2 := fun p hp => List.mem_append_right _ hp
      generalize own' ++ R2 = R3 at N14 memP memR3 ⊢
      show wpAny _ _ _ _ _ _
      k_fold
      have memT3 : ∀ p ∈ tl, p ∈ R3 := fun p hp => memR3 _ (memR _ (memT _ hp))
      have kd' := K.kd k' hkm'
      have hk9' := K.lt hkm'
      have htl' : (S (textL N k')).length = k'.1 := by rw [S_len]; exact text_len kd'.le kd'.sp
      try k_fold
      k_steps
      refine stopped ?_
      refine Con.useV (alike_con w mg mb aT aT' aR aS aS' k.1 k'.1 tq tq' vq vq' vr k.2 k'.2 (runsK N sh k.1) hvq hvq' (kinds_all hkm).2.2.1 (kinds_all hkm').2.2.1 (runs_len _ _ _)) F14 X9 N14 T9 ⟨isTup_mem N14 (memT3 _ hmT) hcT hdT, isTup_mem N14 (memT3 _ hmT') hcT' hdT', isList_mem N14 (memT3 _ hmS) hcS hdS, isList_mem N14 (memT3 _ hmS') hcS' hdS', isList_mem N14 (memR3 _ (memRR _ hmR)) hcR hdR, hAR.mono fun _ _ x => x.mono fun _ _ hm => (N14 _ (memR3 _ (memRR _ hm))).1⟩ (roomD hd (by decide)) (roomU hu (by decide)) ?_
      rintro _ _ h15 tk15 F15 N15 ⟨ba, rfl, hba⟩
      clear F14 N14
      have hsl := parts_sum_le (q := qT N k) (rs := runsK N sh k.1)
      try k_fold
      k_steps
      refine stopped ?_
      k_dflt (refine' kmk_slice3_lit (zs := evens ws) ?xF ?xN ?xl ?xp ?xq ?xk ?xo (pick_evens ws hwl) ?_ ?xs ?xt ?xz; (case xF => k_asm); (case xN => k_asm); (case xl => exact isList_mem (by k_asm) memP rfl rfl); (case xp => kmk_part); (case xq => kmk_part); (case xk => kmk_part); (case xo => decide); (case xs => with_unfolding_all rfl); (case xt => kmk_pure); (case xz => exact hwz))
      intro D16 h16 F16 N16 _
      try k_fold
      k_steps
      refine stopped ?_
      refine join_strs (sep := [46, 46, 46]) (isList_mem N16 List.mem_cons_self rfl rfl) hwe (by decide +kernel) (by decide) (by (first | lia | omega)) ?_
      intro t17 k17
      clear F15 N15
      try k_fold
      k_steps
      refine stopped ?_
      have hq' : Str.ofString "'" ++ S (textL N k') ++ Str.ofString "'" = S (qT N k') := by
        rw [show Str.ofString "'" = S [39] by decide +kernel, S_append, S_append]; rfl
      refine Con.useV (ell_con w mg mb K H hkm hkm' _ _ _ _ rfl hq' (by have := glue_parts_len' hql gr; rw [S_len]; (first | lia | omega))) (by k_asm) X9 (by k_asm) T9 trivial (roomD hd (by decide)) (roomU hu (by decide)) ?_
      rintro _ _ h18 tk18 F18 N18 ⟨be, rfl, hbe⟩
      obtain rfl : be = ba := Bool.eq_iff_iff.mpr (hbe.trans hba.symm)
      clear F16 N16
      have hsm : (S (cutL (qT N k) (runsK N sh k.1)) == S (cutL (qT N k') (runsK N sh k'.1))) = be := by
        rw [Bool.eq_iff_iff, beq_iff_eq, S_inj]
        exact (same_iff K H hkm hkm').trans hbe.symm
      try k_fold
      k_steps
      · rename ((be != be) = true) => hx9
        rw [bne_self_eq_false] at hx9
        cases hx9
      · rename ((_ != be) = true) => hx9
        try dsimp only at hx9
        rw [hsm, bne_self_eq_false] at hx9
        cases hx9
      · refine InvEnd.intro (by k_asm) (by k_asm) (fun p hp => by repeat first | exact hp | refine List.mem_cons_of_mem _ ?_) ⟨⟨rfl, ⟨_, rfl⟩, rfl, ⟨_, rfl⟩, rfl⟩, rfl, ⟨_, rfl⟩, rfl, rfl⟩
    · intro m₂ h' tk' jj F N
      try k_fold
      k_steps
      exact InvEnd.intro F N (fun p hp => memR p hp) jj.1
  · intro m₁ h tk jj F N
    try k_fold
    k_steps
    exact hret _ (O9.step_keeps F.keep) hg9 hos9
end Mine
end
section
open PySem PySem.W PySem.Calls PyProof.Rows PyProof
set_option Elab.async false
set_option maxRecDepth 100000
set_option maxHeartbeats 8000000
namespace Mine
theorem based_named {K : Frag} {p : Program} {loose : List Str} {mean : ExcName → Option Value} {mg mb : Str → Option Value} {h : Heap} {d : DefRec} {name : Str} {a c : Addr} {oc : Value} {od : Option Addr} {fd : FuncData} {osl : Array (Option Value)}
    (X : K.In h) (T : Top p loose mean mg mb h) (hf : (recsOf p).find? (fun e => e.name == name) = some d) (e : nsIn K mainGlobals name = some (some (.ref a))) (ho : K.lookup a = some ⟨oc, od, .func fd, osl⟩) (hc : fd.code = .ref c) : ∃ P, Based h h c P #[] := by
  obtain ⟨c', P, he, B⟩ := based_of_top T hf (mg_of X T.g e) (X _ _ ho) rfl
  rw [hc] at he
  cases he
  exact ⟨P, B⟩
theorem law_holds : Challenge.rw_mq0167_01.Holds := by
  w_on
  o_law
  o_head (kHook hs [3, 27, 28, 34, 35, 41, 42, 48, 49, 53, 54, 60, 61, 62, 68, 69, 75, 76, 82, 83, 89, 90, 96, 97, 103, 104, 108, 109, 113, 114, 118, 119] (fun _ => by kernel_rfl))
  case hw => w_witness2
  w_strict (
    intro w s₀ s₁ mg mb G Y fa o pm cd doc dV kV ho hd hcd hD hmg hg args vals as hpre hlay hrd hwl hlo
    have KX := hk_of (kIn_of Y)
    have hrw : Challenge.rw_mq0167_01 = Challenge.rw_mq0167_01 := rfl
    revert KX hrw
    k_fill
    intro KX hrw
    refine Ground.open G ?_
    intro T B D TE TW
    obtain ⟨bm, ob, M⟩ := bmod_of_top T
    wrow_args hpre hlay hrd hwl hlo
    rename List Int => zs
    rename s₁.heap.IsList _ _ => hL
    rename IntsAre _ _ => hI
    have e119 : mg (Str.ofString "law") = some (.ref 119) := mg_of KX T.g (by k_is)
    have hfa := e119.symm.trans hmg
    cases hfa
    obtain ⟨P, Bs⟩ : ∃ P, Based s₁.heap s₁.heap 60 P #[] := by
      k_dflt (refine' based_named (name := Str.ofString "_common_shorten_repr") (a := 61) KX T ?b1 ?b2 ?b3 ?b4; (case b1 => rfl); (case b2 => k_is); (case b3 => k_is); (case b4 => rfl))
    refine law_con w mg mb _ _ zs hI (by (first | lia | omega)) (1 + claimMargin) 4 (some []) (some []) s₁ _ _ _ _ P bm ob KX (topRead_of T) M Bs (.of_eq hg) hL (by decide) (by decide) ?_
    intro s' hO hG hos
    refine ⟨.inl ⟨.bool true, .bool true, [], rfl, fun _ => rfl, .bool true, ?_, ?_⟩, hO, hos, hG⟩
    · with_unfolding_all rfl
    · exact fun _ => ⟨List.nodup_nil, fun a h => nomatch h⟩)
end Mine
end
theorem PySem.Challenge.cw_mq0167_01_holds : PySem.Challenge.rw_mq0167_01.Holds := by
  exact Mine.law_holds
