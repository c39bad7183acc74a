import PyProof.Rows.All
import Wide.All
import OpenK.AllK
import Wide.FinOn
import PySem.Challenge.RW_to0015_01
open PySem PySem.W PyProof.Rows
set_option Elab.async false
set_option compiler.extract_closed false
set_option bootstrap.genMatcherCode false
set_option maxRecDepth 100000
set_option maxHeartbeats 8000000
open PySem.Spec PySem.Calls
namespace Mine
section
theorem lt2 {i : Nat} (h : i < 2) : i = 0 ∨ i = 1 := (by decide : ∀ i < 2, i = 0 ∨ i = 1) i h
theorem lt3 {i : Nat} (h : i < 3) : i = 0 ∨ i = 1 ∨ i = 2 := (by decide : ∀ i < 3, i = 0 ∨ i = 1 ∨ i = 2) i h
theorem lt5 {i : Nat} (h : i < 5) : i = 0 ∨ i = 1 ∨ i = 2 ∨ i = 3 ∨ i = 4 := (by decide : ∀ i < 5, i = 0 ∨ i = 1 ∨ i = 2 ∨ i = 3 ∨ i = 4) i h
theorem lt6 {i : Nat} (h : i < 6) : i = 0 ∨ i = 1 ∨ i = 2 ∨ i = 3 ∨ i = 4 ∨ i = 5 := (by decide : ∀ i < 6, i = 0 ∨ i = 1 ∨ i = 2 ∨ i = 3 ∨ i = 4 ∨ i = 5) i h
theorem nsub {n i : Nat} (h : i < n) : ∃ m, n - i = m + 1 := ⟨n - i - 1, (Nat.sub_add_cancel (Nat.sub_pos_of_lt h)).symm⟩
theorem nsub1 {n i m : Nat} (h : n - i = m + 1) : n - 1 - m = i := by
  have e : n = m + 1 + i := Nat.eq_add_of_sub_eq (Nat.le_of_lt (Nat.lt_of_sub_pos (h ▸ Nat.succ_pos m))) h
  subst e
  rw [Nat.add_right_comm, Nat.add_sub_cancel, Nat.add_sub_cancel_left]
theorem nsub2 {n i m : Nat} (h : n - i = m + 1) : n - (i + 1) = m := by
  rw [← Nat.sub_sub, h]
  rfl
theorem nS {a b : Nat} (h : b ≤ a) : a + 1 ≠ b := Nat.ne_of_gt (Nat.lt_succ_of_le h)
theorem nS' {a b : Nat} (h : a ≤ b) : a ≠ b + 1 := Nat.ne_of_lt (Nat.lt_succ_of_le h)
theorem nUp {a b c : Nat} (h : b < a) (e : c ≤ b) : a ≠ c := Nat.ne_of_gt (Nat.lt_of_le_of_lt e h)
theorem nUp' {a b c : Nat} (h : b < a) (e : c ≤ b) : c ≠ a := Nat.ne_of_lt (Nat.lt_of_le_of_lt e h)
theorem upd {dp k n N : Nat} (h : dp + k < N) (e : Nat.ble (1 + n) k = true := by rfl) : dp + 1 + n < N := Nat.lt_of_le_of_lt (by rw [Nat.add_assoc]; exact Nat.add_le_add_left (Nat.le_of_ble_eq_true e) dp) h
theorem upu {un k n N : Nat} (h : un + 8 * k < N) (e : Nat.ble (3 + 8 * n) (8 * k) = true := by rfl) : un + 3 + 8 * n < N := Nat.lt_of_le_of_lt (by rw [Nat.add_assoc]; exact Nat.add_le_add_left (Nat.le_of_ble_eq_true e) un) h
theorem slt {n i : Nat} (h : i < n) : n + 1 - (i + 1) < n + 1 - i := Nat.sub_lt_sub_left (Nat.lt_succ_of_lt h) (Nat.lt_succ_self i)
theorem nsub3 {b p : Nat} (h : b < p) : p - b = p - (b + 1) + 1 := by
  rw [Nat.sub_add_eq, Nat.sub_add_cancel (Nat.sub_pos_of_lt h)]
theorem subm {n b q d : Nat} (h : n - b = d) (hn : b < n) (hb : b < q) : n - q < d := h ▸ Nat.sub_lt_sub_left hn hb
theorem m62 {a b : Int} (h : -1000 ≤ a ∧ a ≤ 1000) (h2 : -1000 ≤ b ∧ b ≤ 1000) : -(2 ^ 62) ≤ a ∧ a ≤ 2 ^ 62 ∧ -(2 ^ 62) ≤ b ∧ b ≤ 2 ^ 62 := by omega
theorem lt63 {i n : Nat} (h : i < n) (e : Nat.ble n 1000 = true := by rfl) : ((i : Nat) : Int) < 2 ^ 63 := by
  have := Nat.le_of_ble_eq_true e
  omega
theorem szl {n k : Nat} (h : n = k) (e : Nat.ble k 16777216 = true := by rfl) : n ≤ 16777216 := h ▸ Nat.le_of_ble_eq_true e
theorem hide {g : Prop} (h : ∀ G : Prop, (g → G) → G) : g := h g id
noncomputable def fnAt : List Stmt → Nat → Option (Arguments × List Stmt × Scope)
  | .FunctionDef _ a b _ _ _ sc _ _ _ :: _, 0 => some (a, b, sc)
  | .FunctionDef .. :: r, n + 1 => fnAt r n
  | _ :: r, n => fnAt r n
  | [], _ => none
noncomputable def h39 : Params → Frag := fun P => (fun (ar0 : Arguments) (bd0 : List Stmt) (sc0 : Scope) (_ : some (ar0, bd0, sc0) = fnAt PySem.Challenge.pw_to0015_01.main.body 0) (ar1 : Arguments) (bd1 : List Stmt) (sc1 : Scope) (_ : some (ar1, bd1, sc1) = fnAt PySem.Challenge.pw_to0015_01.main.body 1) (ar2 : Arguments) (bd2 : List Stmt) (sc2 : Scope) (_ : some (ar2, bd2, sc2) = fnAt PySem.Challenge.pw_to0015_01.main.body 2) (ar3 : Arguments) (bd3 : List Stmt) (sc3 : Scope) (_ : some (ar3, bd3, sc3) = fnAt PySem.Challenge.pw_to0015_01.main.body 3) (ar4 : Arguments) (bd4 : List Stmt) (sc4 : Scope) (_ : some (ar4, bd4, sc4) = fnAt PySem.Challenge.pw_to0015_01.main.body 4) (ar5 : Arguments) (bd5 : List Stmt) (sc5 : Scope) (_ : some (ar5, bd5, sc5) = fnAt PySem.Challenge.pw_to0015_01.main.body 5) (ar6 : Arguments) (bd6 : List Stmt) (sc6 : Scope) (_ : some (ar6, bd6, sc6) = fnAt PySem.Challenge.pw_to0015_01.main.body 6) (ar7 : Arguments) (bd7 : List Stmt) (sc7 : Scope) (_ : some (ar7, bd7, sc7) = fnAt PySem.Challenge.pw_to0015_01.main.body 7) (ar8 : Arguments) (bd8 : List Stmt) (sc8 : Scope) (_ : some (ar8, bd8, sc8) = fnAt PySem.Challenge.pw_to0015_01.main.body 8) (ar9 : Arguments) (bd9 : List Stmt) (sc9 : Scope) (_ : some (ar9, bd9, sc9) = fnAt PySem.Challenge.pw_to0015_01.main.body 9) (ar10 : Arguments) (bd10 : List Stmt) (sc10 : Scope) (_ : some (ar10, bd10, sc10) = fnAt PySem.Challenge.pw_to0015_01.main.body 10) (ar11 : Arguments) (bd11 : List Stmt) (sc11 : Scope) (_ : some (ar11, bd11, sc11) = fnAt PySem.Challenge.pw_to0015_01.main.body 11) (ar12 : Arguments) (bd12 : List Stmt) (sc12 : Scope) (_ : some (ar12, bd12, sc12) = fnAt PySem.Challenge.pw_to0015_01.main.body 12) (ar13 : Arguments) (bd13 : List Stmt) (sc13 : Scope) (_ : some (ar13, bd13, sc13) = fnAt PySem.Challenge.pw_to0015_01.main.body 13) (ar14 : Arguments) (bd14 : List Stmt) (sc14 : Scope) (_ : some (ar14, bd14, sc14) = fnAt PySem.Challenge.pw_to0015_01.main.body 14) (ar15 : Arguments) (bd15 : List Stmt) (sc15 : Scope) (_ : some (ar15, bd15, sc15) = fnAt PySem.Challenge.pw_to0015_01.main.body 15) =>
  (@List.cons.{0} (Prod.{0, 0} Nat PySem.Obj) (@Prod.mk.{0, 0} Nat PySem.Obj (nat_lit 2) (@PySem.Obj.mk @PySem.Value.none (@Option.none.{0} @Nat) (@PySem.Data.dict (@List.toArray.{0} @PySem.DictEntry (@List.cons.{0} @PySem.DictEntry (@PySem.DictEntry.mk (@PySem.PyData.keyHash @P (@PySem.Str.ofString "\x69mport.loaded._sre")) (@PySem.Value.str (@PySem.Str.ofString "\x69mport.loaded._sre") (183 : Nat)) (@PySem.Value.bool @Bool.true)) (@List.cons.{0} @PySem.DictEntry (@PySem.DictEntry.mk (@PySem.PyData.keyHash @P (@PySem.Str.ofString "class._frozen_importlib.BuiltinImporter")) (@PySem.Value.str (@PySem.Str.ofString "class._frozen_importlib.BuiltinImporter") (185 : Nat)) (@PySem.Value.ref (14 : Nat))) (@List.cons.{0} @PySem.DictEntry (@PySem.DictEntry.mk (@PySem.PyData.keyHash @P (@PySem.Str.ofString "watched.\x69mport")) (@PySem.Value.str (@PySem.Str.ofString "watched.\x69mport") (206 : Nat)) (@PySem.Value.ref (18 : Nat))) (@List.cons.{0} @PySem.DictEntry (@PySem.DictEntry.mk (@PySem.PyData.keyHash @P (@PySem.Str.ofString "class._frozen_importlib.ModuleSpec")) (@PySem.Value.str (@PySem.Str.ofString "class._frozen_importlib.ModuleSpec") (216 : Nat)) (@PySem.Value.ref (22 : Nat))) (@List.cons.{0} @PySem.DictEntry (@PySem.DictEntry.mk (@PySem.PyData.keyHash @P (@PySem.Str.ofString "sys.modules.booked-epoch")) (@PySem.Value.str (@PySem.Str.ofString "sys.modules.booked-epoch") (245 : Nat)) (@PySem.Value.int (3 : Int) (0 : Nat))) (@List.cons.{0} @PySem.DictEntry (@PySem.DictEntry.mk (@PySem.PyData.keyHash @P (@PySem.Str.ofString "\x69mport.later-laid._sre")) (@PySem.Value.str (@PySem.Str.ofString "\x69mport.later-laid._sre") (270 : Nat)) (@PySem.Value.bool @Bool.true)) (@List.cons.{0} @PySem.DictEntry (@PySem.DictEntry.mk (@PySem.PyData.keyHash @P (@PySem.Str.ofString "watched.library")) (@PySem.Value.str (@PySem.Str.ofString "watched.library") (272 : Nat)) (@PySem.Value.ref (27 : Nat))) (@List.cons.{0} @PySem.DictEntry (@PySem.DictEntry.mk (@PySem.PyData.keyHash @P (@PySem.Str.ofString "watched.library-objects")) (@PySem.Value.str (@PySem.Str.ofString "watched.library-objects") (0 : Nat)) (@PySem.Value.str (@PySem.Str.ofString "\x0c") (0 : Nat))) (@List.cons.{0} @PySem.DictEntry (@PySem.DictEntry.mk (@PySem.PyData.keyHash @P (@PySem.Str.ofString "watched.library-deep._sre")) (@PySem.Value.str (@PySem.Str.ofString "watched.library-deep._sre") (273 : Nat)) (@PySem.Value.str (@PySem.Str.ofString "\x04\x00\x00\x0b\x04\x00\x00\x0b\x04\x00\x00\x03\x04\x00\x00\x0b\x08\x04dict\x02") (0 : Nat))) (@List.nil.{0} @PySem.DictEntry))))))))))) (9 : Nat)) (@List.toArray.{0} (@Option.{0} @PySem.Value) (@List.nil.{0} (@Option.{0} @PySem.Value)))))
  (@List.cons.{0} (Prod.{0, 0} Nat PySem.Obj) (@Prod.mk.{0, 0} Nat PySem.Obj (nat_lit 3) (@PySem.Obj.mk (@PySem.Value.type "dict") (@Option.none.{0} @Nat) (@PySem.Data.dict (@List.toArray.{0} @PySem.DictEntry (@List.cons.{0} @PySem.DictEntry (@PySem.DictEntry.mk (@PySem.PyData.keyHash @P (@PySem.Str.ofString "__name__")) (@PySem.Value.str (@PySem.Str.ofString "__name__") (165 : Nat)) (@PySem.Value.str (@PySem.Str.ofString "law_to0015_01") (601 : Nat))) (@List.cons.{0} @PySem.DictEntry (@PySem.DictEntry.mk (@PySem.PyData.keyHash @P (@PySem.Str.ofString "__doc__")) (@PySem.Value.str (@PySem.Str.ofString "__doc__") (166 : Nat)) @PySem.Value.none) (@List.cons.{0} @PySem.DictEntry (@PySem.DictEntry.mk (@PySem.PyData.keyHash @P (@PySem.Str.ofString "__package__")) (@PySem.Value.str (@PySem.Str.ofString "__package__") (167 : Nat)) @PySem.Value.none) (@List.cons.{0} @PySem.DictEntry (@PySem.DictEntry.mk (@PySem.PyData.keyHash @P (@PySem.Str.ofString "__loader__")) (@PySem.Value.str (@PySem.Str.ofString "__loader__") (168 : Nat)) (@PySem.Value.builtin "__main__.__loader__#opaque")) (@List.cons.{0} @PySem.DictEntry (@PySem.DictEntry.mk (@PySem.PyData.keyHash @P (@PySem.Str.ofString "__spec__")) (@PySem.Value.str (@PySem.Str.ofString "__spec__") (169 : Nat)) @PySem.Value.none) (@List.cons.{0} @PySem.DictEntry (@PySem.DictEntry.mk (@PySem.PyData.keyHash @P (@PySem.Str.ofString "__annotations__")) (@PySem.Value.str (@PySem.Str.ofString "__annotations__") (170 : Nat)) (@PySem.Value.ref (6 : Nat))) (@List.cons.{0} @PySem.DictEntry (@PySem.DictEntry.mk (@PySem.PyData.keyHash @P (@PySem.Str.ofString "__builtins__")) (@PySem.Value.str (@PySem.Str.ofString "__builtins__") (171 : Nat)) (@PySem.Value.ref (4 : Nat))) (@List.cons.{0} @PySem.DictEntry (@PySem.DictEntry.mk (@PySem.PyData.keyHash @P (@PySem.Str.ofString "__file__")) (@PySem.Value.str (@PySem.Str.ofString "__file__") (173 : Nat)) (@PySem.Value.str (@PySem.Str.ofString "/claim/cut.py") (172 : Nat))) (@List.cons.{0} @PySem.DictEntry (@PySem.DictEntry.mk (@PySem.PyData.keyHash @P (@PySem.Str.ofString "__cached__")) (@PySem.Value.str (@PySem.Str.ofString "__cached__") (174 : Nat)) @PySem.Value.none) (@List.cons.{0} @PySem.DictEntry (@PySem.DictEntry.mk (@PySem.PyData.keyHash @P (@PySem.Str.ofString "_sre")) (@PySem.Value.str (@PySem.Str.ofString "_sre") (275 : Nat)) (@PySem.Value.ref (12 : Nat))) (@List.cons.{0} @PySem.DictEntry (@PySem.DictEntry.mk (@PySem.PyData.keyHash @P (@PySem.Str.ofString "_strcoll")) (@PySem.Value.str (@PySem.Str.ofString "_strcoll") (291 : Nat)) (@PySem.Value.ref (38 : Nat))) (@List.cons.{0} @PySem.DictEntry (@PySem.DictEntry.mk (@PySem.PyData.keyHash @P (@PySem.Str.ofString "CHAR_MAX")) (@PySem.Value.str (@PySem.Str.ofString "CHAR_MAX") (293 : Nat)) (@PySem.Value.int (127 : Int) (292 : Nat))) (@List.cons.{0} @PySem.DictEntry (@PySem.DictEntry.mk (@PySem.PyData.keyHash @P (@PySem.Str.ofString "_grouping_intervals")) (@PySem.Value.str (@PySem.Str.ofString "_grouping_intervals") (302 : Nat)) (@PySem.Value.ref (45 : Nat))) (@List.cons.{0} @PySem.DictEntry (@PySem.DictEntry.mk (@PySem.PyData.keyHash @P (@PySem.Str.ofString "add")) (@PySem.Value.str (@PySem.Str.ofString "add") (312 : Nat)) (@PySem.Value.ref (52 : Nat))) (@List.cons.{0} @PySem.DictEntry (@PySem.DictEntry.mk (@PySem.PyData.keyHash @P (@PySem.Str.ofString "mul")) (@PySem.Value.str (@PySem.Str.ofString "mul") (320 : Nat)) (@PySem.Value.ref (59 : Nat))) (@List.cons.{0} @PySem.DictEntry (@PySem.DictEntry.mk (@PySem.PyData.keyHash @P (@PySem.Str.ofString "sub")) (@PySem.Value.str (@PySem.Str.ofString "sub") (328 : Nat)) (@PySem.Value.ref (66 : Nat))) (@List.cons.{0} @PySem.DictEntry (@PySem.DictEntry.mk (@PySem.PyData.keyHash @P (@PySem.Str.ofString "countOf")) (@PySem.Value.str (@PySem.Str.ofString "countOf") (338 : Nat)) (@PySem.Value.ref (73 : Nat))) (@List.cons.{0} @PySem.DictEntry (@PySem.DictEntry.mk (@PySem.PyData.keyHash @P (@PySem.Str.ofString "_twin_re_1")) (@PySem.Value.str (@PySem.Str.ofString "_twin_re_1") (356 : Nat)) (@PySem.Value.ref (78 : Nat))) (@List.cons.{0} @PySem.DictEntry (@PySem.DictEntry.mk (@PySem.PyData.keyHash @P (@PySem.Str.ofString "_twin_re_2")) (@PySem.Value.str (@PySem.Str.ofString "_twin_re_2") (398 : Nat)) (@PySem.Value.ref (83 : Nat))) (@List.cons.{0} @PySem.DictEntry (@PySem.DictEntry.mk (@PySem.PyData.keyHash @P (@PySem.Str.ofString "CRLF")) (@PySem.Value.str (@PySem.Str.ofString "CRLF") (400 : Nat)) (@PySem.Value.str (@PySem.Str.ofString "\x0d\n") (399 : Nat))) (@List.cons.{0} @PySem.DictEntry (@PySem.DictEntry.mk (@PySem.PyData.keyHash @P (@PySem.Str.ofString "quotedata")) (@PySem.Value.str (@PySem.Str.ofString "quotedata") (407 : Nat)) (@PySem.Value.ref (90 : Nat))) (@List.cons.{0} @PySem.DictEntry (@PySem.DictEntry.mk (@PySem.PyData.keyHash @P (@PySem.Str.ofString "LPAR")) (@PySem.Value.str (@PySem.Str.ofString "LPAR") (409 : Nat)) (@PySem.Value.int (7 : Int) (408 : Nat))) (@List.cons.{0} @PySem.DictEntry (@PySem.DictEntry.mk (@PySem.PyData.keyHash @P (@PySem.Str.ofString "RPAR")) (@PySem.Value.str (@PySem.Str.ofString "RPAR") (411 : Nat)) (@PySem.Value.int (8 : Int) (410 : Nat))) (@List.cons.{0} @PySem.DictEntry (@PySem.DictEntry.mk (@PySem.PyData.keyHash @P (@PySem.Str.ofString "LSQB")) (@PySem.Value.str (@PySem.Str.ofString "LSQB") (413 : Nat)) (@PySem.Value.int (9 : Int) (412 : Nat))) (@List.cons.{0} @PySem.DictEntry (@PySem.DictEntry.mk (@PySem.PyData.keyHash @P (@PySem.Str.ofString "RSQB")) (@PySem.Value.str (@PySem.Str.ofString "RSQB") (415 : Nat)) (@PySem.Value.int (10 : Int) (414 : Nat))) (@List.cons.{0} @PySem.DictEntry (@PySem.DictEntry.mk (@PySem.PyData.keyHash @P (@PySem.Str.ofString "COLON")) (@PySem.Value.str (@PySem.Str.ofString "COLON") (417 : Nat)) (@PySem.Value.int (11 : Int) (416 : Nat))) (@List.cons.{0} @PySem.DictEntry (@PySem.DictEntry.mk (@PySem.PyData.keyHash @P (@PySem.Str.ofString "COMMA")) (@PySem.Value.str (@PySem.Str.ofString "COMMA") (419 : Nat)) (@PySem.Value.int (12 : Int) (418 : Nat))) (@List.cons.{0} @PySem.DictEntry (@PySem.DictEntry.mk (@PySem.PyData.keyHash @P (@PySem.Str.ofString "SEMI")) (@PySem.Value.str (@PySem.Str.ofString "SEMI") (421 : Nat)) (@PySem.Value.int (13 : Int) (420 : Nat))) (@List.cons.{0} @PySem.DictEntry (@PySem.DictEntry.mk (@PySem.PyData.keyHash @P (@PySem.Str.ofString "PLUS")) (@PySem.Value.str (@PySem.Str.ofString "PLUS") (423 : Nat)) (@PySem.Value.int (14 : Int) (422 : Nat))) (@List.cons.{0} @PySem.DictEntry (@PySem.DictEntry.mk (@PySem.PyData.keyHash @P (@PySem.Str.ofString "MINUS")) (@PySem.Value.str (@PySem.Str.ofString "MINUS") (425 : Nat)) (@PySem.Value.int (15 : Int) (424 : Nat))) (@List.cons.{0} @PySem.DictEntry (@PySem.DictEntry.mk (@PySem.PyData.keyHash @P (@PySem.Str.ofString "STAR")) (@PySem.Value.str (@PySem.Str.ofString "STAR") (427 : Nat)) (@PySem.Value.int (16 : Int) (426 : Nat))) (@List.cons.{0} @PySem.DictEntry (@PySem.DictEntry.mk (@PySem.PyData.keyHash @P (@PySem.Str.ofString "SLASH")) (@PySem.Value.str (@PySem.Str.ofString "SLASH") (429 : Nat)) (@PySem.Value.int (17 : Int) (428 : Nat))) (@List.cons.{0} @PySem.DictEntry (@PySem.DictEntry.mk (@PySem.PyData.keyHash @P (@PySem.Str.ofString "VBAR")) (@PySem.Value.str (@PySem.Str.ofString "VBAR") (431 : Nat)) (@PySem.Value.int (18 : Int) (430 : Nat))) (@List.cons.{0} @PySem.DictEntry (@PySem.DictEntry.mk (@PySem.PyData.keyHash @P (@PySem.Str.ofString "AMPER")) (@PySem.Value.str (@PySem.Str.ofString "AMPER") (433 : Nat)) (@PySem.Value.int (19 : Int) (432 : Nat))) (@List.cons.{0} @PySem.DictEntry (@PySem.DictEntry.mk (@PySem.PyData.keyHash @P (@PySem.Str.ofString "LESS")) (@PySem.Value.str (@PySem.Str.ofString "LESS") (435 : Nat)) (@PySem.Value.int (20 : Int) (434 : Nat))) (@List.cons.{0} @PySem.DictEntry (@PySem.DictEntry.mk (@PySem.PyData.keyHash @P (@PySem.Str.ofString "GREATER")) (@PySem.Value.str (@PySem.Str.ofString "GREATER") (437 : Nat)) (@PySem.Value.int (21 : Int) (436 : Nat))) (@List.cons.{0} @PySem.DictEntry (@PySem.DictEntry.mk (@PySem.PyData.keyHash @P (@PySem.Str.ofString "EQUAL")) (@PySem.Value.str (@PySem.Str.ofString "EQUAL") (439 : Nat)) (@PySem.Value.int (22 : Int) (438 : Nat))) (@List.cons.{0} @PySem.DictEntry (@PySem.DictEntry.mk (@PySem.PyData.keyHash @P (@PySem.Str.ofString "DOT")) (@PySem.Value.str (@PySem.Str.ofString "DOT") (441 : Nat)) (@PySem.Value.int (23 : Int) (440 : Nat))) (@List.cons.{0} @PySem.DictEntry (@PySem.DictEntry.mk (@PySem.PyData.keyHash @P (@PySem.Str.ofString "PERCENT")) (@PySem.Value.str (@PySem.Str.ofString "PERCENT") (443 : Nat)) (@PySem.Value.int (24 : Int) (442 : Nat))) (@List.cons.{0} @PySem.DictEntry (@PySem.DictEntry.mk (@PySem.PyData.keyHash @P (@PySem.Str.ofString "LBRACE")) (@PySem.Value.str (@PySem.Str.ofString "LBRACE") (445 : Nat)) (@PySem.Value.int (25 : Int) (444 : Nat))) (@List.cons.{0} @PySem.DictEntry (@PySem.DictEntry.mk (@PySem.PyData.keyHash @P (@PySem.Str.ofString "RBRACE")) (@PySem.Value.str (@PySem.Str.ofString "RBRACE") (447 : Nat)) (@PySem.Value.int (26 : Int) (446 : Nat))) (@List.cons.{0} @PySem.DictEntry (@PySem.DictEntry.mk (@PySem.PyData.keyHash @P (@PySem.Str.ofString "EQEQUAL")) (@PySem.Value.str (@PySem.Str.ofString "EQEQUAL") (449 : Nat)) (@PySem.Value.int (27 : Int) (448 : Nat))) (@List.cons.{0} @PySem.DictEntry (@PySem.DictEntry.mk (@PySem.PyData.keyHash @P (@PySem.Str.ofString "NOTEQUAL")) (@PySem.Value.str (@PySem.Str.ofString "NOTEQUAL") (451 : Nat)) (@PySem.Value.int (28 : Int) (450 : Nat))) (@List.cons.{0} @PySem.DictEntry (@PySem.DictEntry.mk (@PySem.PyData.keyHash @P (@PySem.Str.ofString "LESSEQUAL")) (@PySem.Value.str (@PySem.Str.ofString "LESSEQUAL") (453 : Nat)) (@PySem.Value.int (29 : Int) (452 : Nat))) (@List.cons.{0} @PySem.DictEntry (@PySem.DictEntry.mk (@PySem.PyData.keyHash @P (@PySem.Str.ofString "GREATEREQUAL")) (@PySem.Value.str (@PySem.Str.ofString "GREATEREQUAL") (455 : Nat)) (@PySem.Value.int (30 : Int) (454 : Nat))) (@List.cons.{0} @PySem.DictEntry (@PySem.DictEntry.mk (@PySem.PyData.keyHash @P (@PySem.Str.ofString "TILDE")) (@PySem.Value.str (@PySem.Str.ofString "TILDE") (457 : Nat)) (@PySem.Value.int (31 : Int) (456 : Nat))) (@List.cons.{0} @PySem.DictEntry (@PySem.DictEntry.mk (@PySem.PyData.keyHash @P (@PySem.Str.ofString "CIRCUMFLEX")) (@PySem.Value.str (@PySem.Str.ofString "CIRCUMFLEX") (459 : Nat)) (@PySem.Value.int (32 : Int) (458 : Nat))) (@List.cons.{0} @PySem.DictEntry (@PySem.DictEntry.mk (@PySem.PyData.keyHash @P (@PySem.Str.ofString "LEFTSHIFT")) (@PySem.Value.str (@PySem.Str.ofString "LEFTSHIFT") (461 : Nat)) (@PySem.Value.int (33 : Int) (460 : Nat))) (@List.cons.{0} @PySem.DictEntry (@PySem.DictEntry.mk (@PySem.PyData.keyHash @P (@PySem.Str.ofString "RIGHTSHIFT")) (@PySem.Value.str (@PySem.Str.ofString "RIGHTSHIFT") (463 : Nat)) (@PySem.Value.int (34 : Int) (462 : Nat))) (@List.cons.{0} @PySem.DictEntry (@PySem.DictEntry.mk (@PySem.PyData.keyHash @P (@PySem.Str.ofString "DOUBLESTAR")) (@PySem.Value.str (@PySem.Str.ofString "DOUBLESTAR") (465 : Nat)) (@PySem.Value.int (35 : Int) (464 : Nat))) (@List.cons.{0} @PySem.DictEntry (@PySem.DictEntry.mk (@PySem.PyData.keyHash @P (@PySem.Str.ofString "PLUSEQUAL")) (@PySem.Value.str (@PySem.Str.ofString "PLUSEQUAL") (467 : Nat)) (@PySem.Value.int (36 : Int) (466 : Nat))) (@List.cons.{0} @PySem.DictEntry (@PySem.DictEntry.mk (@PySem.PyData.keyHash @P (@PySem.Str.ofString "MINEQUAL")) (@PySem.Value.str (@PySem.Str.ofString "MINEQUAL") (469 : Nat)) (@PySem.Value.int (37 : Int) (468 : Nat))) (@List.cons.{0} @PySem.DictEntry (@PySem.DictEntry.mk (@PySem.PyData.keyHash @P (@PySem.Str.ofString "STAREQUAL")) (@PySem.Value.str (@PySem.Str.ofString "STAREQUAL") (471 : Nat)) (@PySem.Value.int (38 : Int) (470 : Nat))) (@List.cons.{0} @PySem.DictEntry (@PySem.DictEntry.mk (@PySem.PyData.keyHash @P (@PySem.Str.ofString "SLASHEQUAL")) (@PySem.Value.str (@PySem.Str.ofString "SLASHEQUAL") (473 : Nat)) (@PySem.Value.int (39 : Int) (472 : Nat))) (@List.cons.{0} @PySem.DictEntry (@PySem.DictEntry.mk (@PySem.PyData.keyHash @P (@PySem.Str.ofString "PERCENTEQUAL")) (@PySem.Value.str (@PySem.Str.ofString "PERCENTEQUAL") (475 : Nat)) (@PySem.Value.int (40 : Int) (474 : Nat))) (@List.cons.{0} @PySem.DictEntry (@PySem.DictEntry.mk (@PySem.PyData.keyHash @P (@PySem.Str.ofString "AMPEREQUAL")) (@PySem.Value.str (@PySem.Str.ofString "AMPEREQUAL") (477 : Nat)) (@PySem.Value.int (41 : Int) (476 : Nat))) (@List.cons.{0} @PySem.DictEntry (@PySem.DictEntry.mk (@PySem.PyData.keyHash @P (@PySem.Str.ofString "VBAREQUAL")) (@PySem.Value.str (@PySem.Str.ofString "VBAREQUAL") (479 : Nat)) (@PySem.Value.int (42 : Int) (478 : Nat))) (@List.cons.{0} @PySem.DictEntry (@PySem.DictEntry.mk (@PySem.PyData.keyHash @P (@PySem.Str.ofString "CIRCUMFLEXEQUAL")) (@PySem.Value.str (@PySem.Str.ofString "CIRCUMFLEXEQUAL") (481 : Nat)) (@PySem.Value.int (43 : Int) (480 : Nat))) (@List.cons.{0} @PySem.DictEntry (@PySem.DictEntry.mk (@PySem.PyData.keyHash @P (@PySem.Str.ofString "LEFTSHIFTEQUAL")) (@PySem.Value.str (@PySem.Str.ofString "LEFTSHIFTEQUAL") (483 : Nat)) (@PySem.Value.int (44 : Int) (482 : Nat))) (@List.cons.{0} @PySem.DictEntry (@PySem.DictEntry.mk (@PySem.PyData.keyHash @P (@PySem.Str.ofString "RIGHTSHIFTEQUAL")) (@PySem.Value.str (@PySem.Str.ofString "RIGHTSHIFTEQUAL") (485 : Nat)) (@PySem.Value.int (45 : Int) (484 : Nat))) (@List.cons.{0} @PySem.DictEntry (@PySem.DictEntry.mk (@PySem.PyData.keyHash @P (@PySem.Str.ofString "DOUBLESTAREQUAL")) (@PySem.Value.str (@PySem.Str.ofString "DOUBLESTAREQUAL") (487 : Nat)) (@PySem.Value.int (46 : Int) (486 : Nat))) (@List.cons.{0} @PySem.DictEntry (@PySem.DictEntry.mk (@PySem.PyData.keyHash @P (@PySem.Str.ofString "DOUBLESLASH")) (@PySem.Value.str (@PySem.Str.ofString "DOUBLESLASH") (489 : Nat)) (@PySem.Value.int (47 : Int) (488 : Nat))) (@List.cons.{0} @PySem.DictEntry (@PySem.DictEntry.mk (@PySem.PyData.keyHash @P (@PySem.Str.ofString "DOUBLESLASHEQUAL")) (@PySem.Value.str (@PySem.Str.ofString "DOUBLESLASHEQUAL") (491 : Nat)) (@PySem.Value.int (48 : Int) (490 : Nat))) (@List.cons.{0} @PySem.DictEntry (@PySem.DictEntry.mk (@PySem.PyData.keyHash @P (@PySem.Str.ofString "AT")) (@PySem.Value.str (@PySem.Str.ofString "AT") (493 : Nat)) (@PySem.Value.int (49 : Int) (492 : Nat))) (@List.cons.{0} @PySem.DictEntry (@PySem.DictEntry.mk (@PySem.PyData.keyHash @P (@PySem.Str.ofString "ATEQUAL")) (@PySem.Value.str (@PySem.Str.ofString "ATEQUAL") (495 : Nat)) (@PySem.Value.int (50 : Int) (494 : Nat))) (@List.cons.{0} @PySem.DictEntry (@PySem.DictEntry.mk (@PySem.PyData.keyHash @P (@PySem.Str.ofString "RARROW")) (@PySem.Value.str (@PySem.Str.ofString "RARROW") (497 : Nat)) (@PySem.Value.int (51 : Int) (496 : Nat))) (@List.cons.{0} @PySem.DictEntry (@PySem.DictEntry.mk (@PySem.PyData.keyHash @P (@PySem.Str.ofString "ELLIPSIS")) (@PySem.Value.str (@PySem.Str.ofString "ELLIPSIS") (499 : Nat)) (@PySem.Value.int (52 : Int) (498 : Nat))) (@List.cons.{0} @PySem.DictEntry (@PySem.DictEntry.mk (@PySem.PyData.keyHash @P (@PySem.Str.ofString "COLONEQUAL")) (@PySem.Value.str (@PySem.Str.ofString "COLONEQUAL") (501 : Nat)) (@PySem.Value.int (53 : Int) (500 : Nat))) (@List.cons.{0} @PySem.DictEntry (@PySem.DictEntry.mk (@PySem.PyData.keyHash @P (@PySem.Str.ofString "EXCLAMATION")) (@PySem.Value.str (@PySem.Str.ofString "EXCLAMATION") (503 : Nat)) (@PySem.Value.int (54 : Int) (502 : Nat))) (@List.cons.{0} @PySem.DictEntry (@PySem.DictEntry.mk (@PySem.PyData.keyHash @P (@PySem.Str.ofString "EXACT_TOKEN_TYPES")) (@PySem.Value.str (@PySem.Str.ofString "EXACT_TOKEN_TYPES") (600 : Nat)) (@PySem.Value.ref (91 : Nat))) (@List.cons.{0} @PySem.DictEntry (@PySem.DictEntry.mk (@PySem.PyData.keyHash @P (@PySem.Str.ofString "_law_numbers")) (@PySem.Value.str (@PySem.Str.ofString "_law_numbers") (608 : Nat)) (@PySem.Value.ref (98 : Nat))) (@List.cons.{0} @PySem.DictEntry (@PySem.DictEntry.mk (@PySem.PyData.keyHash @P (@PySem.Str.ofString "_law_sizes")) (@PySem.Value.str (@PySem.Str.ofString "_law_sizes") (614 : Nat)) (@PySem.Value.ref (103 : Nat))) (@List.cons.{0} @PySem.DictEntry (@PySem.DictEntry.mk (@PySem.PyData.keyHash @P (@PySem.Str.ofString "_law_mail")) (@PySem.Value.str (@PySem.Str.ofString "_law_mail") (620 : Nat)) (@PySem.Value.ref (108 : Nat))) (@List.cons.{0} @PySem.DictEntry (@PySem.DictEntry.mk (@PySem.PyData.keyHash @P (@PySem.Str.ofString "_law_read")) (@PySem.Value.str (@PySem.Str.ofString "_law_read") (626 : Nat)) (@PySem.Value.ref (113 : Nat))) (@List.cons.{0} @PySem.DictEntry (@PySem.DictEntry.mk (@PySem.PyData.keyHash @P (@PySem.Str.ofString "_law_over")) (@PySem.Value.str (@PySem.Str.ofString "_law_over") (641 : Nat)) (@PySem.Value.ref (120 : Nat))) (@List.cons.{0} @PySem.DictEntry (@PySem.DictEntry.mk (@PySem.PyData.keyHash @P (@PySem.Str.ofString "_law_sent")) (@PySem.Value.str (@PySem.Str.ofString "_law_sent") (647 : Nat)) (@PySem.Value.ref (125 : Nat))) (@List.cons.{0} @PySem.DictEntry (@PySem.DictEntry.mk (@PySem.PyData.keyHash @P (@PySem.Str.ofString "_law_counts")) (@PySem.Value.str (@PySem.Str.ofString "_law_counts") (656 : Nat)) (@PySem.Value.ref (132 : Nat))) (@List.cons.{0} @PySem.DictEntry (@PySem.DictEntry.mk (@PySem.PyData.keyHash @P (@PySem.Str.ofString "_law_four")) (@PySem.Value.str (@PySem.Str.ofString "_law_four") (662 : Nat)) (@PySem.Value.ref (137 : Nat))) (@List.cons.{0} @PySem.DictEntry (@PySem.DictEntry.mk (@PySem.PyData.keyHash @P (@PySem.Str.ofString "law")) (@PySem.Value.str (@PySem.Str.ofString "law") (668 : Nat)) (@PySem.Value.ref (142 : Nat))) (@List.nil.{0} @PySem.DictEntry))))))))))))))))))))))))))))))))))))))))))))))))))))))))))))))))))))))))))))))))) (79 : Nat)) (@List.toArray.{0} (@Option.{0} @PySem.Value) (@List.nil.{0} (@Option.{0} @PySem.Value)))))
  (@List.cons.{0} (Prod.{0, 0} Nat PySem.Obj) (@Prod.mk.{0, 0} Nat PySem.Obj (nat_lit 6) (@PySem.Obj.mk (@PySem.Value.type "dict") (@Option.none.{0} @Nat) (@PySem.Data.dict (@List.toArray.{0} @PySem.DictEntry (@List.nil.{0} @PySem.DictEntry)) (0 : Nat)) (@List.toArray.{0} (@Option.{0} @PySem.Value) (@List.nil.{0} (@Option.{0} @PySem.Value)))))
  (@List.cons.{0} (Prod.{0, 0} Nat PySem.Obj) (@Prod.mk.{0, 0} Nat PySem.Obj (nat_lit 11) (@PySem.Obj.mk (@PySem.Value.type "dict") (@Option.none.{0} @Nat) (@PySem.Data.dict (@List.toArray.{0} @PySem.DictEntry (@List.cons.{0} @PySem.DictEntry (@PySem.DictEntry.mk (@PySem.PyData.keyHash @P (@PySem.Str.ofString "__name__")) (@PySem.Value.str (@PySem.Str.ofString "__name__") (247 : Nat)) (@PySem.Value.str (@PySem.Str.ofString "_sre") (246 : Nat))) (@List.cons.{0} @PySem.DictEntry (@PySem.DictEntry.mk (@PySem.PyData.keyHash @P (@PySem.Str.ofString "__doc__")) (@PySem.Value.str (@PySem.Str.ofString "__doc__") (248 : Nat)) @PySem.Value.none) (@List.cons.{0} @PySem.DictEntry (@PySem.DictEntry.mk (@PySem.PyData.keyHash @P (@PySem.Str.ofString "__package__")) (@PySem.Value.str (@PySem.Str.ofString "__package__") (250 : Nat)) (@PySem.Value.str (@PySem.Str.ofString "") (249 : Nat))) (@List.cons.{0} @PySem.DictEntry (@PySem.DictEntry.mk (@PySem.PyData.keyHash @P (@PySem.Str.ofString "__loader__")) (@PySem.Value.str (@PySem.Str.ofString "__loader__") (251 : Nat)) (@PySem.Value.builtin "off-the-table:_sre.__loader__:shared#opaque")) (@List.cons.{0} @PySem.DictEntry (@PySem.DictEntry.mk (@PySem.PyData.keyHash @P (@PySem.Str.ofString "__spec__")) (@PySem.Value.str (@PySem.Str.ofString "__spec__") (252 : Nat)) (@PySem.Value.builtin "off-the-table:_sre.__spec__:shared#opaque")) (@List.cons.{0} @PySem.DictEntry (@PySem.DictEntry.mk (@PySem.PyData.keyHash @P (@PySem.Str.ofString "compile")) (@PySem.Value.str (@PySem.Str.ofString "compile") (253 : Nat)) (@PySem.Value.builtin "_sre.compile")) (@List.cons.{0} @PySem.DictEntry (@PySem.DictEntry.mk (@PySem.PyData.keyHash @P (@PySem.Str.ofString "template")) (@PySem.Value.str (@PySem.Str.ofString "template") (254 : Nat)) (@PySem.Value.builtin "off-the-table:_sre.template:shared#opaque")) (@List.cons.{0} @PySem.DictEntry (@PySem.DictEntry.mk (@PySem.PyData.keyHash @P (@PySem.Str.ofString "getcodesize")) (@PySem.Value.str (@PySem.Str.ofString "getcodesize") (255 : Nat)) (@PySem.Value.builtin "off-the-table:_sre.getcodesize:shared#opaque")) (@List.cons.{0} @PySem.DictEntry (@PySem.DictEntry.mk (@PySem.PyData.keyHash @P (@PySem.Str.ofString "ascii_iscased")) (@PySem.Value.str (@PySem.Str.ofString "ascii_iscased") (256 : Nat)) (@PySem.Value.builtin "off-the-table:_sre.ascii_iscased:shared#opaque")) (@List.cons.{0} @PySem.DictEntry (@PySem.DictEntry.mk (@PySem.PyData.keyHash @P (@PySem.Str.ofString "unicode_iscased")) (@PySem.Value.str (@PySem.Str.ofString "unicode_iscased") (257 : Nat)) (@PySem.Value.builtin "off-the-table:_sre.unicode_iscased:shared#opaque")) (@List.cons.{0} @PySem.DictEntry (@PySem.DictEntry.mk (@PySem.PyData.keyHash @P (@PySem.Str.ofString "ascii_tolower")) (@PySem.Value.str (@PySem.Str.ofString "ascii_tolower") (258 : Nat)) (@PySem.Value.builtin "off-the-table:_sre.ascii_tolower:shared#opaque")) (@List.cons.{0} @PySem.DictEntry (@PySem.DictEntry.mk (@PySem.PyData.keyHash @P (@PySem.Str.ofString "unicode_tolower")) (@PySem.Value.str (@PySem.Str.ofString "unicode_tolower") (259 : Nat)) (@PySem.Value.builtin "off-the-table:_sre.unicode_tolower:shared#opaque")) (@List.cons.{0} @PySem.DictEntry (@PySem.DictEntry.mk (@PySem.PyData.keyHash @P (@PySem.Str.ofString "MAGIC")) (@PySem.Value.str (@PySem.Str.ofString "MAGIC") (261 : Nat)) (@PySem.Value.int (20230612 : Int) (260 : Nat))) (@List.cons.{0} @PySem.DictEntry (@PySem.DictEntry.mk (@PySem.PyData.keyHash @P (@PySem.Str.ofString "CODESIZE")) (@PySem.Value.str (@PySem.Str.ofString "CODESIZE") (263 : Nat)) (@PySem.Value.int (4 : Int) (262 : Nat))) (@List.cons.{0} @PySem.DictEntry (@PySem.DictEntry.mk (@PySem.PyData.keyHash @P (@PySem.Str.ofString "MAXREPEAT")) (@PySem.Value.str (@PySem.Str.ofString "MAXREPEAT") (265 : Nat)) (@PySem.Value.int (4294967295 : Int) (264 : Nat))) (@List.cons.{0} @PySem.DictEntry (@PySem.DictEntry.mk (@PySem.PyData.keyHash @P (@PySem.Str.ofString "MAXGROUPS")) (@PySem.Value.str (@PySem.Str.ofString "MAXGROUPS") (267 : Nat)) (@PySem.Value.int (1073741823 : Int) (266 : Nat))) (@List.cons.{0} @PySem.DictEntry (@PySem.DictEntry.mk (@PySem.PyData.keyHash @P (@PySem.Str.ofString "copyright")) (@PySem.Value.str (@PySem.Str.ofString "copyright") (269 : Nat)) (@PySem.Value.str (@PySem.Str.ofString " SRE 2.2.2 Copyright (c) 1997-2002 by Secret Labs AB ") (268 : Nat))) (@List.nil.{0} @PySem.DictEntry))))))))))))))))))) (17 : Nat)) (@List.toArray.{0} (@Option.{0} @PySem.Value) (@List.nil.{0} (@Option.{0} @PySem.Value)))))
  (@List.cons.{0} (Prod.{0, 0} Nat PySem.Obj) (@Prod.mk.{0, 0} Nat PySem.Obj (nat_lit 12) (@PySem.Obj.mk (@PySem.Value.type "module") (@Option.some.{0} @Nat (11 : Nat)) @PySem.Data.plain (@List.toArray.{0} (@Option.{0} @PySem.Value) (@List.nil.{0} (@Option.{0} @PySem.Value)))))
  (@List.cons.{0} (Prod.{0, 0} Nat PySem.Obj) (@Prod.mk.{0, 0} Nat PySem.Obj (nat_lit 37) (@PySem.Obj.mk (@PySem.Value.type "code") (@Option.none.{0} @Nat) (@PySem.Data.fields (@List.toArray.{0} @PySem.Value (@List.cons.{0} @PySem.Value (@PySem.Value.str (@PySem.Str.ofString "_strcoll") (284 : Nat)) (@List.cons.{0} @PySem.Value (@PySem.Value.str (@PySem.Str.ofString "_strcoll") (285 : Nat)) (@List.cons.{0} @PySem.Value (@PySem.Value.str (@PySem.Str.ofString "/claim/cut.py") (286 : Nat)) (@List.cons.{0} @PySem.Value (@PySem.Value.int (3 : Int) (0 : Nat)) (@List.cons.{0} @PySem.Value (@PySem.Value.int (2 : Int) (0 : Nat)) (@List.cons.{0} @PySem.Value (@PySem.Value.int (0 : Int) (0 : Nat)) (@List.cons.{0} @PySem.Value (@PySem.Value.int (0 : Int) (0 : Nat)) (@List.cons.{0} @PySem.Value (@PySem.Value.int (3 : Int) (0 : Nat)) (@List.cons.{0} @PySem.Value (@PySem.Value.ref (32 : Nat)) (@List.cons.{0} @PySem.Value (@PySem.Value.bool @Bool.true) (@List.cons.{0} @PySem.Value (@PySem.Value.int (276 : Int) (0 : Nat)) (@List.cons.{0} @PySem.Value (@PySem.Value.ref (33 : Nat)) (@List.cons.{0} @PySem.Value @PySem.Value.none (@List.cons.{0} @PySem.Value (@PySem.Value.ref (34 : Nat)) (@List.cons.{0} @PySem.Value (@PySem.Value.ref (35 : Nat)) (@List.cons.{0} @PySem.Value (@PySem.Value.ref (36 : Nat)) (@List.cons.{0} @PySem.Value (@PySem.Value.int (289 : Int) (0 : Nat)) (@List.cons.{0} @PySem.Value (@PySem.Value.int (3 : Int) (0 : Nat)) (@List.cons.{0} @PySem.Value (@PySem.Value.str (@PySem.Str.ofString "/claim/cut.py") (290 : Nat)) (@List.nil.{0} @PySem.Value)))))))))))))))))))))) (@List.toArray.{0} (@Option.{0} @PySem.Value) (@List.nil.{0} (@Option.{0} @PySem.Value)))))
  (@List.cons.{0} (Prod.{0, 0} Nat PySem.Obj) (@Prod.mk.{0, 0} Nat PySem.Obj (nat_lit 38) (@PySem.Obj.mk (@PySem.Value.type "function") (@Option.none.{0} @Nat) (@PySem.Data.func (@PySem.FuncData.mk (@PySem.Str.ofString "_strcoll") (@PySem.Str.ofString "_strcoll") @ar0 (@PySem.FuncBody.stmts @bd0) @sc0 (3 : Nat) (@List.nil.{0} (@Prod.{0, 0} @PySem.Str @Nat)) @PySem.Value.none @PySem.Value.none @PySem.Value.none (@PySem.Value.str (@PySem.Str.ofString "cpy313.locale") (282 : Nat)) (@Option.none.{0} @Nat) (@PySem.Value.ref (37 : Nat)) @PySem.Value.none (0 : Nat))) (@List.toArray.{0} (@Option.{0} @PySem.Value) (@List.nil.{0} (@Option.{0} @PySem.Value)))))
  (@List.cons.{0} (Prod.{0, 0} Nat PySem.Obj) (@Prod.mk.{0, 0} Nat PySem.Obj (nat_lit 44) (@PySem.Obj.mk (@PySem.Value.type "code") (@Option.none.{0} @Nat) (@PySem.Data.fields (@List.toArray.{0} @PySem.Value (@List.cons.{0} @PySem.Value (@PySem.Value.str (@PySem.Str.ofString "_grouping_intervals") (294 : Nat)) (@List.cons.{0} @PySem.Value (@PySem.Value.str (@PySem.Str.ofString "_grouping_intervals") (295 : Nat)) (@List.cons.{0} @PySem.Value (@PySem.Value.str (@PySem.Str.ofString "/claim/cut.py") (296 : Nat)) (@List.cons.{0} @PySem.Value (@PySem.Value.int (6 : Int) (0 : Nat)) (@List.cons.{0} @PySem.Value (@PySem.Value.int (1 : Int) (0 : Nat)) (@List.cons.{0} @PySem.Value (@PySem.Value.int (0 : Int) (0 : Nat)) (@List.cons.{0} @PySem.Value (@PySem.Value.int (0 : Int) (0 : Nat)) (@List.cons.{0} @PySem.Value (@PySem.Value.int (35 : Int) (0 : Nat)) (@List.cons.{0} @PySem.Value (@PySem.Value.ref (39 : Nat)) (@List.cons.{0} @PySem.Value (@PySem.Value.bool @Bool.true) (@List.cons.{0} @PySem.Value (@PySem.Value.int (276 : Int) (0 : Nat)) (@List.cons.{0} @PySem.Value (@PySem.Value.ref (40 : Nat)) (@List.cons.{0} @PySem.Value @PySem.Value.none (@List.cons.{0} @PySem.Value (@PySem.Value.ref (41 : Nat)) (@List.cons.{0} @PySem.Value (@PySem.Value.ref (42 : Nat)) (@List.cons.{0} @PySem.Value (@PySem.Value.ref (43 : Nat)) (@List.cons.{0} @PySem.Value (@PySem.Value.int (300 : Int) (0 : Nat)) (@List.cons.{0} @PySem.Value (@PySem.Value.int (6 : Int) (0 : Nat)) (@List.cons.{0} @PySem.Value (@PySem.Value.str (@PySem.Str.ofString "/claim/cut.py") (301 : Nat)) (@List.nil.{0} @PySem.Value)))))))))))))))))))))) (@List.toArray.{0} (@Option.{0} @PySem.Value) (@List.nil.{0} (@Option.{0} @PySem.Value)))))
  (@List.cons.{0} (Prod.{0, 0} Nat PySem.Obj) (@Prod.mk.{0, 0} Nat PySem.Obj (nat_lit 45) (@PySem.Obj.mk (@PySem.Value.type "function") (@Option.none.{0} @Nat) (@PySem.Data.func (@PySem.FuncData.mk (@PySem.Str.ofString "_grouping_intervals") (@PySem.Str.ofString "_grouping_intervals") @ar1 (@PySem.FuncBody.stmts @bd1) @sc1 (3 : Nat) (@List.nil.{0} (@Prod.{0, 0} @PySem.Str @Nat)) @PySem.Value.none @PySem.Value.none @PySem.Value.none (@PySem.Value.str (@PySem.Str.ofString "cpy313.locale") (282 : Nat)) (@Option.none.{0} @Nat) (@PySem.Value.ref (44 : Nat)) @PySem.Value.none (0 : Nat))) (@List.toArray.{0} (@Option.{0} @PySem.Value) (@List.nil.{0} (@Option.{0} @PySem.Value)))))
  (@List.cons.{0} (Prod.{0, 0} Nat PySem.Obj) (@Prod.mk.{0, 0} Nat PySem.Obj (nat_lit 51) (@PySem.Obj.mk (@PySem.Value.type "code") (@Option.none.{0} @Nat) (@PySem.Data.fields (@List.toArray.{0} @PySem.Value (@List.cons.{0} @PySem.Value (@PySem.Value.str (@PySem.Str.ofString "add") (305 : Nat)) (@List.cons.{0} @PySem.Value (@PySem.Value.str (@PySem.Str.ofString "add") (306 : Nat)) (@List.cons.{0} @PySem.Value (@PySem.Value.str (@PySem.Str.ofString "/claim/cut.py") (307 : Nat)) (@List.cons.{0} @PySem.Value (@PySem.Value.int (19 : Int) (0 : Nat)) (@List.cons.{0} @PySem.Value (@PySem.Value.int (2 : Int) (0 : Nat)) (@List.cons.{0} @PySem.Value (@PySem.Value.int (0 : Int) (0 : Nat)) (@List.cons.{0} @PySem.Value (@PySem.Value.int (0 : Int) (0 : Nat)) (@List.cons.{0} @PySem.Value (@PySem.Value.int (3 : Int) (0 : Nat)) (@List.cons.{0} @PySem.Value (@PySem.Value.ref (46 : Nat)) (@List.cons.{0} @PySem.Value (@PySem.Value.bool @Bool.true) (@List.cons.{0} @PySem.Value (@PySem.Value.int (276 : Int) (0 : Nat)) (@List.cons.{0} @PySem.Value (@PySem.Value.ref (47 : Nat)) (@List.cons.{0} @PySem.Value @PySem.Value.none (@List.cons.{0} @PySem.Value (@PySem.Value.ref (48 : Nat)) (@List.cons.{0} @PySem.Value (@PySem.Value.ref (49 : Nat)) (@List.cons.{0} @PySem.Value (@PySem.Value.ref (50 : Nat)) (@List.cons.{0} @PySem.Value (@PySem.Value.int (310 : Int) (0 : Nat)) (@List.cons.{0} @PySem.Value (@PySem.Value.int (19 : Int) (0 : Nat)) (@List.cons.{0} @PySem.Value (@PySem.Value.str (@PySem.Str.ofString "/claim/cut.py") (311 : Nat)) (@List.nil.{0} @PySem.Value)))))))))))))))))))))) (@List.toArray.{0} (@Option.{0} @PySem.Value) (@List.nil.{0} (@Option.{0} @PySem.Value)))))
  (@List.cons.{0} (Prod.{0, 0} Nat PySem.Obj) (@Prod.mk.{0, 0} Nat PySem.Obj (nat_lit 52) (@PySem.Obj.mk (@PySem.Value.type "function") (@Option.none.{0} @Nat) (@PySem.Data.func (@PySem.FuncData.mk (@PySem.Str.ofString "add") (@PySem.Str.ofString "add") @ar2 (@PySem.FuncBody.stmts @bd2) @sc2 (3 : Nat) (@List.nil.{0} (@Prod.{0, 0} @PySem.Str @Nat)) @PySem.Value.none @PySem.Value.none @PySem.Value.none (@PySem.Value.str (@PySem.Str.ofString "cpy313.operator") (303 : Nat)) (@Option.none.{0} @Nat) (@PySem.Value.ref (51 : Nat)) @PySem.Value.none (0 : Nat))) (@List.toArray.{0} (@Option.{0} @PySem.Value) (@List.nil.{0} (@Option.{0} @PySem.Value)))))
  (@List.cons.{0} (Prod.{0, 0} Nat PySem.Obj) (@Prod.mk.{0, 0} Nat PySem.Obj (nat_lit 58) (@PySem.Obj.mk (@PySem.Value.type "code") (@Option.none.{0} @Nat) (@PySem.Data.fields (@List.toArray.{0} @PySem.Value (@List.cons.{0} @PySem.Value (@PySem.Value.str (@PySem.Str.ofString "mul") (313 : Nat)) (@List.cons.{0} @PySem.Value (@PySem.Value.str (@PySem.Str.ofString "mul") (314 : Nat)) (@List.cons.{0} @PySem.Value (@PySem.Value.str (@PySem.Str.ofString "/claim/cut.py") (315 : Nat)) (@List.cons.{0} @PySem.Value (@PySem.Value.int (21 : Int) (0 : Nat)) (@List.cons.{0} @PySem.Value (@PySem.Value.int (2 : Int) (0 : Nat)) (@List.cons.{0} @PySem.Value (@PySem.Value.int (0 : Int) (0 : Nat)) (@List.cons.{0} @PySem.Value (@PySem.Value.int (0 : Int) (0 : Nat)) (@List.cons.{0} @PySem.Value (@PySem.Value.int (3 : Int) (0 : Nat)) (@List.cons.{0} @PySem.Value (@PySem.Value.ref (53 : Nat)) (@List.cons.{0} @PySem.Value (@PySem.Value.bool @Bool.true) (@List.cons.{0} @PySem.Value (@PySem.Value.int (276 : Int) (0 : Nat)) (@List.cons.{0} @PySem.Value (@PySem.Value.ref (54 : Nat)) (@List.cons.{0} @PySem.Value @PySem.Value.none (@List.cons.{0} @PySem.Value (@PySem.Value.ref (55 : Nat)) (@List.cons.{0} @PySem.Value (@PySem.Value.ref (56 : Nat)) (@List.cons.{0} @PySem.Value (@PySem.Value.ref (57 : Nat)) (@List.cons.{0} @PySem.Value (@PySem.Value.int (318 : Int) (0 : Nat)) (@List.cons.{0} @PySem.Value (@PySem.Value.int (21 : Int) (0 : Nat)) (@List.cons.{0} @PySem.Value (@PySem.Value.str (@PySem.Str.ofString "/claim/cut.py") (319 : Nat)) (@List.nil.{0} @PySem.Value)))))))))))))))))))))) (@List.toArray.{0} (@Option.{0} @PySem.Value) (@List.nil.{0} (@Option.{0} @PySem.Value)))))
  (@List.cons.{0} (Prod.{0, 0} Nat PySem.Obj) (@Prod.mk.{0, 0} Nat PySem.Obj (nat_lit 59) (@PySem.Obj.mk (@PySem.Value.type "function") (@Option.none.{0} @Nat) (@PySem.Data.func (@PySem.FuncData.mk (@PySem.Str.ofString "mul") (@PySem.Str.ofString "mul") @ar3 (@PySem.FuncBody.stmts @bd3) @sc3 (3 : Nat) (@List.nil.{0} (@Prod.{0, 0} @PySem.Str @Nat)) @PySem.Value.none @PySem.Value.none @PySem.Value.none (@PySem.Value.str (@PySem.Str.ofString "cpy313.operator") (303 : Nat)) (@Option.none.{0} @Nat) (@PySem.Value.ref (58 : Nat)) @PySem.Value.none (0 : Nat))) (@List.toArray.{0} (@Option.{0} @PySem.Value) (@List.nil.{0} (@Option.{0} @PySem.Value)))))
  (@List.cons.{0} (Prod.{0, 0} Nat PySem.Obj) (@Prod.mk.{0, 0} Nat PySem.Obj (nat_lit 65) (@PySem.Obj.mk (@PySem.Value.type "code") (@Option.none.{0} @Nat) (@PySem.Data.fields (@List.toArray.{0} @PySem.Value (@List.cons.{0} @PySem.Value (@PySem.Value.str (@PySem.Str.ofString "sub") (321 : Nat)) (@List.cons.{0} @PySem.Value (@PySem.Value.str (@PySem.Str.ofString "sub") (322 : Nat)) (@List.cons.{0} @PySem.Value (@PySem.Value.str (@PySem.Str.ofString "/claim/cut.py") (323 : Nat)) (@List.cons.{0} @PySem.Value (@PySem.Value.int (23 : Int) (0 : Nat)) (@List.cons.{0} @PySem.Value (@PySem.Value.int (2 : Int) (0 : Nat)) (@List.cons.{0} @PySem.Value (@PySem.Value.int (0 : Int) (0 : Nat)) (@List.cons.{0} @PySem.Value (@PySem.Value.int (0 : Int) (0 : Nat)) (@List.cons.{0} @PySem.Value (@PySem.Value.int (3 : Int) (0 : Nat)) (@List.cons.{0} @PySem.Value (@PySem.Value.ref (60 : Nat)) (@List.cons.{0} @PySem.Value (@PySem.Value.bool @Bool.true) (@List.cons.{0} @PySem.Value (@PySem.Value.int (276 : Int) (0 : Nat)) (@List.cons.{0} @PySem.Value (@PySem.Value.ref (61 : Nat)) (@List.cons.{0} @PySem.Value @PySem.Value.none (@List.cons.{0} @PySem.Value (@PySem.Value.ref (62 : Nat)) (@List.cons.{0} @PySem.Value (@PySem.Value.ref (63 : Nat)) (@List.cons.{0} @PySem.Value (@PySem.Value.ref (64 : Nat)) (@List.cons.{0} @PySem.Value (@PySem.Value.int (326 : Int) (0 : Nat)) (@List.cons.{0} @PySem.Value (@PySem.Value.int (23 : Int) (0 : Nat)) (@List.cons.{0} @PySem.Value (@PySem.Value.str (@PySem.Str.ofString "/claim/cut.py") (327 : Nat)) (@List.nil.{0} @PySem.Value)))))))))))))))))))))) (@List.toArray.{0} (@Option.{0} @PySem.Value) (@List.nil.{0} (@Option.{0} @PySem.Value)))))
  (@List.cons.{0} (Prod.{0, 0} Nat PySem.Obj) (@Prod.mk.{0, 0} Nat PySem.Obj (nat_lit 66) (@PySem.Obj.mk (@PySem.Value.type "function") (@Option.none.{0} @Nat) (@PySem.Data.func (@PySem.FuncData.mk (@PySem.Str.ofString "sub") (@PySem.Str.ofString "sub") @ar4 (@PySem.FuncBody.stmts @bd4) @sc4 (3 : Nat) (@List.nil.{0} (@Prod.{0, 0} @PySem.Str @Nat)) @PySem.Value.none @PySem.Value.none @PySem.Value.none (@PySem.Value.str (@PySem.Str.ofString "cpy313.operator") (303 : Nat)) (@Option.none.{0} @Nat) (@PySem.Value.ref (65 : Nat)) @PySem.Value.none (0 : Nat))) (@List.toArray.{0} (@Option.{0} @PySem.Value) (@List.nil.{0} (@Option.{0} @PySem.Value)))))
  (@List.cons.{0} (Prod.{0, 0} Nat PySem.Obj) (@Prod.mk.{0, 0} Nat PySem.Obj (nat_lit 72) (@PySem.Obj.mk (@PySem.Value.type "code") (@Option.none.{0} @Nat) (@PySem.Data.fields (@List.toArray.{0} @PySem.Value (@List.cons.{0} @PySem.Value (@PySem.Value.str (@PySem.Str.ofString "countOf") (329 : Nat)) (@List.cons.{0} @PySem.Value (@PySem.Value.str (@PySem.Str.ofString "countOf") (330 : Nat)) (@List.cons.{0} @PySem.Value (@PySem.Value.str (@PySem.Str.ofString "/claim/cut.py") (331 : Nat)) (@List.cons.{0} @PySem.Value (@PySem.Value.int (25 : Int) (0 : Nat)) (@List.cons.{0} @PySem.Value (@PySem.Value.int (2 : Int) (0 : Nat)) (@List.cons.{0} @PySem.Value (@PySem.Value.int (0 : Int) (0 : Nat)) (@List.cons.{0} @PySem.Value (@PySem.Value.int (0 : Int) (0 : Nat)) (@List.cons.{0} @PySem.Value (@PySem.Value.int (3 : Int) (0 : Nat)) (@List.cons.{0} @PySem.Value (@PySem.Value.ref (67 : Nat)) (@List.cons.{0} @PySem.Value (@PySem.Value.bool @Bool.true) (@List.cons.{0} @PySem.Value (@PySem.Value.int (276 : Int) (0 : Nat)) (@List.cons.{0} @PySem.Value (@PySem.Value.ref (68 : Nat)) (@List.cons.{0} @PySem.Value @PySem.Value.none (@List.cons.{0} @PySem.Value (@PySem.Value.ref (69 : Nat)) (@List.cons.{0} @PySem.Value (@PySem.Value.ref (70 : Nat)) (@List.cons.{0} @PySem.Value (@PySem.Value.ref (71 : Nat)) (@List.cons.{0} @PySem.Value (@PySem.Value.int (336 : Int) (0 : Nat)) (@List.cons.{0} @PySem.Value (@PySem.Value.int (25 : Int) (0 : Nat)) (@List.cons.{0} @PySem.Value (@PySem.Value.str (@PySem.Str.ofString "/claim/cut.py") (337 : Nat)) (@List.nil.{0} @PySem.Value)))))))))))))))))))))) (@List.toArray.{0} (@Option.{0} @PySem.Value) (@List.nil.{0} (@Option.{0} @PySem.Value)))))
  (@List.cons.{0} (Prod.{0, 0} Nat PySem.Obj) (@Prod.mk.{0, 0} Nat PySem.Obj (nat_lit 73) (@PySem.Obj.mk (@PySem.Value.type "function") (@Option.none.{0} @Nat) (@PySem.Data.func (@PySem.FuncData.mk (@PySem.Str.ofString "countOf") (@PySem.Str.ofString "countOf") @ar5 (@PySem.FuncBody.stmts @bd5) @sc5 (3 : Nat) (@List.nil.{0} (@Prod.{0, 0} @PySem.Str @Nat)) @PySem.Value.none @PySem.Value.none @PySem.Value.none (@PySem.Value.str (@PySem.Str.ofString "cpy313.operator") (303 : Nat)) (@Option.none.{0} @Nat) (@PySem.Value.ref (72 : Nat)) @PySem.Value.none (0 : Nat))) (@List.toArray.{0} (@Option.{0} @PySem.Value) (@List.nil.{0} (@Option.{0} @PySem.Value)))))
  (@List.cons.{0} (Prod.{0, 0} Nat PySem.Obj) (@Prod.mk.{0, 0} Nat PySem.Obj (nat_lit 77) (@PySem.Obj.mk (@PySem.Value.type "tuple") (@Option.none.{0} @Nat) (@PySem.Data.seq (@List.toArray.{0} @PySem.Value (@List.cons.{0} @PySem.Value (@PySem.Value.int (14 : Int) (0 : Nat)) (@List.cons.{0} @PySem.Value (@PySem.Value.int (4 : Int) (0 : Nat)) (@List.cons.{0} @PySem.Value (@PySem.Value.int (0 : Int) (0 : Nat)) (@List.cons.{0} @PySem.Value (@PySem.Value.int (1 : Int) (0 : Nat)) (@List.cons.{0} @PySem.Value (@PySem.Value.int (1 : Int) (0 : Nat)) (@List.cons.{0} @PySem.Value (@PySem.Value.int (6 : Int) (0 : Nat)) (@List.cons.{0} @PySem.Value (@PySem.Value.int (1 : Int) (0 : Nat)) (@List.cons.{0} @PySem.Value (@PySem.Value.int (16 : Int) (0 : Nat)) (@List.cons.{0} @PySem.Value (@PySem.Value.int (46 : Int) (0 : Nat)) (@List.cons.{0} @PySem.Value (@PySem.Value.int (1 : Int) (0 : Nat)) (@List.nil.{0} @PySem.Value)))))))))))) (0 : Nat)) (@List.toArray.{0} (@Option.{0} @PySem.Value) (@List.nil.{0} (@Option.{0} @PySem.Value)))))
  (@List.cons.{0} (Prod.{0, 0} Nat PySem.Obj) (@Prod.mk.{0, 0} Nat PySem.Obj (nat_lit 78) (@PySem.Obj.mk (@PySem.Value.type "re.Pattern") (@Option.none.{0} @Nat) (@PySem.Data.fields (@List.toArray.{0} @PySem.Value (@List.cons.{0} @PySem.Value (@PySem.Value.str (@PySem.Str.ofString "(?m)^\\.") (342 : Nat)) (@List.cons.{0} @PySem.Value (@PySem.Value.int (40 : Int) (355 : Nat)) (@List.cons.{0} @PySem.Value (@PySem.Value.int (0 : Int) (0 : Nat)) (@List.cons.{0} @PySem.Value @PySem.Value.none (@List.cons.{0} @PySem.Value @PySem.Value.none (@List.cons.{0} @PySem.Value (@PySem.Value.ref (77 : Nat)) (@List.cons.{0} @PySem.Value (@PySem.Value.int (0 : Int) (0 : Nat)) (@List.nil.{0} @PySem.Value)))))))))) (@List.toArray.{0} (@Option.{0} @PySem.Value) (@List.nil.{0} (@Option.{0} @PySem.Value)))))
  (@List.cons.{0} (Prod.{0, 0} Nat PySem.Obj) (@Prod.mk.{0, 0} Nat PySem.Obj (nat_lit 82) (@PySem.Obj.mk (@PySem.Value.type "tuple") (@Option.none.{0} @Nat) (@PySem.Data.seq (@List.toArray.{0} @PySem.Value (@List.cons.{0} @PySem.Value (@PySem.Value.int (14 : Int) (0 : Nat)) (@List.cons.{0} @PySem.Value (@PySem.Value.int (9 : Int) (0 : Nat)) (@List.cons.{0} @PySem.Value (@PySem.Value.int (4 : Int) (0 : Nat)) (@List.cons.{0} @PySem.Value (@PySem.Value.int (1 : Int) (0 : Nat)) (@List.cons.{0} @PySem.Value (@PySem.Value.int (2 : Int) (0 : Nat)) (@List.cons.{0} @PySem.Value (@PySem.Value.int (16 : Int) (0 : Nat)) (@List.cons.{0} @PySem.Value (@PySem.Value.int (10 : Int) (0 : Nat)) (@List.cons.{0} @PySem.Value (@PySem.Value.int (16 : Int) (0 : Nat)) (@List.cons.{0} @PySem.Value (@PySem.Value.int (13 : Int) (0 : Nat)) (@List.cons.{0} @PySem.Value (@PySem.Value.int (0 : Int) (0 : Nat)) (@List.cons.{0} @PySem.Value (@PySem.Value.int (7 : Int) (0 : Nat)) (@List.cons.{0} @PySem.Value (@PySem.Value.int (7 : Int) (0 : Nat)) (@List.cons.{0} @PySem.Value (@PySem.Value.int (16 : Int) (0 : Nat)) (@List.cons.{0} @PySem.Value (@PySem.Value.int (13 : Int) (0 : Nat)) (@List.cons.{0} @PySem.Value (@PySem.Value.int (16 : Int) (0 : Nat)) (@List.cons.{0} @PySem.Value (@PySem.Value.int (10 : Int) (0 : Nat)) (@List.cons.{0} @PySem.Value (@PySem.Value.int (15 : Int) (0 : Nat)) (@List.cons.{0} @PySem.Value (@PySem.Value.int (18 : Int) (0 : Nat)) (@List.cons.{0} @PySem.Value (@PySem.Value.int (5 : Int) (0 : Nat)) (@List.cons.{0} @PySem.Value (@PySem.Value.int (16 : Int) (0 : Nat)) (@List.cons.{0} @PySem.Value (@PySem.Value.int (10 : Int) (0 : Nat)) (@List.cons.{0} @PySem.Value (@PySem.Value.int (15 : Int) (0 : Nat)) (@List.cons.{0} @PySem.Value (@PySem.Value.int (13 : Int) (0 : Nat)) (@List.cons.{0} @PySem.Value (@PySem.Value.int (11 : Int) (0 : Nat)) (@List.cons.{0} @PySem.Value (@PySem.Value.int (16 : Int) (0 : Nat)) (@List.cons.{0} @PySem.Value (@PySem.Value.int (13 : Int) (0 : Nat)) (@List.cons.{0} @PySem.Value (@PySem.Value.int (5 : Int) (0 : Nat)) (@List.cons.{0} @PySem.Value (@PySem.Value.int (5 : Int) (0 : Nat)) (@List.cons.{0} @PySem.Value (@PySem.Value.int (0 : Int) (0 : Nat)) (@List.cons.{0} @PySem.Value (@PySem.Value.int (16 : Int) (0 : Nat)) (@List.cons.{0} @PySem.Value (@PySem.Value.int (10 : Int) (0 : Nat)) (@List.cons.{0} @PySem.Value (@PySem.Value.int (1 : Int) (0 : Nat)) (@List.cons.{0} @PySem.Value (@PySem.Value.int (15 : Int) (0 : Nat)) (@List.cons.{0} @PySem.Value (@PySem.Value.int (2 : Int) (0 : Nat)) (@List.cons.{0} @PySem.Value (@PySem.Value.int (0 : Int) (0 : Nat)) (@List.cons.{0} @PySem.Value (@PySem.Value.int (1 : Int) (0 : Nat)) (@List.nil.{0} @PySem.Value)))))))))))))))))))))))))))))))))))))) (0 : Nat)) (@List.toArray.{0} (@Option.{0} @PySem.Value) (@List.nil.{0} (@Option.{0} @PySem.Value)))))
  (@List.cons.{0} (Prod.{0, 0} Nat PySem.Obj) (@Prod.mk.{0, 0} Nat PySem.Obj (nat_lit 83) (@PySem.Obj.mk (@PySem.Value.type "re.Pattern") (@Option.none.{0} @Nat) (@PySem.Data.fields (@List.toArray.{0} @PySem.Value (@List.cons.{0} @PySem.Value (@PySem.Value.str (@PySem.Str.ofString "(?:\\r\\n|\\n|\\r(?!\\n))") (358 : Nat)) (@List.cons.{0} @PySem.Value (@PySem.Value.int (32 : Int) (397 : Nat)) (@List.cons.{0} @PySem.Value (@PySem.Value.int (0 : Int) (0 : Nat)) (@List.cons.{0} @PySem.Value @PySem.Value.none (@List.cons.{0} @PySem.Value @PySem.Value.none (@List.cons.{0} @PySem.Value (@PySem.Value.ref (82 : Nat)) (@List.cons.{0} @PySem.Value (@PySem.Value.int (0 : Int) (0 : Nat)) (@List.nil.{0} @PySem.Value)))))))))) (@List.toArray.{0} (@Option.{0} @PySem.Value) (@List.nil.{0} (@Option.{0} @PySem.Value)))))
  (@List.cons.{0} (Prod.{0, 0} Nat PySem.Obj) (@Prod.mk.{0, 0} Nat PySem.Obj (nat_lit 89) (@PySem.Obj.mk (@PySem.Value.type "code") (@Option.none.{0} @Nat) (@PySem.Data.fields (@List.toArray.{0} @PySem.Value (@List.cons.{0} @PySem.Value (@PySem.Value.str (@PySem.Str.ofString "quotedata") (401 : Nat)) (@List.cons.{0} @PySem.Value (@PySem.Value.str (@PySem.Str.ofString "quotedata") (402 : Nat)) (@List.cons.{0} @PySem.Value (@PySem.Value.str (@PySem.Str.ofString "/claim/cut.py") (403 : Nat)) (@List.cons.{0} @PySem.Value (@PySem.Value.int (35 : Int) (0 : Nat)) (@List.cons.{0} @PySem.Value (@PySem.Value.int (1 : Int) (0 : Nat)) (@List.cons.{0} @PySem.Value (@PySem.Value.int (0 : Int) (0 : Nat)) (@List.cons.{0} @PySem.Value (@PySem.Value.int (0 : Int) (0 : Nat)) (@List.cons.{0} @PySem.Value (@PySem.Value.int (3 : Int) (0 : Nat)) (@List.cons.{0} @PySem.Value (@PySem.Value.ref (84 : Nat)) (@List.cons.{0} @PySem.Value (@PySem.Value.bool @Bool.true) (@List.cons.{0} @PySem.Value (@PySem.Value.int (276 : Int) (0 : Nat)) (@List.cons.{0} @PySem.Value (@PySem.Value.ref (85 : Nat)) (@List.cons.{0} @PySem.Value @PySem.Value.none (@List.cons.{0} @PySem.Value (@PySem.Value.ref (86 : Nat)) (@List.cons.{0} @PySem.Value (@PySem.Value.ref (87 : Nat)) (@List.cons.{0} @PySem.Value (@PySem.Value.ref (88 : Nat)) (@List.cons.{0} @PySem.Value (@PySem.Value.int (405 : Int) (0 : Nat)) (@List.cons.{0} @PySem.Value (@PySem.Value.int (35 : Int) (0 : Nat)) (@List.cons.{0} @PySem.Value (@PySem.Value.str (@PySem.Str.ofString "/claim/cut.py") (406 : Nat)) (@List.nil.{0} @PySem.Value)))))))))))))))))))))) (@List.toArray.{0} (@Option.{0} @PySem.Value) (@List.nil.{0} (@Option.{0} @PySem.Value)))))
  (@List.cons.{0} (Prod.{0, 0} Nat PySem.Obj) (@Prod.mk.{0, 0} Nat PySem.Obj (nat_lit 90) (@PySem.Obj.mk (@PySem.Value.type "function") (@Option.none.{0} @Nat) (@PySem.Data.func (@PySem.FuncData.mk (@PySem.Str.ofString "quotedata") (@PySem.Str.ofString "quotedata") @ar6 (@PySem.FuncBody.stmts @bd6) @sc6 (3 : Nat) (@List.nil.{0} (@Prod.{0, 0} @PySem.Str @Nat)) @PySem.Value.none @PySem.Value.none @PySem.Value.none (@PySem.Value.str (@PySem.Str.ofString "cpy313.smtplib") (339 : Nat)) (@Option.none.{0} @Nat) (@PySem.Value.ref (89 : Nat)) @PySem.Value.none (0 : Nat))) (@List.toArray.{0} (@Option.{0} @PySem.Value) (@List.nil.{0} (@Option.{0} @PySem.Value)))))
  (@List.cons.{0} (Prod.{0, 0} Nat PySem.Obj) (@Prod.mk.{0, 0} Nat PySem.Obj (nat_lit 91) (@PySem.Obj.mk (@PySem.Value.type "dict") (@Option.none.{0} @Nat) (@PySem.Data.dict (@List.toArray.{0} @PySem.DictEntry (@List.cons.{0} @PySem.DictEntry (@PySem.DictEntry.mk (@PySem.PyData.keyHash @P (@PySem.Str.ofString "!")) (@PySem.Value.str (@PySem.Str.ofString "!") (504 : Nat)) (@PySem.Value.int (54 : Int) (502 : Nat))) (@List.cons.{0} @PySem.DictEntry (@PySem.DictEntry.mk (@PySem.PyData.keyHash @P (@PySem.Str.ofString "!=")) (@PySem.Value.str (@PySem.Str.ofString "!=") (506 : Nat)) (@PySem.Value.int (28 : Int) (450 : Nat))) (@List.cons.{0} @PySem.DictEntry (@PySem.DictEntry.mk (@PySem.PyData.keyHash @P (@PySem.Str.ofString "%")) (@PySem.Value.str (@PySem.Str.ofString "%") (508 : Nat)) (@PySem.Value.int (24 : Int) (442 : Nat))) (@List.cons.{0} @PySem.DictEntry (@PySem.DictEntry.mk (@PySem.PyData.keyHash @P (@PySem.Str.ofString "%=")) (@PySem.Value.str (@PySem.Str.ofString "%=") (510 : Nat)) (@PySem.Value.int (40 : Int) (474 : Nat))) (@List.cons.{0} @PySem.DictEntry (@PySem.DictEntry.mk (@PySem.PyData.keyHash @P (@PySem.Str.ofString "&")) (@PySem.Value.str (@PySem.Str.ofString "&") (512 : Nat)) (@PySem.Value.int (19 : Int) (432 : Nat))) (@List.cons.{0} @PySem.DictEntry (@PySem.DictEntry.mk (@PySem.PyData.keyHash @P (@PySem.Str.ofString "&=")) (@PySem.Value.str (@PySem.Str.ofString "&=") (514 : Nat)) (@PySem.Value.int (41 : Int) (476 : Nat))) (@List.cons.{0} @PySem.DictEntry (@PySem.DictEntry.mk (@PySem.PyData.keyHash @P (@PySem.Str.ofString "(")) (@PySem.Value.str (@PySem.Str.ofString "(") (516 : Nat)) (@PySem.Value.int (7 : Int) (408 : Nat))) (@List.cons.{0} @PySem.DictEntry (@PySem.DictEntry.mk (@PySem.PyData.keyHash @P (@PySem.Str.ofString ")")) (@PySem.Value.str (@PySem.Str.ofString ")") (518 : Nat)) (@PySem.Value.int (8 : Int) (410 : Nat))) (@List.cons.{0} @PySem.DictEntry (@PySem.DictEntry.mk (@PySem.PyData.keyHash @P (@PySem.Str.ofString "*")) (@PySem.Value.str (@PySem.Str.ofString "*") (520 : Nat)) (@PySem.Value.int (16 : Int) (426 : Nat))) (@List.cons.{0} @PySem.DictEntry (@PySem.DictEntry.mk (@PySem.PyData.keyHash @P (@PySem.Str.ofString "**")) (@PySem.Value.str (@PySem.Str.ofString "**") (522 : Nat)) (@PySem.Value.int (35 : Int) (464 : Nat))) (@List.cons.{0} @PySem.DictEntry (@PySem.DictEntry.mk (@PySem.PyData.keyHash @P (@PySem.Str.ofString "**=")) (@PySem.Value.str (@PySem.Str.ofString "**=") (524 : Nat)) (@PySem.Value.int (46 : Int) (486 : Nat))) (@List.cons.{0} @PySem.DictEntry (@PySem.DictEntry.mk (@PySem.PyData.keyHash @P (@PySem.Str.ofString "*=")) (@PySem.Value.str (@PySem.Str.ofString "*=") (526 : Nat)) (@PySem.Value.int (38 : Int) (470 : Nat))) (@List.cons.{0} @PySem.DictEntry (@PySem.DictEntry.mk (@PySem.PyData.keyHash @P (@PySem.Str.ofString "+")) (@PySem.Value.str (@PySem.Str.ofString "+") (528 : Nat)) (@PySem.Value.int (14 : Int) (422 : Nat))) (@List.cons.{0} @PySem.DictEntry (@PySem.DictEntry.mk (@PySem.PyData.keyHash @P (@PySem.Str.ofString "+=")) (@PySem.Value.str (@PySem.Str.ofString "+=") (530 : Nat)) (@PySem.Value.int (36 : Int) (466 : Nat))) (@List.cons.{0} @PySem.DictEntry (@PySem.DictEntry.mk (@PySem.PyData.keyHash @P (@PySem.Str.ofString ",")) (@PySem.Value.str (@PySem.Str.ofString ",") (532 : Nat)) (@PySem.Value.int (12 : Int) (418 : Nat))) (@List.cons.{0} @PySem.DictEntry (@PySem.DictEntry.mk (@PySem.PyData.keyHash @P (@PySem.Str.ofString "-")) (@PySem.Value.str (@PySem.Str.ofString "-") (534 : Nat)) (@PySem.Value.int (15 : Int) (424 : Nat))) (@List.cons.{0} @PySem.DictEntry (@PySem.DictEntry.mk (@PySem.PyData.keyHash @P (@PySem.Str.ofString "-=")) (@PySem.Value.str (@PySem.Str.ofString "-=") (536 : Nat)) (@PySem.Value.int (37 : Int) (468 : Nat))) (@List.cons.{0} @PySem.DictEntry (@PySem.DictEntry.mk (@PySem.PyData.keyHash @P (@PySem.Str.ofString "->")) (@PySem.Value.str (@PySem.Str.ofString "->") (538 : Nat)) (@PySem.Value.int (51 : Int) (496 : Nat))) (@List.cons.{0} @PySem.DictEntry (@PySem.DictEntry.mk (@PySem.PyData.keyHash @P (@PySem.Str.ofString ".")) (@PySem.Value.str (@PySem.Str.ofString ".") (540 : Nat)) (@PySem.Value.int (23 : Int) (440 : Nat))) (@List.cons.{0} @PySem.DictEntry (@PySem.DictEntry.mk (@PySem.PyData.keyHash @P (@PySem.Str.ofString "...")) (@PySem.Value.str (@PySem.Str.ofString "...") (542 : Nat)) (@PySem.Value.int (52 : Int) (498 : Nat))) (@List.cons.{0} @PySem.DictEntry (@PySem.DictEntry.mk (@PySem.PyData.keyHash @P (@PySem.Str.ofString "/")) (@PySem.Value.str (@PySem.Str.ofString "/") (544 : Nat)) (@PySem.Value.int (17 : Int) (428 : Nat))) (@List.cons.{0} @PySem.DictEntry (@PySem.DictEntry.mk (@PySem.PyData.keyHash @P (@PySem.Str.ofString "//")) (@PySem.Value.str (@PySem.Str.ofString "//") (546 : Nat)) (@PySem.Value.int (47 : Int) (488 : Nat))) (@List.cons.{0} @PySem.DictEntry (@PySem.DictEntry.mk (@PySem.PyData.keyHash @P (@PySem.Str.ofString "//=")) (@PySem.Value.str (@PySem.Str.ofString "//=") (548 : Nat)) (@PySem.Value.int (48 : Int) (490 : Nat))) (@List.cons.{0} @PySem.DictEntry (@PySem.DictEntry.mk (@PySem.PyData.keyHash @P (@PySem.Str.ofString "/=")) (@PySem.Value.str (@PySem.Str.ofString "/=") (550 : Nat)) (@PySem.Value.int (39 : Int) (472 : Nat))) (@List.cons.{0} @PySem.DictEntry (@PySem.DictEntry.mk (@PySem.PyData.keyHash @P (@PySem.Str.ofString ":")) (@PySem.Value.str (@PySem.Str.ofString ":") (552 : Nat)) (@PySem.Value.int (11 : Int) (416 : Nat))) (@List.cons.{0} @PySem.DictEntry (@PySem.DictEntry.mk (@PySem.PyData.keyHash @P (@PySem.Str.ofString ":=")) (@PySem.Value.str (@PySem.Str.ofString ":=") (554 : Nat)) (@PySem.Value.int (53 : Int) (500 : Nat))) (@List.cons.{0} @PySem.DictEntry (@PySem.DictEntry.mk (@PySem.PyData.keyHash @P (@PySem.Str.ofString ";")) (@PySem.Value.str (@PySem.Str.ofString ";") (556 : Nat)) (@PySem.Value.int (13 : Int) (420 : Nat))) (@List.cons.{0} @PySem.DictEntry (@PySem.DictEntry.mk (@PySem.PyData.keyHash @P (@PySem.Str.ofString "<")) (@PySem.Value.str (@PySem.Str.ofString "<") (558 : Nat)) (@PySem.Value.int (20 : Int) (434 : Nat))) (@List.cons.{0} @PySem.DictEntry (@PySem.DictEntry.mk (@PySem.PyData.keyHash @P (@PySem.Str.ofString "<<")) (@PySem.Value.str (@PySem.Str.ofString "<<") (560 : Nat)) (@PySem.Value.int (33 : Int) (460 : Nat))) (@List.cons.{0} @PySem.DictEntry (@PySem.DictEntry.mk (@PySem.PyData.keyHash @P (@PySem.Str.ofString "<<=")) (@PySem.Value.str (@PySem.Str.ofString "<<=") (562 : Nat)) (@PySem.Value.int (44 : Int) (482 : Nat))) (@List.cons.{0} @PySem.DictEntry (@PySem.DictEntry.mk (@PySem.PyData.keyHash @P (@PySem.Str.ofString "<=")) (@PySem.Value.str (@PySem.Str.ofString "<=") (564 : Nat)) (@PySem.Value.int (29 : Int) (452 : Nat))) (@List.cons.{0} @PySem.DictEntry (@PySem.DictEntry.mk (@PySem.PyData.keyHash @P (@PySem.Str.ofString "=")) (@PySem.Value.str (@PySem.Str.ofString "=") (566 : Nat)) (@PySem.Value.int (22 : Int) (438 : Nat))) (@List.cons.{0} @PySem.DictEntry (@PySem.DictEntry.mk (@PySem.PyData.keyHash @P (@PySem.Str.ofString "==")) (@PySem.Value.str (@PySem.Str.ofString "==") (568 : Nat)) (@PySem.Value.int (27 : Int) (448 : Nat))) (@List.cons.{0} @PySem.DictEntry (@PySem.DictEntry.mk (@PySem.PyData.keyHash @P (@PySem.Str.ofString ">")) (@PySem.Value.str (@PySem.Str.ofString ">") (570 : Nat)) (@PySem.Value.int (21 : Int) (436 : Nat))) (@List.cons.{0} @PySem.DictEntry (@PySem.DictEntry.mk (@PySem.PyData.keyHash @P (@PySem.Str.ofString ">=")) (@PySem.Value.str (@PySem.Str.ofString ">=") (572 : Nat)) (@PySem.Value.int (30 : Int) (454 : Nat))) (@List.cons.{0} @PySem.DictEntry (@PySem.DictEntry.mk (@PySem.PyData.keyHash @P (@PySem.Str.ofString ">>")) (@PySem.Value.str (@PySem.Str.ofString ">>") (573 : Nat)) (@PySem.Value.int (34 : Int) (462 : Nat))) (@List.cons.{0} @PySem.DictEntry (@PySem.DictEntry.mk (@PySem.PyData.keyHash @P (@PySem.Str.ofString ">>=")) (@PySem.Value.str (@PySem.Str.ofString ">>=") (574 : Nat)) (@PySem.Value.int (45 : Int) (484 : Nat))) (@List.cons.{0} @PySem.DictEntry (@PySem.DictEntry.mk (@PySem.PyData.keyHash @P (@PySem.Str.ofString "@")) (@PySem.Value.str (@PySem.Str.ofString "@") (575 : Nat)) (@PySem.Value.int (49 : Int) (492 : Nat))) (@List.cons.{0} @PySem.DictEntry (@PySem.DictEntry.mk (@PySem.PyData.keyHash @P (@PySem.Str.ofString "@=")) (@PySem.Value.str (@PySem.Str.ofString "@=") (576 : Nat)) (@PySem.Value.int (50 : Int) (494 : Nat))) (@List.cons.{0} @PySem.DictEntry (@PySem.DictEntry.mk (@PySem.PyData.keyHash @P (@PySem.Str.ofString "[")) (@PySem.Value.str (@PySem.Str.ofString "[") (577 : Nat)) (@PySem.Value.int (9 : Int) (412 : Nat))) (@List.cons.{0} @PySem.DictEntry (@PySem.DictEntry.mk (@PySem.PyData.keyHash @P (@PySem.Str.ofString "]")) (@PySem.Value.str (@PySem.Str.ofString "]") (578 : Nat)) (@PySem.Value.int (10 : Int) (414 : Nat))) (@List.cons.{0} @PySem.DictEntry (@PySem.DictEntry.mk (@PySem.PyData.keyHash @P (@PySem.Str.ofString "^")) (@PySem.Value.str (@PySem.Str.ofString "^") (579 : Nat)) (@PySem.Value.int (32 : Int) (458 : Nat))) (@List.cons.{0} @PySem.DictEntry (@PySem.DictEntry.mk (@PySem.PyData.keyHash @P (@PySem.Str.ofString "^=")) (@PySem.Value.str (@PySem.Str.ofString "^=") (580 : Nat)) (@PySem.Value.int (43 : Int) (480 : Nat))) (@List.cons.{0} @PySem.DictEntry (@PySem.DictEntry.mk (@PySem.PyData.keyHash @P (@PySem.Str.ofString "{")) (@PySem.Value.str (@PySem.Str.ofString "{") (581 : Nat)) (@PySem.Value.int (25 : Int) (444 : Nat))) (@List.cons.{0} @PySem.DictEntry (@PySem.DictEntry.mk (@PySem.PyData.keyHash @P (@PySem.Str.ofString "|")) (@PySem.Value.str (@PySem.Str.ofString "|") (582 : Nat)) (@PySem.Value.int (18 : Int) (430 : Nat))) (@List.cons.{0} @PySem.DictEntry (@PySem.DictEntry.mk (@PySem.PyData.keyHash @P (@PySem.Str.ofString "|=")) (@PySem.Value.str (@PySem.Str.ofString "|=") (583 : Nat)) (@PySem.Value.int (42 : Int) (478 : Nat))) (@List.cons.{0} @PySem.DictEntry (@PySem.DictEntry.mk (@PySem.PyData.keyHash @P (@PySem.Str.ofString "}")) (@PySem.Value.str (@PySem.Str.ofString "}") (584 : Nat)) (@PySem.Value.int (26 : Int) (446 : Nat))) (@List.cons.{0} @PySem.DictEntry (@PySem.DictEntry.mk (@PySem.PyData.keyHash @P (@PySem.Str.ofString "~")) (@PySem.Value.str (@PySem.Str.ofString "~") (585 : Nat)) (@PySem.Value.int (31 : Int) (456 : Nat))) (@List.nil.{0} @PySem.DictEntry)))))))))))))))))))))))))))))))))))))))))))))))))) (48 : Nat)) (@List.toArray.{0} (@Option.{0} @PySem.Value) (@List.nil.{0} (@Option.{0} @PySem.Value)))))
  (@List.cons.{0} (Prod.{0, 0} Nat PySem.Obj) (@Prod.mk.{0, 0} Nat PySem.Obj (nat_lit 97) (@PySem.Obj.mk (@PySem.Value.type "code") (@Option.none.{0} @Nat) (@PySem.Data.fields (@List.toArray.{0} @PySem.Value (@List.cons.{0} @PySem.Value (@PySem.Value.str (@PySem.Str.ofString "_law_numbers") (603 : Nat)) (@List.cons.{0} @PySem.Value (@PySem.Value.str (@PySem.Str.ofString "_law_numbers") (604 : Nat)) (@List.cons.{0} @PySem.Value (@PySem.Value.str (@PySem.Str.ofString "/claim/cut.py") (605 : Nat)) (@List.cons.{0} @PySem.Value (@PySem.Value.int (87 : Int) (0 : Nat)) (@List.cons.{0} @PySem.Value (@PySem.Value.int (1 : Int) (0 : Nat)) (@List.cons.{0} @PySem.Value (@PySem.Value.int (0 : Int) (0 : Nat)) (@List.cons.{0} @PySem.Value (@PySem.Value.int (0 : Int) (0 : Nat)) (@List.cons.{0} @PySem.Value (@PySem.Value.int (3 : Int) (0 : Nat)) (@List.cons.{0} @PySem.Value (@PySem.Value.ref (94 : Nat)) (@List.cons.{0} @PySem.Value (@PySem.Value.bool @Bool.true) (@List.cons.{0} @PySem.Value (@PySem.Value.int (276 : Int) (0 : Nat)) (@List.cons.{0} @PySem.Value (@PySem.Value.ref (95 : Nat)) (@List.cons.{0} @PySem.Value @PySem.Value.none (@List.cons.{0} @PySem.Value @PySem.Value.none (@List.cons.{0} @PySem.Value @PySem.Value.none (@List.cons.{0} @PySem.Value (@PySem.Value.ref (96 : Nat)) (@List.cons.{0} @PySem.Value (@PySem.Value.int (606 : Int) (0 : Nat)) (@List.cons.{0} @PySem.Value (@PySem.Value.int (87 : Int) (0 : Nat)) (@List.cons.{0} @PySem.Value (@PySem.Value.str (@PySem.Str.ofString "/claim/cut.py") (607 : Nat)) (@List.nil.{0} @PySem.Value)))))))))))))))))))))) (@List.toArray.{0} (@Option.{0} @PySem.Value) (@List.nil.{0} (@Option.{0} @PySem.Value)))))
  (@List.cons.{0} (Prod.{0, 0} Nat PySem.Obj) (@Prod.mk.{0, 0} Nat PySem.Obj (nat_lit 98) (@PySem.Obj.mk (@PySem.Value.type "function") (@Option.none.{0} @Nat) (@PySem.Data.func (@PySem.FuncData.mk (@PySem.Str.ofString "_law_numbers") (@PySem.Str.ofString "_law_numbers") @ar7 (@PySem.FuncBody.stmts @bd7) @sc7 (3 : Nat) (@List.nil.{0} (@Prod.{0, 0} @PySem.Str @Nat)) @PySem.Value.none @PySem.Value.none @PySem.Value.none (@PySem.Value.str (@PySem.Str.ofString "law_to0015_01") (601 : Nat)) (@Option.none.{0} @Nat) (@PySem.Value.ref (97 : Nat)) @PySem.Value.none (0 : Nat))) (@List.toArray.{0} (@Option.{0} @PySem.Value) (@List.nil.{0} (@Option.{0} @PySem.Value)))))
  (@List.cons.{0} (Prod.{0, 0} Nat PySem.Obj) (@Prod.mk.{0, 0} Nat PySem.Obj (nat_lit 102) (@PySem.Obj.mk (@PySem.Value.type "code") (@Option.none.{0} @Nat) (@PySem.Data.fields (@List.toArray.{0} @PySem.Value (@List.cons.{0} @PySem.Value (@PySem.Value.str (@PySem.Str.ofString "_law_sizes") (609 : Nat)) (@List.cons.{0} @PySem.Value (@PySem.Value.str (@PySem.Str.ofString "_law_sizes") (610 : Nat)) (@List.cons.{0} @PySem.Value (@PySem.Value.str (@PySem.Str.ofString "/claim/cut.py") (611 : Nat)) (@List.cons.{0} @PySem.Value (@PySem.Value.int (90 : Int) (0 : Nat)) (@List.cons.{0} @PySem.Value (@PySem.Value.int (1 : Int) (0 : Nat)) (@List.cons.{0} @PySem.Value (@PySem.Value.int (0 : Int) (0 : Nat)) (@List.cons.{0} @PySem.Value (@PySem.Value.int (0 : Int) (0 : Nat)) (@List.cons.{0} @PySem.Value (@PySem.Value.int (3 : Int) (0 : Nat)) (@List.cons.{0} @PySem.Value (@PySem.Value.ref (99 : Nat)) (@List.cons.{0} @PySem.Value (@PySem.Value.bool @Bool.true) (@List.cons.{0} @PySem.Value (@PySem.Value.int (276 : Int) (0 : Nat)) (@List.cons.{0} @PySem.Value (@PySem.Value.ref (100 : Nat)) (@List.cons.{0} @PySem.Value @PySem.Value.none (@List.cons.{0} @PySem.Value @PySem.Value.none (@List.cons.{0} @PySem.Value @PySem.Value.none (@List.cons.{0} @PySem.Value (@PySem.Value.ref (101 : Nat)) (@List.cons.{0} @PySem.Value (@PySem.Value.int (612 : Int) (0 : Nat)) (@List.cons.{0} @PySem.Value (@PySem.Value.int (90 : Int) (0 : Nat)) (@List.cons.{0} @PySem.Value (@PySem.Value.str (@PySem.Str.ofString "/claim/cut.py") (613 : Nat)) (@List.nil.{0} @PySem.Value)))))))))))))))))))))) (@List.toArray.{0} (@Option.{0} @PySem.Value) (@List.nil.{0} (@Option.{0} @PySem.Value)))))
  (@List.cons.{0} (Prod.{0, 0} Nat PySem.Obj) (@Prod.mk.{0, 0} Nat PySem.Obj (nat_lit 103) (@PySem.Obj.mk (@PySem.Value.type "function") (@Option.none.{0} @Nat) (@PySem.Data.func (@PySem.FuncData.mk (@PySem.Str.ofString "_law_sizes") (@PySem.Str.ofString "_law_sizes") @ar8 (@PySem.FuncBody.stmts @bd8) @sc8 (3 : Nat) (@List.nil.{0} (@Prod.{0, 0} @PySem.Str @Nat)) @PySem.Value.none @PySem.Value.none @PySem.Value.none (@PySem.Value.str (@PySem.Str.ofString "law_to0015_01") (601 : Nat)) (@Option.none.{0} @Nat) (@PySem.Value.ref (102 : Nat)) @PySem.Value.none (0 : Nat))) (@List.toArray.{0} (@Option.{0} @PySem.Value) (@List.nil.{0} (@Option.{0} @PySem.Value)))))
  (@List.cons.{0} (Prod.{0, 0} Nat PySem.Obj) (@Prod.mk.{0, 0} Nat PySem.Obj (nat_lit 107) (@PySem.Obj.mk (@PySem.Value.type "code") (@Option.none.{0} @Nat) (@PySem.Data.fields (@List.toArray.{0} @PySem.Value (@List.cons.{0} @PySem.Value (@PySem.Value.str (@PySem.Str.ofString "_law_mail") (615 : Nat)) (@List.cons.{0} @PySem.Value (@PySem.Value.str (@PySem.Str.ofString "_law_mail") (616 : Nat)) (@List.cons.{0} @PySem.Value (@PySem.Value.str (@PySem.Str.ofString "/claim/cut.py") (617 : Nat)) (@List.cons.{0} @PySem.Value (@PySem.Value.int (95 : Int) (0 : Nat)) (@List.cons.{0} @PySem.Value (@PySem.Value.int (2 : Int) (0 : Nat)) (@List.cons.{0} @PySem.Value (@PySem.Value.int (0 : Int) (0 : Nat)) (@List.cons.{0} @PySem.Value (@PySem.Value.int (0 : Int) (0 : Nat)) (@List.cons.{0} @PySem.Value (@PySem.Value.int (3 : Int) (0 : Nat)) (@List.cons.{0} @PySem.Value (@PySem.Value.ref (104 : Nat)) (@List.cons.{0} @PySem.Value (@PySem.Value.bool @Bool.true) (@List.cons.{0} @PySem.Value (@PySem.Value.int (276 : Int) (0 : Nat)) (@List.cons.{0} @PySem.Value (@PySem.Value.ref (105 : Nat)) (@List.cons.{0} @PySem.Value @PySem.Value.none (@List.cons.{0} @PySem.Value @PySem.Value.none (@List.cons.{0} @PySem.Value @PySem.Value.none (@List.cons.{0} @PySem.Value (@PySem.Value.ref (106 : Nat)) (@List.cons.{0} @PySem.Value (@PySem.Value.int (618 : Int) (0 : Nat)) (@List.cons.{0} @PySem.Value (@PySem.Value.int (95 : Int) (0 : Nat)) (@List.cons.{0} @PySem.Value (@PySem.Value.str (@PySem.Str.ofString "/claim/cut.py") (619 : Nat)) (@List.nil.{0} @PySem.Value)))))))))))))))))))))) (@List.toArray.{0} (@Option.{0} @PySem.Value) (@List.nil.{0} (@Option.{0} @PySem.Value)))))
  (@List.cons.{0} (Prod.{0, 0} Nat PySem.Obj) (@Prod.mk.{0, 0} Nat PySem.Obj (nat_lit 108) (@PySem.Obj.mk (@PySem.Value.type "function") (@Option.none.{0} @Nat) (@PySem.Data.func (@PySem.FuncData.mk (@PySem.Str.ofString "_law_mail") (@PySem.Str.ofString "_law_mail") @ar9 (@PySem.FuncBody.stmts @bd9) @sc9 (3 : Nat) (@List.nil.{0} (@Prod.{0, 0} @PySem.Str @Nat)) @PySem.Value.none @PySem.Value.none @PySem.Value.none (@PySem.Value.str (@PySem.Str.ofString "law_to0015_01") (601 : Nat)) (@Option.none.{0} @Nat) (@PySem.Value.ref (107 : Nat)) @PySem.Value.none (0 : Nat))) (@List.toArray.{0} (@Option.{0} @PySem.Value) (@List.nil.{0} (@Option.{0} @PySem.Value)))))
  (@List.cons.{0} (Prod.{0, 0} Nat PySem.Obj) (@Prod.mk.{0, 0} Nat PySem.Obj (nat_lit 112) (@PySem.Obj.mk (@PySem.Value.type "code") (@Option.none.{0} @Nat) (@PySem.Data.fields (@List.toArray.{0} @PySem.Value (@List.cons.{0} @PySem.Value (@PySem.Value.str (@PySem.Str.ofString "_law_read") (621 : Nat)) (@List.cons.{0} @PySem.Value (@PySem.Value.str (@PySem.Str.ofString "_law_read") (622 : Nat)) (@List.cons.{0} @PySem.Value (@PySem.Value.str (@PySem.Str.ofString "/claim/cut.py") (623 : Nat)) (@List.cons.{0} @PySem.Value (@PySem.Value.int (98 : Int) (0 : Nat)) (@List.cons.{0} @PySem.Value (@PySem.Value.int (1 : Int) (0 : Nat)) (@List.cons.{0} @PySem.Value (@PySem.Value.int (0 : Int) (0 : Nat)) (@List.cons.{0} @PySem.Value (@PySem.Value.int (0 : Int) (0 : Nat)) (@List.cons.{0} @PySem.Value (@PySem.Value.int (3 : Int) (0 : Nat)) (@List.cons.{0} @PySem.Value (@PySem.Value.ref (109 : Nat)) (@List.cons.{0} @PySem.Value (@PySem.Value.bool @Bool.true) (@List.cons.{0} @PySem.Value (@PySem.Value.int (276 : Int) (0 : Nat)) (@List.cons.{0} @PySem.Value (@PySem.Value.ref (110 : Nat)) (@List.cons.{0} @PySem.Value @PySem.Value.none (@List.cons.{0} @PySem.Value @PySem.Value.none (@List.cons.{0} @PySem.Value @PySem.Value.none (@List.cons.{0} @PySem.Value (@PySem.Value.ref (111 : Nat)) (@List.cons.{0} @PySem.Value (@PySem.Value.int (624 : Int) (0 : Nat)) (@List.cons.{0} @PySem.Value (@PySem.Value.int (98 : Int) (0 : Nat)) (@List.cons.{0} @PySem.Value (@PySem.Value.str (@PySem.Str.ofString "/claim/cut.py") (625 : Nat)) (@List.nil.{0} @PySem.Value)))))))))))))))))))))) (@List.toArray.{0} (@Option.{0} @PySem.Value) (@List.nil.{0} (@Option.{0} @PySem.Value)))))
  (@List.cons.{0} (Prod.{0, 0} Nat PySem.Obj) (@Prod.mk.{0, 0} Nat PySem.Obj (nat_lit 113) (@PySem.Obj.mk (@PySem.Value.type "function") (@Option.none.{0} @Nat) (@PySem.Data.func (@PySem.FuncData.mk (@PySem.Str.ofString "_law_read") (@PySem.Str.ofString "_law_read") @ar10 (@PySem.FuncBody.stmts @bd10) @sc10 (3 : Nat) (@List.nil.{0} (@Prod.{0, 0} @PySem.Str @Nat)) @PySem.Value.none @PySem.Value.none @PySem.Value.none (@PySem.Value.str (@PySem.Str.ofString "law_to0015_01") (601 : Nat)) (@Option.none.{0} @Nat) (@PySem.Value.ref (112 : Nat)) @PySem.Value.none (0 : Nat))) (@List.toArray.{0} (@Option.{0} @PySem.Value) (@List.nil.{0} (@Option.{0} @PySem.Value)))))
  (@List.cons.{0} (Prod.{0, 0} Nat PySem.Obj) (@Prod.mk.{0, 0} Nat PySem.Obj (nat_lit 119) (@PySem.Obj.mk (@PySem.Value.type "code") (@Option.none.{0} @Nat) (@PySem.Data.fields (@List.toArray.{0} @PySem.Value (@List.cons.{0} @PySem.Value (@PySem.Value.str (@PySem.Str.ofString "_law_over") (627 : Nat)) (@List.cons.{0} @PySem.Value (@PySem.Value.str (@PySem.Str.ofString "_law_over") (628 : Nat)) (@List.cons.{0} @PySem.Value (@PySem.Value.str (@PySem.Str.ofString "/claim/cut.py") (629 : Nat)) (@List.cons.{0} @PySem.Value (@PySem.Value.int (105 : Int) (0 : Nat)) (@List.cons.{0} @PySem.Value (@PySem.Value.int (4 : Int) (0 : Nat)) (@List.cons.{0} @PySem.Value (@PySem.Value.int (0 : Int) (0 : Nat)) (@List.cons.{0} @PySem.Value (@PySem.Value.int (0 : Int) (0 : Nat)) (@List.cons.{0} @PySem.Value (@PySem.Value.int (3 : Int) (0 : Nat)) (@List.cons.{0} @PySem.Value (@PySem.Value.ref (114 : Nat)) (@List.cons.{0} @PySem.Value (@PySem.Value.bool @Bool.true) (@List.cons.{0} @PySem.Value (@PySem.Value.int (276 : Int) (0 : Nat)) (@List.cons.{0} @PySem.Value (@PySem.Value.ref (115 : Nat)) (@List.cons.{0} @PySem.Value @PySem.Value.none (@List.cons.{0} @PySem.Value (@PySem.Value.ref (116 : Nat)) (@List.cons.{0} @PySem.Value (@PySem.Value.ref (117 : Nat)) (@List.cons.{0} @PySem.Value (@PySem.Value.ref (118 : Nat)) (@List.cons.{0} @PySem.Value (@PySem.Value.int (639 : Int) (0 : Nat)) (@List.cons.{0} @PySem.Value (@PySem.Value.int (105 : Int) (0 : Nat)) (@List.cons.{0} @PySem.Value (@PySem.Value.str (@PySem.Str.ofString "/claim/cut.py") (640 : Nat)) (@List.nil.{0} @PySem.Value)))))))))))))))))))))) (@List.toArray.{0} (@Option.{0} @PySem.Value) (@List.nil.{0} (@Option.{0} @PySem.Value)))))
  (@List.cons.{0} (Prod.{0, 0} Nat PySem.Obj) (@Prod.mk.{0, 0} Nat PySem.Obj (nat_lit 120) (@PySem.Obj.mk (@PySem.Value.type "function") (@Option.none.{0} @Nat) (@PySem.Data.func (@PySem.FuncData.mk (@PySem.Str.ofString "_law_over") (@PySem.Str.ofString "_law_over") @ar11 (@PySem.FuncBody.stmts @bd11) @sc11 (3 : Nat) (@List.nil.{0} (@Prod.{0, 0} @PySem.Str @Nat)) @PySem.Value.none @PySem.Value.none @PySem.Value.none (@PySem.Value.str (@PySem.Str.ofString "law_to0015_01") (601 : Nat)) (@Option.none.{0} @Nat) (@PySem.Value.ref (119 : Nat)) @PySem.Value.none (0 : Nat))) (@List.toArray.{0} (@Option.{0} @PySem.Value) (@List.nil.{0} (@Option.{0} @PySem.Value)))))
  (@List.cons.{0} (Prod.{0, 0} Nat PySem.Obj) (@Prod.mk.{0, 0} Nat PySem.Obj (nat_lit 124) (@PySem.Obj.mk (@PySem.Value.type "code") (@Option.none.{0} @Nat) (@PySem.Data.fields (@List.toArray.{0} @PySem.Value (@List.cons.{0} @PySem.Value (@PySem.Value.str (@PySem.Str.ofString "_law_sent") (642 : Nat)) (@List.cons.{0} @PySem.Value (@PySem.Value.str (@PySem.Str.ofString "_law_sent") (643 : Nat)) (@List.cons.{0} @PySem.Value (@PySem.Value.str (@PySem.Str.ofString "/claim/cut.py") (644 : Nat)) (@List.cons.{0} @PySem.Value (@PySem.Value.int (111 : Int) (0 : Nat)) (@List.cons.{0} @PySem.Value (@PySem.Value.int (1 : Int) (0 : Nat)) (@List.cons.{0} @PySem.Value (@PySem.Value.int (0 : Int) (0 : Nat)) (@List.cons.{0} @PySem.Value (@PySem.Value.int (0 : Int) (0 : Nat)) (@List.cons.{0} @PySem.Value (@PySem.Value.int (3 : Int) (0 : Nat)) (@List.cons.{0} @PySem.Value (@PySem.Value.ref (121 : Nat)) (@List.cons.{0} @PySem.Value (@PySem.Value.bool @Bool.true) (@List.cons.{0} @PySem.Value (@PySem.Value.int (276 : Int) (0 : Nat)) (@List.cons.{0} @PySem.Value (@PySem.Value.ref (122 : Nat)) (@List.cons.{0} @PySem.Value @PySem.Value.none (@List.cons.{0} @PySem.Value @PySem.Value.none (@List.cons.{0} @PySem.Value @PySem.Value.none (@List.cons.{0} @PySem.Value (@PySem.Value.ref (123 : Nat)) (@List.cons.{0} @PySem.Value (@PySem.Value.int (645 : Int) (0 : Nat)) (@List.cons.{0} @PySem.Value (@PySem.Value.int (111 : Int) (0 : Nat)) (@List.cons.{0} @PySem.Value (@PySem.Value.str (@PySem.Str.ofString "/claim/cut.py") (646 : Nat)) (@List.nil.{0} @PySem.Value)))))))))))))))))))))) (@List.toArray.{0} (@Option.{0} @PySem.Value) (@List.nil.{0} (@Option.{0} @PySem.Value)))))
  (@List.cons.{0} (Prod.{0, 0} Nat PySem.Obj) (@Prod.mk.{0, 0} Nat PySem.Obj (nat_lit 125) (@PySem.Obj.mk (@PySem.Value.type "function") (@Option.none.{0} @Nat) (@PySem.Data.func (@PySem.FuncData.mk (@PySem.Str.ofString "_law_sent") (@PySem.Str.ofString "_law_sent") @ar12 (@PySem.FuncBody.stmts @bd12) @sc12 (3 : Nat) (@List.nil.{0} (@Prod.{0, 0} @PySem.Str @Nat)) @PySem.Value.none @PySem.Value.none @PySem.Value.none (@PySem.Value.str (@PySem.Str.ofString "law_to0015_01") (601 : Nat)) (@Option.none.{0} @Nat) (@PySem.Value.ref (124 : Nat)) @PySem.Value.none (0 : Nat))) (@List.toArray.{0} (@Option.{0} @PySem.Value) (@List.nil.{0} (@Option.{0} @PySem.Value)))))
  (@List.cons.{0} (Prod.{0, 0} Nat PySem.Obj) (@Prod.mk.{0, 0} Nat PySem.Obj (nat_lit 131) (@PySem.Obj.mk (@PySem.Value.type "code") (@Option.none.{0} @Nat) (@PySem.Data.fields (@List.toArray.{0} @PySem.Value (@List.cons.{0} @PySem.Value (@PySem.Value.str (@PySem.Str.ofString "_law_counts") (648 : Nat)) (@List.cons.{0} @PySem.Value (@PySem.Value.str (@PySem.Str.ofString "_law_counts") (649 : Nat)) (@List.cons.{0} @PySem.Value (@PySem.Value.str (@PySem.Str.ofString "/claim/cut.py") (650 : Nat)) (@List.cons.{0} @PySem.Value (@PySem.Value.int (114 : Int) (0 : Nat)) (@List.cons.{0} @PySem.Value (@PySem.Value.int (1 : Int) (0 : Nat)) (@List.cons.{0} @PySem.Value (@PySem.Value.int (0 : Int) (0 : Nat)) (@List.cons.{0} @PySem.Value (@PySem.Value.int (0 : Int) (0 : Nat)) (@List.cons.{0} @PySem.Value (@PySem.Value.int (3 : Int) (0 : Nat)) (@List.cons.{0} @PySem.Value (@PySem.Value.ref (126 : Nat)) (@List.cons.{0} @PySem.Value (@PySem.Value.bool @Bool.true) (@List.cons.{0} @PySem.Value (@PySem.Value.int (276 : Int) (0 : Nat)) (@List.cons.{0} @PySem.Value (@PySem.Value.ref (127 : Nat)) (@List.cons.{0} @PySem.Value @PySem.Value.none (@List.cons.{0} @PySem.Value (@PySem.Value.ref (128 : Nat)) (@List.cons.{0} @PySem.Value (@PySem.Value.ref (129 : Nat)) (@List.cons.{0} @PySem.Value (@PySem.Value.ref (130 : Nat)) (@List.cons.{0} @PySem.Value (@PySem.Value.int (654 : Int) (0 : Nat)) (@List.cons.{0} @PySem.Value (@PySem.Value.int (114 : Int) (0 : Nat)) (@List.cons.{0} @PySem.Value (@PySem.Value.str (@PySem.Str.ofString "/claim/cut.py") (655 : Nat)) (@List.nil.{0} @PySem.Value)))))))))))))))))))))) (@List.toArray.{0} (@Option.{0} @PySem.Value) (@List.nil.{0} (@Option.{0} @PySem.Value)))))
  (@List.cons.{0} (Prod.{0, 0} Nat PySem.Obj) (@Prod.mk.{0, 0} Nat PySem.Obj (nat_lit 132) (@PySem.Obj.mk (@PySem.Value.type "function") (@Option.none.{0} @Nat) (@PySem.Data.func (@PySem.FuncData.mk (@PySem.Str.ofString "_law_counts") (@PySem.Str.ofString "_law_counts") @ar13 (@PySem.FuncBody.stmts @bd13) @sc13 (3 : Nat) (@List.nil.{0} (@Prod.{0, 0} @PySem.Str @Nat)) @PySem.Value.none @PySem.Value.none @PySem.Value.none (@PySem.Value.str (@PySem.Str.ofString "law_to0015_01") (601 : Nat)) (@Option.none.{0} @Nat) (@PySem.Value.ref (131 : Nat)) @PySem.Value.none (0 : Nat))) (@List.toArray.{0} (@Option.{0} @PySem.Value) (@List.nil.{0} (@Option.{0} @PySem.Value)))))
  (@List.cons.{0} (Prod.{0, 0} Nat PySem.Obj) (@Prod.mk.{0, 0} Nat PySem.Obj (nat_lit 136) (@PySem.Obj.mk (@PySem.Value.type "code") (@Option.none.{0} @Nat) (@PySem.Data.fields (@List.toArray.{0} @PySem.Value (@List.cons.{0} @PySem.Value (@PySem.Value.str (@PySem.Str.ofString "_law_four") (657 : Nat)) (@List.cons.{0} @PySem.Value (@PySem.Value.str (@PySem.Str.ofString "_law_four") (658 : Nat)) (@List.cons.{0} @PySem.Value (@PySem.Value.str (@PySem.Str.ofString "/claim/cut.py") (659 : Nat)) (@List.cons.{0} @PySem.Value (@PySem.Value.int (117 : Int) (0 : Nat)) (@List.cons.{0} @PySem.Value (@PySem.Value.int (1 : Int) (0 : Nat)) (@List.cons.{0} @PySem.Value (@PySem.Value.int (0 : Int) (0 : Nat)) (@List.cons.{0} @PySem.Value (@PySem.Value.int (0 : Int) (0 : Nat)) (@List.cons.{0} @PySem.Value (@PySem.Value.int (3 : Int) (0 : Nat)) (@List.cons.{0} @PySem.Value (@PySem.Value.ref (133 : Nat)) (@List.cons.{0} @PySem.Value (@PySem.Value.bool @Bool.true) (@List.cons.{0} @PySem.Value (@PySem.Value.int (276 : Int) (0 : Nat)) (@List.cons.{0} @PySem.Value (@PySem.Value.ref (134 : Nat)) (@List.cons.{0} @PySem.Value @PySem.Value.none (@List.cons.{0} @PySem.Value @PySem.Value.none (@List.cons.{0} @PySem.Value @PySem.Value.none (@List.cons.{0} @PySem.Value (@PySem.Value.ref (135 : Nat)) (@List.cons.{0} @PySem.Value (@PySem.Value.int (660 : Int) (0 : Nat)) (@List.cons.{0} @PySem.Value (@PySem.Value.int (117 : Int) (0 : Nat)) (@List.cons.{0} @PySem.Value (@PySem.Value.str (@PySem.Str.ofString "/claim/cut.py") (661 : Nat)) (@List.nil.{0} @PySem.Value)))))))))))))))))))))) (@List.toArray.{0} (@Option.{0} @PySem.Value) (@List.nil.{0} (@Option.{0} @PySem.Value)))))
  (@List.cons.{0} (Prod.{0, 0} Nat PySem.Obj) (@Prod.mk.{0, 0} Nat PySem.Obj (nat_lit 137) (@PySem.Obj.mk (@PySem.Value.type "function") (@Option.none.{0} @Nat) (@PySem.Data.func (@PySem.FuncData.mk (@PySem.Str.ofString "_law_four") (@PySem.Str.ofString "_law_four") @ar14 (@PySem.FuncBody.stmts @bd14) @sc14 (3 : Nat) (@List.nil.{0} (@Prod.{0, 0} @PySem.Str @Nat)) @PySem.Value.none @PySem.Value.none @PySem.Value.none (@PySem.Value.str (@PySem.Str.ofString "law_to0015_01") (601 : Nat)) (@Option.none.{0} @Nat) (@PySem.Value.ref (136 : Nat)) @PySem.Value.none (0 : Nat))) (@List.toArray.{0} (@Option.{0} @PySem.Value) (@List.nil.{0} (@Option.{0} @PySem.Value)))))
  (@List.cons.{0} (Prod.{0, 0} Nat PySem.Obj) (@Prod.mk.{0, 0} Nat PySem.Obj (nat_lit 141) (@PySem.Obj.mk (@PySem.Value.type "code") (@Option.none.{0} @Nat) (@PySem.Data.fields (@List.toArray.{0} @PySem.Value (@List.cons.{0} @PySem.Value (@PySem.Value.str (@PySem.Str.ofString "law") (663 : Nat)) (@List.cons.{0} @PySem.Value (@PySem.Value.str (@PySem.Str.ofString "law") (664 : Nat)) (@List.cons.{0} @PySem.Value (@PySem.Value.str (@PySem.Str.ofString "/claim/cut.py") (665 : Nat)) (@List.cons.{0} @PySem.Value (@PySem.Value.int (125 : Int) (0 : Nat)) (@List.cons.{0} @PySem.Value (@PySem.Value.int (1 : Int) (0 : Nat)) (@List.cons.{0} @PySem.Value (@PySem.Value.int (0 : Int) (0 : Nat)) (@List.cons.{0} @PySem.Value (@PySem.Value.int (0 : Int) (0 : Nat)) (@List.cons.{0} @PySem.Value (@PySem.Value.int (3 : Int) (0 : Nat)) (@List.cons.{0} @PySem.Value (@PySem.Value.ref (138 : Nat)) (@List.cons.{0} @PySem.Value (@PySem.Value.bool @Bool.true) (@List.cons.{0} @PySem.Value (@PySem.Value.int (276 : Int) (0 : Nat)) (@List.cons.{0} @PySem.Value (@PySem.Value.ref (139 : Nat)) (@List.cons.{0} @PySem.Value @PySem.Value.none (@List.cons.{0} @PySem.Value @PySem.Value.none (@List.cons.{0} @PySem.Value @PySem.Value.none (@List.cons.{0} @PySem.Value (@PySem.Value.ref (140 : Nat)) (@List.cons.{0} @PySem.Value (@PySem.Value.int (666 : Int) (0 : Nat)) (@List.cons.{0} @PySem.Value (@PySem.Value.int (125 : Int) (0 : Nat)) (@List.cons.{0} @PySem.Value (@PySem.Value.str (@PySem.Str.ofString "/claim/cut.py") (667 : Nat)) (@List.nil.{0} @PySem.Value)))))))))))))))))))))) (@List.toArray.{0} (@Option.{0} @PySem.Value) (@List.nil.{0} (@Option.{0} @PySem.Value)))))
  (@List.cons.{0} (Prod.{0, 0} Nat PySem.Obj) (@Prod.mk.{0, 0} Nat PySem.Obj (nat_lit 142) (@PySem.Obj.mk (@PySem.Value.type "function") (@Option.none.{0} @Nat) (@PySem.Data.func (@PySem.FuncData.mk (@PySem.Str.ofString "law") (@PySem.Str.ofString "law") @ar15 (@PySem.FuncBody.stmts @bd15) @sc15 (3 : Nat) (@List.nil.{0} (@Prod.{0, 0} @PySem.Str @Nat)) @PySem.Value.none @PySem.Value.none @PySem.Value.none (@PySem.Value.str (@PySem.Str.ofString "law_to0015_01") (601 : Nat)) (@Option.none.{0} @Nat) (@PySem.Value.ref (141 : Nat)) @PySem.Value.none (0 : Nat))) (@List.toArray.{0} (@Option.{0} @PySem.Value) (@List.nil.{0} (@Option.{0} @PySem.Value)))))
  (@List.nil.{0} (Prod.{0, 0} Nat PySem.Obj))))))))))))))))))))))))))))))))))))))))))))
  ) _ _ _ (by with_unfolding_all exact rfl) _ _ _ (by with_unfolding_all exact rfl) _ _ _ (by with_unfolding_all exact rfl) _ _ _ (by with_unfolding_all exact rfl) _ _ _ (by with_unfolding_all exact rfl) _ _ _ (by with_unfolding_all exact rfl) _ _ _ (by with_unfolding_all exact rfl) _ _ _ (by with_unfolding_all exact rfl) _ _ _ (by with_unfolding_all exact rfl) _ _ _ (by with_unfolding_all exact rfl) _ _ _ (by with_unfolding_all exact rfl) _ _ _ (by with_unfolding_all exact rfl) _ _ _ (by with_unfolding_all exact rfl) _ _ _ (by with_unfolding_all exact rfl) _ _ _ (by with_unfolding_all exact rfl) _ _ _ (by with_unfolding_all exact rfl)


noncomputable abbrev spot (dp un : Nat) (gd : Option (List Code)) (outer : List Env) : Around := { handled := none, depth := dp, frames := some outer, guards := gd, units := un }
noncomputable def Grow (h h' : Heap) : Prop := ∀ b o, h.get? b = some o → h'.get? b = some o
theorem Grow.rfl' (h : Heap) : Grow h h := fun _ _ e => e
theorem Grow.trans {a b c : Heap} (x : Grow a b) (y : Grow b c) : Grow a c := fun d o e => y d o (x d o e)
structure Fit (w : World) (dp un : Nat) (gd : Option (List Code)) (outer : List Env) (h : Heap) : Prop where
  B : ∃ base, Below (spot dp un gd outer) base outer h
  X : (h39 w.params).In h
  T : ∃ p loose mean mg mb, Top p loose mean mg mb h
theorem Below.grow {A : Around} {base h h' : Heap} {outer : List Env} (B : Below A base outer h) (g : Grow h h') : Below A base outer h' :=
  ⟨B.stack, fun b o e => g b o (B.stays b o e), B.frames.of_keeps fun b o e _ => ⟨o, g b o e, rfl⟩⟩
theorem Fit.grow {w : World} {dp un : Nat} {gd : Option (List Code)} {outer : List Env} {h h' : Heap} (x : Fit w dp un gd outer h) (g : Grow h h') : Fit w dp un gd outer h' :=
  let ⟨base, B⟩ := x.B
  let ⟨_, _, _, _, _, T⟩ := x.T
  ⟨⟨base, Below.grow B g⟩, x.X.keeps g, ⟨_, _, _, _, _, T.keeps g⟩⟩
noncomputable def Out (s : Shared) (post : Shared → Shared → Value → Prop) (v : Value) (s' : Shared) : Prop :=
  ∃ h' tk', s' = { s with heap := h', toks := tk' } ∧ Grow s.heap h' ∧ s.toks ≤ tk' ∧ post s s' v
noncomputable def Tells (w : World) (n : Nat) (f : Addr) (args : List Value) (pre : Shared → Prop) (post : Shared → Shared → Value → Prop) : Prop :=
  ∀ (dp un : Nat) (gd : Option (List Code)) (outer : List Env) (s : Shared), Fit w dp un gd outer s.heap → pre s → dp + n < recursionLimit → un + 8 * n < cLine →
    codeAny (model PySem.Challenge.rw_to0015_01.row.prog w) (spot dp un gd outer) (.call (.ref f) ⟨args, []⟩) (fun r s' => ∃ v, r = .ok (.ret v) ∧ Out s post v s') s

theorem Tells.use {w : World} {n : Nat} {f : Addr} {args : List Value} {pre : Shared → Prop} {post : Shared → Shared → Value → Prop} (C : Tells w n f args pre post)
    {dp un : Nat} {gd : Option (List Code)} {outer : List Env} {env : Env} {base h₀ : Heap} {L : Addr} {m : Str → Option Value} {s : Shared} {p : Program} {loose : List Str} {mean : ExcName → Option Value} {mg mb : Str → Option Value}
    {Q E : Value → Shared → Prop} (B : Below (spot dp un gd outer) base outer h₀) (F : Fr h₀ L s.heap m) (X : (h39 w.params).In h₀) (T : Top p loose mean mg mb h₀) (hf : env.frame = some L) (hk : env.scope.kind = .function)
    (hp : pre s) (hd : dp + 1 + n < recursionLimit) (hu : un + 3 + 8 * n < cLine)
    (k : ∀ v h' tk', Grow s.heap h' → s.toks ≤ tk' → post s { s with heap := h', toks := tk' } v → Q v { s with heap := h', toks := tk' }) :
    wpAny (model PySem.Challenge.rw_to0015_01.row.prog w) ((spot dp un gd outer).deeper env) (call (.ref f) args) Q E s := by
  refine wpAny_call (codeAny_mono (C (dp + 1) (un + 3) gd (env :: outer) s ⟨⟨base, ?_⟩, X.keeps F.keep, ⟨_, _, _, _, _, T.keeps F.keep⟩⟩ hp hd hu) fun r s' hr => ?_)
  · exact pushX B F hf hk
  · obtain ⟨v, rfl, h', tk', rfl, hg, ht, hpost⟩ := hr
    exact k v h' tk' hg ht hpost

section
variable {w : World} {dp un : Nat} {gd : Option (List Code)} {outer : List Env} {s : Shared} {post : Shared → Shared → Value → Prop}
  {name qual : Str} {params : Arguments} {body : List Stmt} {scope : Scope} {dV kV doc pm cdv ct oc : Value} {an od : Option Addr} {osl : Array (Option Value)} {f : Addr} {args : List Value} {binds : List (Str × Value)}
noncomputable def flowVal : Flow → Value
  | .ret v => v
  | _ => .none
theorem enter_plain (x : Fit w dp un gd outer s.heap) (ho : (h39 w.params).lookup f = some ⟨oc, od, .func (fnOf name qual params body scope dV kV doc pm an cdv ct), osl⟩) (hcd : codeIn (h39 w.params) cdv qual = true) (hroom : dp < recursionLimit)
    (hbind : BindsTo s (fnOf name qual params body scope dV kV doc pm an cdv ct) ⟨args, []⟩ binds) (hloc : ∀ y ∈ binds, scope.names.lookup y.1 = some .local)
    (h : ∀ p loose mean mg mb base L' h₁, L' = s.heap.objs.size → Below (spot dp un gd outer) base outer s.heap → Fr s.heap L' h₁ (fun y => binds.reverse.lookup y) → News s.heap L' h₁ [] → (h39 w.params).In s.heap → Top p loose mean mg mb s.heap →
      wpAny (model PySem.Challenge.rw_to0015_01.row.prog w) ((spot dp un gd outer).deeper (envOf qual scope L' f cdv)) (execs body (envOf qual scope L' f cdv)) (fun fl s' => s.toks ≤ s'.toks → Out s post (flowVal fl) s') (fun _ _ => False) { s with heap := h₁, toks := s.toks + binds.length })
    (hcell : ∀ x ∈ scope.names, x.2 ≠ .cell) (hco : scope.isCoroutine = false) (hgen : scope.isGenerator = false) (hk : scope.kind = .function) :
    codeAny (model PySem.Challenge.rw_to0015_01.row.prog w) (spot dp un gd outer) (.call (.ref f) ⟨args, []⟩) (fun r s' => ∃ v, r = .ok (.ret v) ∧ Out s post v s') s := by
  obtain ⟨⟨base, B⟩, X, ⟨p, loose, mean, mg, mb, T⟩⟩ := x
  refine codeAny_with_toks (n := s.toks) (Nat.le_refl _) ?_
  refine codeAny_call_def (fd := fnOf name qual params body scope dV kV doc pm an cdv ct) (body := body) (binds := binds) hroom (X _ _ ho) rfl T.nolimit (codeRec_of X hcd) rfl hbind hcell hloc (fun h₁ hns hk₁ => ?_) hco hgen hk
  refine wpAny_mono (h p loose mean mg mb base s.heap.objs.size h₁ rfl B ⟨hns, hk₁, Nat.le_refl _⟩ News.nil X T) (fun fl s' hl => ?_) fun _ _ y => y.elim
  exact fun ht => ⟨_, rfl, by cases fl <;> exact hl ht⟩

theorem enter_cells (x : Fit w dp un gd outer s.heap) (ho : (h39 w.params).lookup f = some ⟨oc, od, .func (fnOf name qual params body scope dV kV doc pm an cdv ct), osl⟩) (hcd : codeIn (h39 w.params) cdv qual = true) (hroom : dp < recursionLimit)
    (hbind : BindsTo s (fnOf name qual params body scope dV kV doc pm an cdv ct) ⟨args, []⟩ binds) (hkind : (binds.all fun y => scope.names.lookup y.1 == some .local || scope.names.lookup y.1 == some .cell) = true)
    (hnd : ((cellsFrom 0 scope.names []).map (·.1)).Nodup)
    (h : ∀ p loose mean mg mb base L' h₁ tk cells, L' = s.heap.objs.size → Below (spot dp un gd outer) base outer s.heap → Fr s.heap L' h₁ (bindL (envOfC qual scope L' f cdv).kindOf binds fun _ => none) → News s.heap L' h₁ cells →
      CellsAre (bindC (envOfC qual scope L' f cdv).kindOf binds fun _ => none) (cellsFrom (L' + 1) scope.names []) cells → (h39 w.params).In s.heap → Top p loose mean mg mb s.heap →
      wpAny (model PySem.Challenge.rw_to0015_01.row.prog w) ((spot dp un gd outer).deeper (envOfC qual scope L' f cdv)) (execs body (envOfC qual scope L' f cdv)) (fun fl s' => s.toks ≤ s'.toks → Out s post (flowVal fl) s') (fun _ _ => False) { s with heap := h₁, toks := tk })
    (hco : scope.isCoroutine = false) (hgen : scope.isGenerator = false) (hk : scope.kind = .function) :
    codeAny (model PySem.Challenge.rw_to0015_01.row.prog w) (spot dp un gd outer) (.call (.ref f) ⟨args, []⟩) (fun r s' => ∃ v, r = .ok (.ret v) ∧ Out s post v s') s := by
  obtain ⟨⟨base, B⟩, X, ⟨p, loose, mean, mg, mb, T⟩⟩ := x
  refine codeAny_with_toks (n := s.toks) (Nat.le_refl _) ?_
  refine codeAny_call_function hroom (X _ _ ho) rfl hco hgen rfl (codeRec_of X hcd) (hbind _ _ _ _ ?_)
  refine wpAny_newFunctionEnv_cells hk (kindsX hkind _) fun env' he s' x => ?_
  subst he
  refine ⟨T.nolimit.keeps x.toInCall.keep, codeAny_func ?_⟩
  obtain ⟨h₁, tk, rfl, _⟩ := x.done
  have hk₁ := x.toInCall.keep
  obtain ⟨cells, NC, Y⟩ := Cl.news (h₀ := s.heap) (Nat.le_refl _) fun n c hm => ⟨x.cell n c (lookup_of_mem_nodup (cellsFrom_names scope.names 0 (s.heap.objs.size + 1) [] [] rfl ▸ hnd) hm), x.above n c hm⟩
  refine wpAny_mono (h p loose mean mg mb base s.heap.objs.size h₁ tk cells rfl B ⟨x.toInCall.ns, hk₁, Nat.le_refl _⟩ NC Y X T) (fun fl s' hl => ?_) fun _ _ y => y.elim
  exact fun ht => ⟨_, rfl, by cases fl <;> exact hl ht⟩
end

theorem out_of {s : Shared} {post : Shared → Shared → Value → Prop} {L : Addr} {m : Str → Option Value} {h' : Heap} {tk : Nat} {v : Value} (F : Fr s.heap L h' m) (ht : s.toks ≤ tk) (hp : post s { s with heap := h', toks := tk } v) :
    Out s post v { s with heap := h', toks := tk } := ⟨h', tk, rfl, F.keep, ht, hp⟩
end
section
open PyProof.Rows.LCg in
theorem src_at_keep {h₀ h h' : Heap} {L ax : Addr} {its : Array Value} {news : List (Addr × Obj)} (x : LCg.SrcAt h₀ ax its news) (k : ∀ b o, h₀.get? b = some o → h'.get? b = some o) (N : News h₀ L h' news) : h'.IsList ax its := x.list k N

noncomputable def TurnOut (s₁ : Shared) (h₀ : Heap) (L : Addr) (news : List (Addr × Obj)) (J : (Str → Option Value) → Prop) (f : Flow) (s₃ : Shared) : Prop :=
  ∃ m' h' tk', f = .next ∧ s₃ = { s₁ with heap := h', toks := tk' } ∧ Fr h₀ L h' m' ∧ News h₀ L h' news ∧ J m'
theorem turn_out {s₁ : Shared} {h₀ : Heap} {L : Addr} {news all : List (Addr × Obj)} {J : (Str → Option Value) → Prop} {m' : Str → Option Value} {h' : Heap} {tk' : Nat} (F : Fr h₀ L h' m') (N : News h₀ L h' all) (sub : ∀ p ∈ news, p ∈ all) (j : J m') :
    TurnOut s₁ h₀ L news J .next { s₁ with heap := h', toks := tk' } := ⟨m', h', tk', rfl, rfl, F, fun p hp => N p (sub p hp), j⟩
section
variable {prog : Program} {w : World} {A : Around} {E : Value → Shared → Prop} {s : Shared} {env : Env} {h₀ : Heap} {L : Addr}
end
end
section
inductive TurnOutN (s₁ : Shared) (h₀ : Heap) (L I : Addr) (oI : Obj) (J : (Str → Option Value) → List (Addr × Obj) → Prop) (f : Flow) (s₃ : Shared) : Prop
  | mk (m' : Str → Option Value) (h' : Heap) (tk' : Nat) (news : List (Addr × Obj)) (hf : f = .next) (es : s₃ = { s₁ with heap := h', toks := tk' }) (F : Fr h₀ L h' m') (N : News h₀ L h' news) (hI : h'.get? I = some oI) (hne : ∀ p ∈ news, p.1 ≠ I) (j : J m' news) : TurnOutN s₁ h₀ L I oI J f s₃
inductive ForAtN (prog : Program) (w : World) (A : Around) (env : Env) (h₀ : Heap) (L : Addr) (target : Expr) (body : List Stmt) (Q : Flow → Shared → Prop) (xv : Value) (s₁ : Shared) : Prop
  | mk (ax : Addr) (its : Array Value) (J : Nat → (Str → Option Value) → List (Addr × Obj) → Prop) (news : List (Addr × Obj)) (m : Str → Option Value) (ex : xv = .ref ax) (hl : ∀ (I ax : Addr) (i : Nat) (v : Value) (s' : Shared) (Q' : Unit → Shared → Prop) (E' : Value → Shared → Prop), v ∈ its → s'.heap.IsListIter I ax i → Q' () s' → wpAny (model prog w) A (letOwnedTupleGo target (.ref I) v) Q' E' s') (F : Fr h₀ L s₁.heap m) (N : News h₀ L s₁.heap news) (S : ∀ i m news, J i m news → LCg.SrcAt h₀ ax its news) (j0 : J 0 m news)
      (turn : ∀ i v I oI m news h tk (E' : Value → Shared → Prop), its[i]? = some v → J i m news → Fr h₀ L h m → News h₀ L h ((I, oI) :: news) → (∀ p ∈ news, p.1 ≠ I) → s₁.toks ≤ tk →
        wpAny (model prog w) A (assign target env v) (fun _ s₂ => wpAny (model prog w) A (execs body env) (TurnOutN s₁ h₀ L I oI (J (i + 1))) E' s₂) E' { s₁ with heap := h, toks := tk })
      (done : ∀ m news h tk, J its.size m news → Fr h₀ L h m → News h₀ L h news → s₁.toks ≤ tk → Q .next { s₁ with heap := h, toks := tk }) : ForAtN prog w A env h₀ L target body Q xv s₁
section
variable {prog : Program} {w : World} {A : Around} {E : Value → Shared → Prop} {s : Shared} {env : Env} {h₀ : Heap} {L : Addr}
theorem for_list_N {target iter : Expr} {body : List Stmt} {pos : Pos} {Q : Flow → Shared → Prop} (hh : A.handled = none)
    (h : wpAny (model prog w) A (eval iter env) (ForAtN prog w A env h₀ L target body Q) E s)
    (hs : ∀ x, foldedSetIterable iter env x = pure x := by intro _; rfl) :
    wpAny (model prog w) A (exec (.For target iter body [] pos) env) Q E s := by
  refine wpAny_For (wpAny_mono h (fun xv s₁ h₁ => ?_) fun _ _ e => e) hs
  refine hide fun G9 bk9 => ?_
  obtain ⟨ax, its, J, news, m, rfl, hlet, F, N, S, j0, turn, done⟩ := h₁
  refine bk9 ?_
  clear bk9 G9
  have hl := (S _ _ _ j0).list F.keep N
  refine wpAny_pyIter_list hl ?_
  have up : ∀ b o, s₁.heap.get? b = some o → (s₁.heap.push { cls := .type "list_iterator", data := .fields #[.ref ax, .int 0 0] }).get? b = some o := fun b o e => Heap.get?_push_of_some _ e
  have hIL : s₁.heap.objs.size ≠ L := Ne.symm (Nat.ne_of_lt F.ns.lt)
  have hI0 : h₀.get? s₁.heap.objs.size = none := next_is_new F
  have hax : ax ≠ s₁.heap.objs.size := by obtain ⟨o, e, _⟩ := hl; exact Nat.ne_of_lt (Heap.lt_size e)
  have hnI : ∀ p ∈ news, p.1 ≠ s₁.heap.objs.size := fun p hp => Nat.ne_of_lt (Heap.lt_size (N p hp).1)
  generalize hI : s₁.heap.objs.size = I at hIL hI0 hax hnI ⊢
  refine codeAny_forLoop_any
    (fun k s' => ∃ i m h tk news, s' = { s₁ with heap := h, toks := tk } ∧ Fr h₀ L h m ∧ News h₀ L h news ∧ (∀ p ∈ news, p.1 ≠ I) ∧ h.IsListIter I ax i ∧ J i m news ∧ i ≤ its.size ∧ k = its.size + 1 - i ∧ s₁.toks ≤ tk) ?_ (its.size + 1)
    ⟨0, m, _, _, news, rfl, F.keeps up, N.grown up, hnI, ?_, j0, Nat.zero_le _, rfl, Nat.le_refl _⟩
  · rintro k s' ⟨i, m, h, tk, news', rfl, F', N', hnI', hit, j, hi, rfl, htk⟩
    have hl' := (S _ _ _ j).list F'.keep N'
    by_cases hlt : i < its.size
    · have hv : its[i]? = some its[i] := by simp [hlt]
      refine wpAny_pyNext_list_item hit hl' hv fun h₁ hit₁ hs₁ => ?_
      refine hlet I ax (i + 1) _ _ _ _ (by simp) hit₁ ?_
      refine hide fun G9 bk9 => ?_
      obtain ⟨oI, heI, hoI⟩ := hit₁
      refine bk9 ?_
      clear bk9 G9
      have F₁ : Fr h₀ L h₁ m := F'.change hs₁ hIL hI0
      have N₁ : News h₀ L h₁ ((I, oI) :: news') := fun p hp => by
        rcases List.mem_cons.mp hp with rfl | hp
        · exact ⟨heI, hIL, hI0⟩
        · exact ⟨hs₁.extBut _ _ (hnI' p hp) (N' p hp).1, (N' p hp).2⟩
      refine wpAny_mono (wpAny_toks_of (n := s₁.toks) htk (turn i _ I oI m news' h₁ tk (notedBy (model prog w) A env fun e s' => cameBackBy (model prog w) A env E e s') hv j F₁ N₁ hnI' htk)) (fun _ s₂ h₂ => ?_) fun _ _ e => e.2
      obtain ⟨ht₂, h₂⟩ := h₂
      refine wpAny_mono (wpAny_toks_of (n := s₁.toks) ht₂ h₂) (fun f s₃ h₃ => ?_) fun _ _ e => e.2
      refine hide fun G9 bk9 => ?_
      obtain ⟨ht₃, m', h', tk', news₃, rfl, rfl, F₃, N₃, heI₃, hnI₃, j₃⟩ := h₃
      refine bk9 ?_
      clear bk9 G9
      refine ⟨its.size + 1 - (i + 1), slt hlt, i + 1, m', h', tk', news₃, rfl, F₃, N₃, hnI₃, ⟨oI, heI₃, hoI⟩, j₃, hlt, rfl, ht₃⟩
    · obtain rfl : i = its.size := Nat.le_antisymm hi (Nat.not_lt.mp hlt)
      refine wpAny_pyNext_list_end hh hit hl' (by simp) fun h₁ he₁ => ?_
      refine wpAny_execs_nil ?_
      refine done m news' h₁ tk j ⟨F'.ns.extBut he₁ (Ne.symm hIL), fun b o e => he₁ b o (fun q => by rw [q, hI0] at e; cases e) (F'.keep b o e), F'.above⟩ (fun p hp => ⟨he₁ _ _ (hnI' p hp) (N' p hp).1, (N' p hp).2⟩) htk
  · exact ⟨_, by rw [← hI]; exact Heap.get?_push_size _ rfl, rfl, rfl⟩
theorem for_list_K {target iter : Expr} {body : List Stmt} {pos : Pos} {its : Array Value} {Q : Flow → Shared → Prop} (J : Nat → (Str → Option Value) → Prop) (hh : A.handled = none)
    (hlet : ∀ (I ax : Addr) (i : Nat) (v : Value) (s' : Shared) (Q' : Unit → Shared → Prop) (E' : Value → Shared → Prop), v ∈ its → s'.heap.IsListIter I ax i → Q' () s' → wpAny (model prog w) A (letOwnedTupleGo target (.ref I) v) Q' E' s')
    (h : wpAny (model prog w) A (eval iter env) (fun xv s₁ => ∃ ax news m, xv = .ref ax ∧ Fr h₀ L s₁.heap m ∧ News h₀ L s₁.heap news ∧ LCg.SrcAt h₀ ax its news ∧ J 0 m ∧
      (∀ i v I oI m h tk (E' : Value → Shared → Prop), its[i]? = some v → J i m → Fr h₀ L h m → News h₀ L h ((I, oI) :: news) → s₁.toks ≤ tk →
        wpAny (model prog w) A (assign target env v) (fun _ s₂ => wpAny (model prog w) A (execs body env) (TurnOut s₁ h₀ L ((I, oI) :: news) (J (i + 1))) E' s₂) E' { s₁ with heap := h, toks := tk }) ∧
      (∀ m h tk, J its.size m → Fr h₀ L h m → News h₀ L h news → s₁.toks ≤ tk → Q .next { s₁ with heap := h, toks := tk })) E s)
    (hs : ∀ x, foldedSetIterable iter env x = pure x := by intro _; rfl) :
    wpAny (model prog w) A (exec (.For target iter body [] pos) env) Q E s := by
  refine for_list_N (h₀ := h₀) (L := L) hh (wpAny_mono h (fun xv s₁ h₁ => ?_) fun _ _ e => e) hs
  refine hide fun G9 bk9 => ?_
  obtain ⟨ax, news, m, rfl, F, N, S, j0, turn, done⟩ := h₁
  refine bk9 ?_
  clear bk9 G9
  refine ⟨ax, its, fun i m' n' => J i m' ∧ n' = news, news, m, rfl, hlet, F, N, fun _ _ _ q => q.2 ▸ S, ⟨j0, rfl⟩, fun i v I oI m n' h tk E' hv q F2 N2 hne htk => ?_, fun m n' h tk q F2 N2 htk => ?_⟩
  · obtain ⟨hj, rfl⟩ := q
    refine wpAny_mono (turn i v I oI m h tk E' hv hj F2 N2 htk) (fun _ s₂ h₂ => wpAny_mono h₂ (fun f s₃ x => ?_) fun _ _ e => e) fun _ _ e => e
    refine hide fun G9 bk9 => ?_
    obtain ⟨m', h', tk', rfl, rfl, F', N', hj'⟩ := x
    refine bk9 ?_
    clear bk9 G9
    exact ⟨m', h', tk', _, rfl, rfl, F', fun p hp => N' p (List.mem_cons_of_mem _ hp), (N' _ List.mem_cons_self).1, hne, hj', rfl⟩
  · obtain ⟨hj, rfl⟩ := q
    exact done m h tk hj F2 N2 htk
end
end
local macro_rules | `(tactic| k_ne) => `(tactic| (refine neN ?_; (try dsimp only); (first | with_reducible assumption | exact Ne.symm (by with_reducible assumption) | (refine nS ?_; (repeat (first | exact Nat.le_refl _ | exact Nat.le_of_lt (by with_reducible assumption) | refine Nat.le_succ_of_le ?_)); done) | (refine nS' ?_; (repeat (first | exact Nat.le_refl _ | exact Nat.le_of_lt (by with_reducible assumption) | refine Nat.le_succ_of_le ?_)); done) | (refine nUp (by with_reducible assumption) ?_; (repeat (first | exact Nat.le_refl _ | exact Nat.le_of_lt (by with_reducible assumption) | refine Nat.le_succ_of_le ?_)); done) | (refine nUp' (by with_reducible assumption) ?_; (repeat (first | exact Nat.le_refl _ | exact Nat.le_of_lt (by with_reducible assumption) | refine Nat.le_succ_of_le ?_)); done) | omega)))
section
theorem t_mul (w : World) (a : Int) (t : Tok) (b : Int) (u : Tok) (h : -(2 ^ 62) ≤ a ∧ a ≤ 2 ^ 62 ∧ -(2 ^ 62) ≤ b ∧ b ≤ 2 ^ 62) : Tells w 1 59 [.int a t, .int b u] (fun _ => True) (fun _ _ v => ∃ t, v = .int (a * b) t) := by
  intro dp un gd outer s fit hpre hd hu
  (have hX := fit.X; revert hX; k_fill; intro hX)
  refine hide fun G9 bk9 => ?_
  obtain ⟨h1, h2, h3, h4⟩ := h
  refine bk9 ?_
  clear bk9 G9
  k_dflt (refine enter_plain (binds := [(Str.ofString "a", .int a t), (Str.ofString "b", .int b u)]) (by assumption) (by k_is) (by k_is) (by omega) (BindsTo.of_eq rfl) (locs rfl) ?_ (by decide) rfl rfl rfl; intro p loose mean mg mb base L' h₁ eL' B F' N' X' T'; (try dsimp only); (try k_fold))
  k_steps
  all_goals exact out_of (by assumption) (by assumption) ⟨_, rfl⟩
theorem t_add (w : World) (a : Int) (t : Tok) (b : Int) (u : Tok) : Tells w 1 52 [.int a t, .int b u] (fun _ => True) (fun _ _ v => ∃ t, v = .int (a + b) t) := by
  intro dp un gd outer s fit hpre hd hu
  (have hX := fit.X; revert hX; k_fill; intro hX)
  k_dflt (refine enter_plain (binds := [(Str.ofString "a", .int a t), (Str.ofString "b", .int b u)]) (by assumption) (by k_is) (by k_is) (by omega) (BindsTo.of_eq rfl) (locs rfl) ?_ (by decide) rfl rfl rfl; intro p loose mean mg mb base L' h₁ eL' B F' N' X' T'; (try dsimp only); (try k_fold))
  k_steps
  all_goals exact out_of (by assumption) (by assumption) ⟨_, rfl⟩
theorem t_sub (w : World) (a : Int) (t : Tok) (b : Int) (u : Tok) : Tells w 1 66 [.int a t, .int b u] (fun _ => True) (fun _ _ v => ∃ t, v = .int (a - b) t) := by
  intro dp un gd outer s fit hpre hd hu
  (have hX := fit.X; revert hX; k_fill; intro hX)
  k_dflt (refine enter_plain (binds := [(Str.ofString "a", .int a t), (Str.ofString "b", .int b u)]) (by assumption) (by k_is) (by k_is) (by omega) (BindsTo.of_eq rfl) (locs rfl) ?_ (by decide) rfl rfl rfl; intro p loose mean mg mb base L' h₁ eL' B F' N' X' T'; (try dsimp only); (try k_fold))
  k_steps
  all_goals exact out_of (by assumption) (by assumption) ⟨_, rfl⟩
noncomputable def cmpZ (x y : Str) : Int := b2i (decide (y.cps.toList < x.cps.toList)) - b2i (decide (x.cps.toList < y.cps.toList))
theorem t_strcoll (w : World) (a : Str) (t : Tok) (b : Str) (u : Tok) : Tells w 1 38 [.str a t, .str b u] (fun _ => True) (fun _ _ v => ∃ t, v = .int (cmpZ a b) t) := by
  intro dp un gd outer s fit hpre hd hu
  (have hX := fit.X; revert hX; k_fill; intro hX)
  k_dflt (refine enter_plain (binds := [(Str.ofString "a", .str a t), (Str.ofString "b", .str b u)]) (by assumption) (by k_is) (by k_is) (by omega) (BindsTo.of_eq rfl) (locs rfl) ?_ (by decide) rfl rfl rfl; intro p loose mean mg mb base L' h₁ eL' B F' N' X' T'; (try dsimp only); (try k_fold))
  k_steps
  all_goals exact out_of (by assumption) (by assumption) ⟨_, rfl⟩

/-- ints with tokens below u -/
noncomputable def IntsTok (u : Nat) (vs : List Value) (ns : List Int) : Prop := vs.length = ns.length ∧ ∀ (i : Nat) (v : Value), vs[i]? = some v → ∃ n t, ns[i]? = some n ∧ v = Value.int n t ∧ 0 < t ∧ t < u
theorem is_int {M : Model} {A : Around} {E : Value → Shared → Prop} {s : Shared} {p q : Int} {t u : Tok} {Q : Value → Shared → Prop} (ht : 0 < t) (hu : t < u) (hq : smallInt q = true) (h : Q (.bool (decide (p = q))) s) :
    wpAny M A (compareOp .Is (.int p t) (.int q u)) Q E s := by
  show wpAny M A (do return .bool (← isSame (.int p t) (.int q u))) Q E s
  have h0 : (t == 0 || u == 0) = false := by
    simp only [Bool.or_eq_false_iff, beq_eq_false_iff_ne]
    exact ⟨Nat.ne_of_gt ht, Nat.ne_of_gt (Nat.lt_trans ht hu)⟩
  refine wpAny_bind ?_
  unfold isSame
  by_cases e : p = q
  · subst e
    simp only [beq_self_eq_true, hq, Bool.and_self, if_true]
    unfold isSame.cachedInt
    rw [if_neg (by rw [h0]; exact Bool.false_ne_true)]
    exact wpAny_bind (wpAny_rule (wpAny_pure (wpAny_pure (by simpa using h))))
  · have e' : (p == q) = false := by simpa using e
    simp only [e', Bool.false_and, Bool.false_eq_true, if_false]
    unfold isSame.created
    rw [if_neg (by rw [h0]; exact Bool.false_ne_true)]
    rw [if_neg (by simpa using Nat.ne_of_lt hu)]
    exact wpAny_pure (wpAny_pure (by simpa [e] using h))

local macro_rules | `(tactic| walk_at "eval Name") => `(tactic| (k_here; k_dflt (refine' ld ?k1 ?k2 ?_; (case k1 => k_asm); (case k2 => assumption); k_whole)))
local macro_rules | `(tactic| walk_at "loadName") => `(tactic| (k_here; k_dflt (refine' ldn ?k1 ?k2 ?_; (case k1 => k_asm); (case k2 => assumption); k_whole)))
local macro_rules | `(tactic| walk_at "compareOp Is int int") => `(tactic| (refine is_int (by assumption) (by assumption) (by assumption) ?_))
theorem t_countOf (w : World) (l : Addr) (vs : List Value) (ns : List Int) (b : Int) (u : Tok) (hb : smallInt b = true) (hi : IntsTok u vs ns) : Tells w 1 73 [.ref l, .int b u] (fun s => s.heap.IsList l vs.toArray) (fun _ _ v => ∃ t, v = .int ((ns.filter (· == b)).length : Nat) t) := by
  intro dp un gd outer s fit hpre hd hu
  (have hX := fit.X; revert hX; k_fill; intro hX)
  k_dflt (refine enter_plain (binds := [(Str.ofString "a", .ref l), (Str.ofString "b", .int b u)]) (by assumption) (by k_is) (by k_is) (by omega) (BindsTo.of_eq rfl) (locs rfl) ?_ (by decide) rfl rfl rfl; intro p loose mean mg mb base L' h₁ eL' B F' N' X' T'; (try dsimp only); (try k_fold))
  iterate 6 walk1
  refine for_list_K (A := _) (h₀ := s.heap) (L := L') (its := vs.toArray) (J := fun i m => m (Str.ofString "b") = some (.int b u) ∧ ∃ t, m (Str.ofString "count") = some (.int (((ns.take i).filter (· == b)).length : Nat) t)) rfl ?hlet ?h (hs := ?hs)
  case hs => exact fun _ => rfl
  case hlet => exact fun _ _ _ _ _ _ _ _ _ h => wpAny_pure h
  walk1
  refine ⟨l, [], _, rfl, by assumption, by assumption, Or.inl hpre, ⟨rfl, _, rfl⟩, ?turn, ?done⟩
  case done =>
    rintro m h tk ⟨jb, t, jc⟩ F N htk
    rw [show ns.take vs.toArray.size = ns from by rw [List.take_of_length_le]; simp [hi.1]] at jc
    k_steps
    all_goals exact out_of (by assumption) (by assumption) ⟨_, rfl⟩
  rintro i v I oI m h tk E' hv ⟨jb, t, jc⟩ F N htk
  refine hide fun G9 bk9 => ?_
  obtain ⟨n, tv, hn, rfl, ht0, htu⟩ := hi.2 i v (by simpa using hv)
  refine bk9 ?_
  clear bk9 G9
  k_fold
  k_steps
  all_goals refine turn_out (by assumption) (by assumption) (fun _ h => h) ?_
  all_goals refine ⟨jb, ?_⟩
  all_goals have ht : ns.take (i + 1) = ns.take i ++ [n] := by rw [List.take_add_one, hn]; rfl
  all_goals rw [ht, List.filter_append]
  · refine ⟨_, congrArg (fun z => some (Value.int z _)) ?_⟩
    simp [*]
  · refine ⟨_, congrArg (fun z => some (Value.int z _)) ?_⟩
    simp [*]
  · refine ⟨_, jc.trans (congrArg (fun z => some (Value.int z _)) ?_)⟩
    simp [*]
end
section
noncomputable def KB (W : List Addr) (h h' : Heap) : Prop := ∀ b o, b ∉ W → h.get? b = some o → h'.get? b = some o
theorem KB.refl (W : List Addr) (h : Heap) : KB W h h := fun _ _ _ e => e
theorem KB.trans {W : List Addr} {a b c : Heap} (x : KB W a b) (y : KB W b c) : KB W a c := fun d o n e => y d o n (x d o n e)
theorem KB.mono {W W' : List Addr} {a b : Heap} (x : KB W a b) (h : ∀ c ∈ W, c ∈ W') : KB W' a b := fun d o n e => x d o (fun m => n (h d m)) e
theorem KB.grow {W : List Addr} {a b : Heap} (x : ∀ d o, a.get? d = some o → b.get? d = some o) : KB W a b := fun d o _ e => x d o e

noncomputable abbrev testsOf (ifs : List Expr) (env : Env) : Sem Bool :=
  forIn ifs true fun c r => if r = true then do let ok ← isTrue c env (eval c env); pure (ForInStep.yield ok) else pure (ForInStep.yield r)
section
variable {prog : Program} {w : World} {A : Around} {E : Value → Shared → Prop} {R : Result → Shared → Prop} {s : Shared}
theorem compLoop_gen {elt target iter : Expr} {ifs : List Expr} {scope : Scope} {pos : Pos} {it acc : Value} {env : Env} (I : Nat → Shared → Prop)
    (turn : ∀ n s, I n s → wpAny (model prog w) A (pyNext it) (fun r s₁ => match r with
      | none => R (.ok .next) s₁
      | some v => wpAny (model prog w) A (letOwnedTupleGo target it v) (fun _ s₁' => wpAny (model prog w) A (assign target env v) (fun _ s₂ =>
          wpAny (model prog w) A (testsOf ifs env) (fun ok s₃ =>
            if ok = true then wpAny (model prog w) A (eval elt env) (fun x s₄ =>
              wpAny (model prog w) A (call (.builtin "list.append") [acc, x]) (fun _ s₅ => ∃ m, m < n ∧ I m s₅) (notedBy (model prog w) A env fun e s' => R (.error e) s') s₄) (notedBy (model prog w) A env fun e s' => R (.error e) s') s₃
            else ∃ m, m < n ∧ I m s₃) (notedBy (model prog w) A env fun e s' => R (.error e) s') s₂) (notedBy (model prog w) A env fun e s' => R (.error e) s') s₁') (notedBy (model prog w) A env fun e s' => R (.error e) s') s₁) (notedBy (model prog w) A env fun e s' => R (.error e) s') s)
    (n : Nat) (h : I n s) :
    codeAny (model prog w) A (.compLoop (.ListComp elt [⟨target, iter, ifs, 0⟩] scope pos) 0 it acc env) R s := by
  refine codeAny_loop rfl I (fun n s hI => ?_) n h
  show wpAny _ A ((compTurn (.ListComp elt [⟨target, iter, ifs, 0⟩] scope pos) 0 it acc env).onRaise (fun x => do noteFrame x env; theTreesLotGoes x)) _ _ s
  refine wpAny_noted ?_
  rw [compTurn_list]
  refine wpAny_bind (wpAny_standAt (wpAny_bind (wpAny_mono (turn n s hI) (fun r s₁ h₁ => ?_) fun _ _ h' => h')))
  cases r with
  | none => exact wpAny_pure h₁
  | some v =>
    refine wpAny_bind (wpAny_mono h₁ (fun _ s₁' h₁' => ?_) fun _ _ h' => h')
    refine wpAny_bind (wpAny_mono h₁' (fun _ s₂ h₂ => wpAny_bind (wpAny_mono h₂ (fun ok s₃ h₃ => ?_) fun _ _ h' => h')) fun _ _ h' => h')
    cases ok with
    | false => exact wpAny_pure ⟨rfl, h₃⟩
    | true =>
      exact wpAny_bind (wpAny_bind (wpAny_mono h₃ (fun x s₄ h₄ => wpAny_bind (wpAny_mono h₄ (fun _ s₅ h₅ => wpAny_pure (wpAny_pure ⟨rfl, h₅⟩)) fun _ _ h' => h')) fun _ _ h' => h'))
end

/-- a source that a comprehension walks: n items -/
structure Src (prog : Program) (w : World) (A : Around) (I : Addr) (fp wr : List Addr) (n : Nat) (target : Expr) (V : Nat → Value → Heap → Prop) (St : Nat → Heap → Prop) : Prop where
  sub : ∀ b ∈ wr, b ∈ fp
  frame : ∀ i h h', St i h → (∀ b ∈ fp, ∀ o, h.get? b = some o → h'.get? b = some o) → St i h'
  item : ∀ i (s : Shared) (K : Value → Shared → Prop) (E : Value → Shared → Prop), i < n → St i s.heap →
    (∀ v h' tk, V i v h' → St (i + 1) h' → KB wr s.heap h' → K v { s with heap := h', toks := tk }) →
    wpAny (model prog w) A (pyNext (.ref I)) (fun r s₁ => match r with
      | none => False
      | some v => wpAny (model prog w) A (letOwnedTupleGo target (.ref I) v) (fun _ s₂ => K v s₂) E s₁) E s
  done : ∀ (s : Shared) (Q : Option Value → Shared → Prop) (E : Value → Shared → Prop), St n s.heap →
    (∀ h' tk, KB wr s.heap h' → Q none { s with heap := h', toks := tk }) → wpAny (model prog w) A (pyNext (.ref I)) Q E s
  self : ∀ i (s : Shared) (Q : Value → Shared → Prop) (E : Value → Shared → Prop), St i s.heap → Q (.ref I) s → wpAny (model prog w) A (pyIter (.ref I)) Q E s

theorem Src.ofWalks {prog : Program} {w : World} {A : Around} {I : Addr} {fp wr : List Addr} {n : Nat} {P : Nat → Value → Prop} {St : Nat → Heap → Prop} (W : Walks prog w A I fp wr n P St) (x : Str) (px : Pos) :
    Src prog w A I fp wr n (.Name x px) (fun i v _ => P i v) St where
  sub := W.sub
  frame := W.frame
  item := fun i s K E hi st hK => W.item i s _ E hi st fun v h' tk hP hst hk => wpAny_pure (hK v h' tk hP hst fun b o hb e => hk b o hb e)
  done := fun s Q E st hQ => W.done s Q E st fun h' tk hk => hQ h' tk fun b o hb e => hk b o hb e
  self := W.self
theorem Src.ofWalksU {prog : Program} {w : World} {A : Around} {I : Addr} {fp wr : List Addr} {n : Nat} {Pt : Nat → Array Value → Prop} {St : Nat → Heap → Prop} {Mid : Nat → Addr → Heap → Prop} (W : WalksU prog w A I fp wr n Pt St Mid) (elts : List Expr) (k : Nat) (pos : Pos) :
    Src prog w A I fp wr n (.Tuple elts k pos) (fun i v h => ∃ T vals, v = .ref T ∧ Pt i vals ∧ h.IsTuple T vals) St where
  sub := W.sub
  frame := W.frame
  item := fun i s K E hi st hK => W.item i s _ E hi st fun T vals h' tk hP hT hm hk => W.go elts k pos i T _ _ _ hm fun h'' hst' hk' =>
    hK (.ref T) h'' tk ⟨T, vals, rfl, hP, hT.at fun o e => hk' _ o (W.apart _ _ _ hm) e⟩ hst' fun b o hb e => hk' b o hb (hk b o hb e)
  done := fun s Q E st hQ => W.done s Q E st fun h' tk hk => hQ h' tk fun b o hb e => hk b o hb e
  self := W.self

/-- what a turn hands back -/
noncomputable def ElemOut (C : Addr) (oc all : List Addr) (OC : Heap → Prop) (h₂ : Heap) (s₃ : Shared) (F : Value → Heap → Prop) (y : Value) (s₆ : Shared) : Prop :=
  ∃ h' tk m', s₆ = { s₃ with heap := h', toks := tk } ∧ h'.Ns C m' ∧ OC h' ∧ KB (C :: oc) s₃.heap h' ∧
    ∀ h'', KB all h₂ h'' → (∀ b o, s₃.heap.get? b = none → h'.get? b = some o → h''.get? b = some o) → F y h''
noncomputable def NoOut (C : Addr) (oc : List Addr) (OC : Heap → Prop) (s₃ s₅ : Shared) : Prop :=
  ∃ h' tk m', s₅ = { s₃ with heap := h', toks := tk } ∧ h'.Ns C m' ∧ OC h' ∧ KB (C :: oc) s₃.heap h'

/-- the values in their order -/
inductive Vals (p : Nat → Bool) (F : Nat → Value → Heap → Prop) (h : Heap) : Nat → List Value → Prop
  | nil : Vals p F h 0 []
  | yes {i : Nat} {ys : List Value} {y : Value} : Vals p F h i ys → p i = true → F i y h → Vals p F h (i + 1) (ys ++ [y])
  | no {i : Nat} {ys : List Value} : Vals p F h i ys → p i = false → Vals p F h (i + 1) ys
theorem Vals.len {p : Nat → Bool} {F : Nat → Value → Heap → Prop} {h : Heap} {n : Nat} {ys : List Value} (x : Vals p F h n ys) : ys.length ≤ n := by
  induction x with
  | nil => exact Nat.le_refl _
  | yes _ _ _ ih => rw [List.length_append, List.length_singleton]; omega
  | no _ _ ih => omega

noncomputable def ElemOutT (C : Addr) (oc all : List Addr) (OC : Heap → Prop) (h₂ : Heap) (s₃ : Shared) (F : Value → Heap → Nat → Prop) (y : Value) (s₆ : Shared) : Prop :=
  ∃ h' tk m', s₆ = { s₃ with heap := h', toks := tk } ∧ h'.Ns C m' ∧ OC h' ∧ KB (C :: oc) s₃.heap h' ∧
    s₃.toks ≤ tk ∧ ∀ h'' T, tk ≤ T → KB all h₂ h'' → (∀ b o, s₃.heap.get? b = none → h'.get? b = some o → h''.get? b = some o) → F y h'' T
noncomputable def NoOutT (C : Addr) (oc : List Addr) (OC : Heap → Prop) (s₃ s₅ : Shared) : Prop :=
  ∃ h' tk m', s₅ = { s₃ with heap := h', toks := tk } ∧ h'.Ns C m' ∧ OC h' ∧ KB (C :: oc) s₃.heap h' ∧ s₃.toks ≤ tk

section
variable {prog : Program} {w : World} {A : Around} {E : Value → Shared → Prop} {R : Result → Shared → Prop} {s : Shared}
inductive CInvT (C D : Addr) (oc wr : List Addr) (OC : Heap → Prop) (h₂ : Heap) (St : Nat → Heap → Prop) (p : Nat → Bool) (F : Nat → Value → Heap → Nat → Prop) (n : Nat) (s : Shared) (k : Nat) (s' : Shared) : Prop
  | mk (h' : Heap) (tk : Nat) (m' : Str → Option Value) (ys : Array Value) (i : Nat) (es : s' = { s with heap := h', toks := tk }) (st : St i h') (pl : h'.PlainList D ys) (ns : h'.Ns C m') (oc' : OC h')
      (vs : ∀ h'' T, tk ≤ T → KB (D :: C :: (oc ++ wr)) h₂ h'' → KB (D :: C :: (oc ++ wr)) h' h'' → Vals p (fun i y h => F i y h T) h'' i ys.toList) (hi : i ≤ n) (hk : k = n + 1 - i) (kb : KB (D :: C :: (oc ++ wr)) h₂ h') (ht : s.toks ≤ tk) : CInvT C D oc wr OC h₂ St p F n s k s'
theorem comp_loopT {elt target iter : Expr} {ifs : List Expr} {scope : Scope} {pos : Pos} {I D : Addr} {fp wr oc : List Addr} {n : Nat} {V : Nat → Value → Heap → Prop} {St : Nat → Heap → Prop} {cenv : Env} {m : Str → Option Value} {h₂ : Heap} (OC : Heap → Prop)
    (S : Src prog w A I fp wr n target V St) (hsz : n ≤ sizeLine) (p : Nat → Bool) (F : Nat → Value → Heap → Nat → Prop)
    (hoc : ∀ h h', OC h → (∀ b ∈ oc, ∀ o, h.get? b = some o → h'.get? b = some o) → OC h')
    (hDC : D ≠ cenv.locals) (hDf : D ∉ fp) (hCf : cenv.locals ∉ fp) (hDo : D ∉ oc) (hof : ∀ b ∈ oc, b ∉ fp)
    (hlive : ∀ i h, St i h → ∀ b ∈ wr, ∃ o, h.get? b = some o) (holive : ∀ h, OC h → ∀ b ∈ oc, ∃ o, h.get? b = some o)
    (h2s : KB (D :: cenv.locals :: (oc ++ wr)) h₂ s.heap)
    (hst : St 0 s.heap) (hacc : s.heap.PlainList D #[]) (hn : s.heap.Ns cenv.locals m) (hOC : OC s.heap)
    (turn : ∀ i v (s₃ : Shared) (m : Str → Option Value) (E' : Value → Shared → Prop), i < n → V i v s₃.heap → s₃.heap.Ns cenv.locals m → OC s₃.heap → KB (D :: cenv.locals :: (oc ++ wr)) h₂ s₃.heap → s.toks ≤ s₃.toks → (∃ h tk, s₃ = { s with heap := h, toks := tk }) →
      wpAny (model prog w) A (assign target cenv v) (fun _ s₄ => wpAny (model prog w) A (testsOf ifs cenv) (fun ok s₅ =>
        if ok = true then wpAny (model prog w) A (eval elt cenv) (fun y s₆ => p i = true ∧ ElemOutT cenv.locals oc (D :: cenv.locals :: (oc ++ wr)) OC h₂ s₃ (F i) y s₆) E' s₅ else p i = false ∧ NoOutT cenv.locals oc OC s₃ s₅) E' s₄) E' s₃)
    (hR : ∀ h' tk m' ys, h'.Ns cenv.locals m' → OC h' → h'.PlainList D ys → (∀ h'', KB (D :: cenv.locals :: (oc ++ wr)) h₂ h'' → KB (D :: cenv.locals :: (oc ++ wr)) h' h'' → Vals p (fun i y h => F i y h tk) h'' n ys.toList) → KB (D :: cenv.locals :: (oc ++ wr)) h₂ h' → s.toks ≤ tk → R (.ok .next) { s with heap := h', toks := tk }) :
    codeAny (model prog w) A (.compLoop (.ListComp elt [⟨target, iter, ifs, 0⟩] scope pos) 0 (.ref I) (.ref D) cenv) R s := by
  have hCw : cenv.locals ∉ wr := fun h => hCf (S.sub _ h)
  have hDw : D ∉ wr := fun h => hDf (S.sub _ h)
  have how : ∀ b ∈ oc, b ∉ wr := fun b hb h => hof b hb (S.sub _ h)
  have wrM : ∀ b ∈ wr, b ∈ D :: cenv.locals :: (oc ++ wr) := fun b hb => List.mem_cons_of_mem _ (List.mem_cons_of_mem _ (List.mem_append_right _ hb))
  have coM : ∀ b ∈ cenv.locals :: oc, b ∈ D :: cenv.locals :: (oc ++ wr) := fun b hb => by
    rcases List.mem_cons.mp hb with rfl | hb
    · exact List.mem_cons_of_mem _ List.mem_cons_self
    · exact List.mem_cons_of_mem _ (List.mem_cons_of_mem _ (List.mem_append_left _ hb))
  refine compLoop_gen (CInvT cenv.locals D oc wr OC h₂ St p F n s) ?_ (n + 1)
    ⟨s.heap, s.toks, m, #[], 0, rfl, hst, hacc, hn, hOC, fun _ _ _ _ _ => Vals.nil, Nat.zero_le _, rfl, h2s, Nat.le_refl _⟩
  rintro k s' ⟨H, tk, m', ys, i, rfl, hst', hacc', hn', hOC', hF, hi, rfl, hk, htk⟩
  by_cases hlt : i < n
  · refine wpAny_mono (wpAny_toks_of (n := tk) (Nat.le_refl _) (S.item i _ (fun v s₃ => tk ≤ s₃.toks → wpAny (model prog w) A (assign target cenv v) (fun _ s₂ =>
          wpAny (model prog w) A (testsOf ifs cenv) (fun ok s₃ =>
            if ok = true then wpAny (model prog w) A (eval elt cenv) (fun x s₄ =>
              wpAny (model prog w) A (call (.builtin "list.append") [.ref D, x]) (fun _ s₅ => ∃ m, m < n + 1 - i ∧ CInvT cenv.locals D oc wr OC h₂ St p F n s m s₅) (notedBy (model prog w) A cenv fun e s' => R (.error e) s') s₄) (notedBy (model prog w) A cenv fun e s' => R (.error e) s') s₃
            else ∃ m, m < n + 1 - i ∧ CInvT cenv.locals D oc wr OC h₂ St p F n s m s₃) (notedBy (model prog w) A cenv fun e s' => R (.error e) s') s₂) (notedBy (model prog w) A cenv fun e s' => R (.error e) s') s₃) (notedBy (model prog w) A cenv fun e s' => R (.error e) s') hlt hst' ?_)) ?_ fun _ _ e => e.2
    · intro v h₃ tk₃ hV hst₃ hk₃ htk₃0
      have htk₃ : s.toks ≤ tk₃ := Nat.le_trans htk htk₃0
      have hn₃ : h₃.Ns cenv.locals m' := hn'.at' fun o e => hk₃ _ o hCw e
      have hOC₃ : OC h₃ := hoc _ _ hOC' fun b hb o e => hk₃ b o (how b hb) e
      have hkk : KB (D :: cenv.locals :: (oc ++ wr)) H h₃ := KB.mono hk₃ wrM
      have hD₃ : h₃.PlainList D ys := hacc'.at fun o e => hk₃ _ o hDw e
      refine wpAny_mono (wpAny_toks_of (n := s.toks) htk₃ (turn i v _ m' _ hlt hV hn₃ hOC₃ (hk.trans hkk) htk₃ ⟨_, _, rfl⟩)) (fun _ s₄ h₄ => ?_) fun _ _ e => e.2
      refine wpAny_mono (wpAny_toks_of (n := s.toks) h₄.1 h₄.2) (fun ok s₅ h₅ => ?_) fun _ _ e => e.2
      cases ok with
      | false =>
        simp only [Bool.false_eq_true, if_false] at h₅ ⊢
        refine hide fun G9 bk9 => ?_
        obtain ⟨ht₅, hp, h', tk', m₅, rfl, hn₅, hOC₅, hk₅, ht35⟩ := h₅
        refine bk9 ?_
        clear bk9 G9
        have ht05 : tk ≤ tk' := Nat.le_trans htk₃0 ht35
        have hkk₅ : KB (D :: cenv.locals :: (oc ++ wr)) h₃ h' := KB.mono hk₅ coM
        refine ⟨n + 1 - (i + 1), slt hlt, h', tk', m₅, ys, i + 1, rfl, ?_, ?_, hn₅, hOC₅, fun h'' T t a b => Vals.no (hF h'' T (Nat.le_trans ht05 t) a ((hkk.trans hkk₅).trans b)) hp, hlt, rfl, (hk.trans hkk).trans hkk₅, ht₅⟩
        · exact S.frame _ _ _ hst₃ fun b hb o e => hk₅ b o (fun q => by
            rcases List.mem_cons.mp q with rfl | q
            · exact hCf hb
            · exact hof b q hb) e
        · exact hD₃.at fun o e => hk₅ _ o (fun q => by
            rcases List.mem_cons.mp q with q | q
            · exact hDC q
            · exact hDo q) e
      | true =>
        simp only [if_true] at h₅ ⊢
        refine wpAny_mono (wpAny_toks_of (n := s.toks) h₅.1 h₅.2) (fun y s₆ h₆ => ?_) fun _ _ e => e.2
        refine hide fun G9 bk9 => ?_
        obtain ⟨ht₆, hp, h', tk', m₆, rfl, hn₆, hOC₆, hk₆, ht36, hFy⟩ := h₆
        refine bk9 ?_
        clear bk9 G9
        have ht06 : tk ≤ tk' := Nat.le_trans htk₃0 ht36
        have hkk₆ : KB (D :: cenv.locals :: (oc ++ wr)) h₃ h' := KB.mono hk₆ coM
        have hst₆ : St (i + 1) h' := S.frame _ _ _ hst₃ fun b hb o e => hk₆ b o (fun q => by
            rcases List.mem_cons.mp q with rfl | q
            · exact hCf hb
            · exact hof b q hb) e
        have hD₆ : h'.PlainList D ys := hD₃.at fun o e => hk₆ _ o (fun q => by
            rcases List.mem_cons.mp q with q | q
            · exact hDC q
            · exact hDo q) e
        have hys : ys.size ≤ sizeLine := by
          have := (hF H tk (Nat.le_refl _) (hk) (KB.refl _ _)).len
          have e4 : ys.toList.length = ys.size := by simp
          omega
        refine wpAny_list_append_plain (hsz := hys) hD₆ fun h₅ hl₅ hs₅ => ?_
        have hk5 : KB [D] h' h₅ := fun b o hb e => hs₅.extBut b o (fun q => hb (by rw [q]; exact List.mem_singleton.mpr rfl)) e
        have hkk5 : KB (D :: cenv.locals :: (oc ++ wr)) h' h₅ := KB.mono hk5 fun b hb => by rw [List.mem_singleton.mp hb]; exact List.mem_cons_self
        refine ⟨n + 1 - (i + 1), slt hlt, h₅, tk', m₆, ys.push y, i + 1, rfl, ?_, hl₅, hn₆.sameBut hs₅ (Ne.symm hDC), ?_, fun h'' T t a b => ?_, hlt, rfl, ((hk.trans hkk).trans hkk₆).trans hkk5, ht₆⟩
        · exact S.frame _ _ _ hst₆ fun b hb o e => hk5 b o (fun q => hDf (by rw [← List.mem_singleton.mp q]; exact hb)) e
        · exact hoc _ _ hOC₆ fun b hb o e => hk5 b o (fun q => hDo (by rw [← List.mem_singleton.mp q]; exact hb)) e
        · rw [Array.toList_push]
          refine Vals.yes (hF h'' T (Nat.le_trans ht06 t) a (((hkk.trans hkk₆).trans hkk5).trans b)) hp (hFy h'' T t a fun c o e1 e2 => ?_)
          have hc : c ∉ D :: cenv.locals :: (oc ++ wr) := fun q => by
            rcases List.mem_cons.mp q with rfl | q
            · obtain ⟨_, ho⟩ := hD₃; rw [ho] at e1; cases e1
            · rcases List.mem_cons.mp q with rfl | q
              · obtain ⟨_, _, _, ho, _⟩ := hn₃; rw [ho] at e1; cases e1
              · rcases List.mem_append.mp q with q | q
                · obtain ⟨_, ho⟩ := holive _ hOC₃ c q; rw [ho] at e1; cases e1
                · obtain ⟨_, ho⟩ := hlive _ _ hst₃ c q; rw [ho] at e1; cases e1
          exact b c o hc (hkk5 c o hc e2)
    · intro r s₁ h₁
      obtain ⟨ht₁, h₁⟩ := h₁
      cases r with
      | none => exact h₁.elim
      | some v => exact wpAny_with_toks ht₁ (wpAny_mono h₁ (fun _ _ x => x) fun _ _ x _ => x)
  · obtain rfl : n = i := Nat.le_antisymm (Nat.not_lt.mp hlt) hi
    refine wpAny_with_toks (n := tk) (Nat.le_refl _) (S.done _ _ _ hst' fun h₁ tk₁ hk₁ htk₁0 => ?_)
    have hkk : KB (D :: cenv.locals :: (oc ++ wr)) H h₁ := KB.mono hk₁ wrM
    exact hR h₁ tk₁ m' ys (hn'.at' fun o e => hk₁ _ o hCw e) (hoc _ _ hOC' fun b hb o e => hk₁ b o (how b hb) e) (hacc'.at fun o e => hk₁ _ o hDw e) (fun h'' a b => hF h'' tk₁ htk₁0 a (hkk.trans b)) (hk.trans hkk) (Nat.le_trans htk htk₁0)
theorem comp_loop {elt target iter : Expr} {ifs : List Expr} {scope : Scope} {pos : Pos} {I D : Addr} {fp wr oc : List Addr} {n : Nat} {V : Nat → Value → Heap → Prop} {St : Nat → Heap → Prop} {cenv : Env} {m : Str → Option Value} {h₂ : Heap} (OC : Heap → Prop)
    (S : Src prog w A I fp wr n target V St) (hsz : n ≤ sizeLine) (p : Nat → Bool) (F : Nat → Value → Heap → Prop)
    (hoc : ∀ h h', OC h → (∀ b ∈ oc, ∀ o, h.get? b = some o → h'.get? b = some o) → OC h')
    (hDC : D ≠ cenv.locals) (hDf : D ∉ fp) (hCf : cenv.locals ∉ fp) (hDo : D ∉ oc) (hof : ∀ b ∈ oc, b ∉ fp)
    (hlive : ∀ i h, St i h → ∀ b ∈ wr, ∃ o, h.get? b = some o) (holive : ∀ h, OC h → ∀ b ∈ oc, ∃ o, h.get? b = some o)
    (h2s : KB (D :: cenv.locals :: (oc ++ wr)) h₂ s.heap)
    (hst : St 0 s.heap) (hacc : s.heap.PlainList D #[]) (hn : s.heap.Ns cenv.locals m) (hOC : OC s.heap)
    (turn : ∀ i v (s₃ : Shared) (m : Str → Option Value) (E' : Value → Shared → Prop), i < n → V i v s₃.heap → s₃.heap.Ns cenv.locals m → OC s₃.heap → KB (D :: cenv.locals :: (oc ++ wr)) h₂ s₃.heap → s.toks ≤ s₃.toks → (∃ h tk, s₃ = { s with heap := h, toks := tk }) →
      wpAny (model prog w) A (assign target cenv v) (fun _ s₄ => wpAny (model prog w) A (testsOf ifs cenv) (fun ok s₅ =>
        if ok = true then wpAny (model prog w) A (eval elt cenv) (fun y s₆ => p i = true ∧ ElemOut cenv.locals oc (D :: cenv.locals :: (oc ++ wr)) OC h₂ s₃ (F i) y s₆) E' s₅ else p i = false ∧ NoOut cenv.locals oc OC s₃ s₅) E' s₄) E' s₃)
    (hR : ∀ h' tk m' ys, h'.Ns cenv.locals m' → OC h' → h'.PlainList D ys → (∀ h'', KB (D :: cenv.locals :: (oc ++ wr)) h₂ h'' → KB (D :: cenv.locals :: (oc ++ wr)) h' h'' → Vals p F h'' n ys.toList) → KB (D :: cenv.locals :: (oc ++ wr)) h₂ h' → s.toks ≤ tk → R (.ok .next) { s with heap := h', toks := tk }) :
    codeAny (model prog w) A (.compLoop (.ListComp elt [⟨target, iter, ifs, 0⟩] scope pos) 0 (.ref I) (.ref D) cenv) R s := by
  refine comp_loopT (h₂ := h₂) OC S hsz p (fun i y h _ => F i y h) hoc hDC hDf hCf hDo hof hlive holive h2s hst hacc hn hOC (fun i v s₃ m E' hi hV hn3 hO hk htk hs => ?_) hR
  refine wpAny_with_toks (n := s₃.toks) (Nat.le_refl _) (wpAny_mono (turn i v s₃ m E' hi hV hn3 hO hk htk hs) (fun _ s₄ h₄ ht₄ => wpAny_with_toks ht₄ (wpAny_mono h₄ (fun ok s₅ h₅ ht₅ => ?_) fun _ _ e _ => e)) fun _ _ e _ => e)
  cases ok with
  | false =>
    simp only [Bool.false_eq_true, if_false] at h₅ ⊢
    refine hide fun G9 bk9 => ?_
    obtain ⟨hp, h', tk, m', rfl, a, b, c⟩ := h₅
    refine bk9 ?_
    clear bk9 G9
    exact ⟨hp, h', tk, m', rfl, a, b, c, ht₅⟩
  | true =>
    simp only [if_true] at h₅ ⊢
    refine wpAny_with_toks ht₅ (wpAny_mono h₅ (fun y s₆ h₆ ht₆ => ?_) fun _ _ e _ => e)
    refine hide fun G9 bk9 => ?_
    obtain ⟨hp, h', tk, m', rfl, a, b, c, d⟩ := h₆
    refine bk9 ?_
    clear bk9 G9
    exact ⟨hp, h', tk, m', rfl, a, b, c, ht₆, fun h'' T _ => d h''⟩
end
end
section
noncomputable def EOut (C : Addr) (wr : List Addr) (h₂ : Heap) (s₃ : Shared) (F : Value → Heap → Prop) (y : Value) (s₆ : Shared) : Prop :=
  ∃ h' tk m', s₆ = { s₃ with heap := h', toks := tk } ∧ h'.Ns C m' ∧ KB [C] s₃.heap h' ∧
    ∀ h'', KB wr h₂ h'' → (∀ b o, s₃.heap.get? b = none → h'.get? b = some o → h''.get? b = some o) → F y h''
noncomputable def NOut (C : Addr) (s₃ s₅ : Shared) : Prop := ∃ h' tk m', s₅ = { s₃ with heap := h', toks := tk } ∧ h'.Ns C m' ∧ KB [C] s₃.heap h'
/-- the turns of a comprehension -/
noncomputable def Turns (prog : Program) (w : World) (A : Around) (elt target : Expr) (ifs : List Expr) (scope : Scope) (cl : List (Str × Addr)) (env : Env) (wr : List Addr) (n : Nat) (V : Nat → Value → Heap → Prop) (p : Nat → Bool) (F : Nat → Value → Heap → Prop) (s₂ : Shared) : Prop :=
  ∀ C i v (h₃ : Heap) (tk₃ : Nat) (m : Str → Option Value) (E' : Value → Shared → Prop), s₂.heap.objs.size ≤ C → i < n → V i v h₃ → h₃.Ns C m → KB wr s₂.heap h₃ → s₂.toks ≤ tk₃ →
      wpAny (model prog w) A (assign target (compEnvC scope cl C env) v) (fun _ s₄ => wpAny (model prog w) A (testsOf ifs (compEnvC scope cl C env)) (fun ok s₅ =>
        if ok = true then wpAny (model prog w) A (eval elt (compEnvC scope cl C env)) (fun y s₆ => p i = true ∧ EOut C wr s₂.heap { s₂ with heap := h₃, toks := tk₃ } (F i) y s₆) E' s₅ else p i = false ∧ NOut C { s₂ with heap := h₃, toks := tk₃ } s₅) E' s₄) E' { s₂ with heap := h₃, toks := tk₃ }

section
variable {prog : Program} {w : World} {A : Around} {E : Value → Shared → Prop} {env : Env}
theorem comp_blockG {elt target iter : Expr} {ifs : List Expr} {scope : Scope} {cl : List (Str × Addr)} {pos : Pos} {s₂ : Shared} {I : Addr} {fp wr : List Addr} {n : Nat} {V : Nat → Value → Heap → Prop} {St : Nat → Heap → Prop}
    (S : Src prog w A I fp wr n target V St) (hsz : n ≤ sizeLine) (p : Nat → Bool) (F : Nat → Value → Heap → Prop) {RR : Value → Addr → Result → Shared → Prop}
    (hlive : ∀ i h, St i h → ∀ b ∈ wr, ∃ o, h.get? b = some o)
    (hcell : ∀ y ∈ scope.names, y.2 ≠ .cell) (hkind : scope.kind = .function) (hst : St 0 s₂.heap) (hfp : ∀ b ∈ fp, b < s₂.heap.objs.size)
    (turn : Turns prog w A elt target ifs scope cl env wr n V p F s₂)
    (hRR : ∀ (D C : Addr) h' tk m' ys, s₂.heap.objs.size ≤ D → s₂.heap.get? C = none → D ≠ C → h'.Ns C m' → h'.PlainList D ys → (∀ h'', KB wr s₂.heap h'' → KB (D :: C :: wr) h' h'' → Vals p F h'' n ys.toList) → KB wr s₂.heap h' → s₂.toks ≤ tk → RR (.ref D) C (.ok .next) { s₂ with heap := h', toks := tk }) :
    wpAny (model prog w) A (newList []) (fun acc s₃ => wpAny (model prog w) A (newFunctionEnv scope env.globals cl [] env.qual none .none (some env)) (fun cenv s₄ =>
      codeAny (model prog w) A (.compStart (.ListComp elt [⟨target, iter, ifs, 0⟩] scope pos) 0 (.ref I) acc { cenv with scope := relabel scope env }) (RR acc cenv.locals) s₄) E s₃) E s₂ := by
  refine wpAny_newObj_type (wpAny_newFunctionEnv hcell (by intro y hy; simp at hy) (fun h₁ hns₁ hsb₁ => ?_) hkind)
  dsimp only at hns₁ hsb₁ ⊢
  generalize hH2 : s₂.heap.push { cls := .type "list", dict := none, data := .seq ([] : List Value).toArray } = H2 at hns₁ hsb₁ ⊢
  have hC : H2.objs.size = s₂.heap.objs.size + 1 := by rw [← hH2, Heap.size_push]
  have hDC : s₂.heap.objs.size ≠ H2.objs.size := by rw [hC]; exact Nat.ne_of_lt (Nat.lt_succ_self _)
  have hCle : s₂.heap.objs.size ≤ H2.objs.size := by rw [hC]; exact Nat.le_succ _
  have below : ∀ b, b < s₂.heap.objs.size → b ≠ H2.objs.size ∧ b ≠ s₂.heap.objs.size := fun b hb => ⟨by rw [hC]; exact Nat.ne_of_lt (Nat.lt_succ_of_lt hb), Nat.ne_of_lt hb⟩
  have hDf : s₂.heap.objs.size ∉ fp := fun hm => Nat.lt_irrefl _ (hfp _ hm)
  have hCf : H2.objs.size ∉ fp := fun hm => by have := hfp _ hm; rw [hC] at this; exact Nat.lt_irrefl _ (Nat.lt_of_succ_lt this)
  have old : ∀ b o, s₂.heap.get? b = some o → h₁.get? b = some o := fun b o e => hsb₁.extBut b o (below b (Heap.lt_size e)).1 (Heap.get?_push_of_some _ (hH2 ▸ Heap.get?_push_of_some _ e))
  have hacc : h₁.PlainList s₂.heap.objs.size #[] := ⟨_, hsb₁.extBut _ _ hDC (Heap.get?_push_of_some _ (hH2 ▸ Heap.get?_push_size _ rfl))⟩
  have hst₁ : St 0 h₁ := S.frame _ _ _ hst fun b _ o e => old b o e
  have fresh : ∀ a, s₂.heap.objs.size ≤ a → s₂.heap.get? a = none := fun a ha => by
    cases e : s₂.heap.get? a with
    | none => rfl
    | some o' => exact absurd (Heap.lt_size e) (Nat.not_lt.mpr ha)
  have toWr : ∀ h', KB (s₂.heap.objs.size :: H2.objs.size :: ([] ++ wr)) s₂.heap h' → KB wr s₂.heap h' := fun h' k b o hb e => k b o (fun q => by
    rcases List.mem_cons.mp q with rfl | q
    · exact (below _ (Heap.lt_size e)).2 rfl
    · rcases List.mem_cons.mp q with rfl | q
      · exact (below _ (Heap.lt_size e)).1 rfl
      · exact hb (by simpa using q)) e
  have loop : ∀ s₃ : Shared, s₃ = { s₂ with heap := h₁, toks := s₂.toks + ([] : List (Str × Value)).length } →
      codeAny (model prog w) A (.compLoop (.ListComp elt [⟨target, iter, ifs, 0⟩] scope pos) 0 (.ref I) (.ref s₂.heap.objs.size) (compEnvC scope cl H2.objs.size env))
        (RR (.ref s₂.heap.objs.size) H2.objs.size) s₃ := by
    rintro s₃ rfl
    refine comp_loop (h₂ := s₂.heap) (oc := []) (cenv := compEnvC scope cl H2.objs.size env) (fun _ => True) S hsz p F (fun _ _ _ _ => trivial) hDC hDf hCf (by simp) (by simp) hlive (by simp) (KB.grow old) hst₁ hacc hns₁ trivial ?_ ?_
    · intro i v s₃ m E' hi hV hn _ hk htk hs
      refine hide fun G9 bk9 => ?_
      obtain ⟨h₃, tk₃, rfl⟩ := hs
      refine bk9 ?_
      clear bk9 G9
      refine wpAny_mono (turn H2.objs.size i v h₃ tk₃ m E' hCle hi hV hn (toWr _ hk) htk) (fun _ s₄ h₄ => wpAny_mono h₄ (fun ok s₅ h₅ => ?_) fun _ _ e => e) fun _ _ e => e
      cases ok with
      | false =>
        simp only [Bool.false_eq_true, if_false] at h₅ ⊢
        refine hide fun G9 bk9 => ?_
        obtain ⟨hp, h', tk, m', e, hn', hk'⟩ := h₅
        refine bk9 ?_
        clear bk9 G9
        exact ⟨hp, h', tk, m', e, hn', trivial, hk'⟩
      | true =>
        simp only [if_true] at h₅ ⊢
        refine wpAny_mono h₅ (fun y s₆ h₆ => ?_) fun _ _ e => e
        refine hide fun G9 bk9 => ?_
        obtain ⟨hp, h', tk, m', e, hn', hk', hF⟩ := h₆
        refine bk9 ?_
        clear bk9 G9
        exact ⟨hp, h', tk, m', e, hn', trivial, hk', fun h'' a b => hF h'' (toWr _ a) b⟩
    · intro h' tk m' ys hn _ hl hv hk htk
      exact hRR _ _ h' tk m' ys (Nat.le_refl _) (fresh _ (by rw [hC]; exact Nat.le_succ _)) hDC hn hl (fun h'' a b => hv h'' (KB.mono a fun b hb => List.mem_cons_of_mem _ (List.mem_cons_of_mem _ (by simpa using hb))) (KB.mono b fun b hb => by show b ∈ s₂.heap.objs.size :: H2.objs.size :: ([] ++ wr); simpa using hb)) (toWr _ hk) htk
  exact codeAny_compStart_list (loop _ rfl) (S.self 0 _ _ _ hst₁ (loop _ rfl))

/-- what the iterable hands to the block -/
noncomputable def SrcIt (prog : Program) (w : World) (A : Around) (elt target : Expr) (ifs : List Expr) (scope : Scope) (cl : List (Str × Addr)) (env : Env) (Fin : List Addr → Nat → (Nat → Bool) → (Nat → Value → Heap → Prop) → Shared → Prop) (it : Value) (s₂ : Shared) : Prop :=
  ∃ I fp wr n V St p F, it = .ref I ∧ Src prog w A I fp wr n target V St ∧ n ≤ sizeLine ∧ (∀ i h, St i h → ∀ b ∈ wr, ∃ o, h.get? b = some o) ∧ St 0 s₂.heap ∧ (∀ b ∈ fp, b < s₂.heap.objs.size) ∧
    Turns prog w A elt target ifs scope cl env wr n V p F s₂ ∧ Fin wr n p F s₂
noncomputable def FinEv (Q : Value → Shared → Prop) (wr : List Addr) (n : Nat) (p : Nat → Bool) (F : Nat → Value → Heap → Prop) (s₂ : Shared) : Prop :=
  ∀ (D : Addr) h' tk ys, s₂.heap.objs.size ≤ D → h'.PlainList D ys → Vals p F h' n ys.toList → KB wr s₂.heap h' → s₂.toks ≤ tk → Q (.ref D) { s₂ with heap := h', toks := tk }
theorem Vals.move {p : Nat → Bool} {F F' : Nat → Value → Heap → Prop} {h h' : Heap} (k : ∀ i y, F i y h → F' i y h') : ∀ {n : Nat} {ys : List Value}, Vals p F h n ys → Vals p F' h' n ys
  | _, _, .nil => .nil
  | _, _, .yes x hp hf => .yes (x.move k) hp (k _ _ hf)
  | _, _, .no x hp => .no (x.move k) hp
theorem comp_eval {s : Shared} {elt target iter : Expr} {ifs : List Expr} {scope : Scope} {cl : List (Str × Addr)} {pos : Pos} {Q : Value → Shared → Prop}
    (hclos : closureFor scope env = pure cl) (hcell : ∀ y ∈ scope.names, y.2 ≠ .cell) (hkind : scope.kind = .function) (hnames : ∀ y ∈ scope.names, y.2 = .local → scope.names.lookup y.1 = some .local)
    (h : wpAny (model prog w) A (eval iter env) (fun xv s₁ => wpAny (model prog w) A (pyIter xv) (SrcIt prog w A elt target ifs scope cl env (FinEv Q)) E s₁) E s)
    (hs : ∀ x, foldedSetIterable iter env x = pure x := by intro _; rfl) :
    wpAny (model prog w) A (eval (.ListComp elt [⟨target, iter, ifs, 0⟩] scope pos) env) Q E s := by
  rw [eval_ListComp]
  refine wpAny_comprehension_free (use := none) rfl hs hclos hkind hnames (wpAny_mono h (fun xv s₁ h₁ => wpAny_mono h₁ (fun it s₂ h₂ => ?_) fun _ _ e => e) fun _ _ e => e)
  refine hide fun G9 bk9 => ?_
  obtain ⟨I, fp, wr, n, V, St, p, F, rfl, S, hsz, hlive, hst, hfp, turn, fin⟩ := h₂
  refine bk9 ?_
  clear bk9 G9
  refine comp_blockG (RR := fun acc C => compPost (model prog w) A E none Q acc C) S hsz p F hlive hcell hkind hst hfp turn ?_
  intro D C h' tk m' ys hD hC hDC hn hl hv hk htk
  refine ⟨m', hn, fun h'' hs'' => ?_⟩
  have k2 : KB wr s₂.heap h'' := fun b o hb e => hs''.extBut b o (fun q => by rw [q, hC] at e; cases e) (hk b o hb e)
  exact fin D h'' tk ys hD (hl.extBut hs''.extBut hDC) (hv h'' k2 fun b o hb e => hs''.extBut b o (fun q => hb (by rw [q]; exact List.mem_cons_of_mem _ List.mem_cons_self)) e) k2 htk
noncomputable def FinAs (env : Env) (y : Str) (Q : Flow → Shared → Prop) (wr : List Addr) (n : Nat) (p : Nat → Bool) (F : Nat → Value → Heap → Prop) (s₂ : Shared) : Prop :=
  ∃ m, s₂.heap.Ns env.locals m ∧ env.locals ∉ wr ∧ (∀ i y h h', F i y h → F i y h') ∧
  ∀ (D : Addr) h' tk ys, s₂.heap.objs.size ≤ D → h'.PlainList D ys → Vals p F h' n ys.toList → KB (env.locals :: wr) s₂.heap h' → h'.Ns env.locals (fun z => if z = y then some (.ref D) else m z) → s₂.toks ≤ tk → Q .next { s₂ with heap := h', toks := tk }
theorem comp_assign {s : Shared} {elt target iter : Expr} {ifs : List Expr} {scope : Scope} {cl : List (Str × Addr)} {pos spos py : Pos} {y : Str} {Q : Flow → Shared → Prop}
    (hsw : swapsWith (.ListComp elt [⟨target, iter, ifs, 0⟩] scope pos) (some (.Name y py)) spos.line env = pure true)
    (hclos : closureFor scope env = pure cl) (hcell : ∀ y ∈ scope.names, y.2 ≠ .cell) (hkind : scope.kind = .function) (hnames : ∀ y ∈ scope.names, y.2 = .local → scope.names.lookup y.1 = some .local)
    (hy : env.kindOf y = some .local) (hp : (env.scope.kind == .class || (env.scope.kind == .module && env.locals != env.globals)) = false)
    (h : wpAny (model prog w) A (eval iter env) (fun xv s₁ => wpAny (model prog w) A (pyIter xv) (SrcIt prog w A elt target ifs scope cl env (FinAs env y Q)) E s₁) E s)
    (hs : ∀ x, foldedSetIterable iter env x = pure x := by intro _; rfl) :
    wpAny (model prog w) A (exec (.Assign [.Name y py] (.ListComp elt [⟨target, iter, ifs, 0⟩] scope pos) spos) env) Q E s := by
  rw [exec_Assign_Name_used _ _ _ _ hsw]
  refine wpAny_bind (wpAny_standAt (wpAny_bind ?_))
  show wpAny _ A (do let _ ← comprehension (.ListComp elt [⟨target, iter, ifs, 0⟩] scope pos) scope env _ (newList []) false (eval iter env) (some (assign (.Name y py) env))) _ _ s
  refine wpAny_bind (wpAny_mono (wpAny_comprehension_free (use := some (assign (.Name y py) env)) (Q := fun _ s' => Q .next s') rfl hs hclos hkind hnames
    (wpAny_mono h (fun xv s₁ h₁ => wpAny_mono h₁ (fun it s₂ h₂ => ?_) fun _ _ e => e) fun _ _ e => e)) (fun _ s' hq => wpAny_pure (wpAny_pure hq)) fun _ _ e => e)
  refine hide fun G9 bk9 => ?_
  obtain ⟨I, fp, wr, n, V, St, p, F, rfl, S, hsz, hlive, hst, hfp, turn, m, hm, hLw, hFi, fin⟩ := h₂
  refine bk9 ?_
  clear bk9 G9
  refine comp_blockG (RR := fun acc C => compPost (model prog w) A E (some (assign (.Name y py) env)) (fun _ s' => Q .next s') acc C) S hsz p F hlive hcell hkind hst hfp turn ?_
  intro D C h' tk m' ys hD hC hDC hn hl hv hk htk
  have hLC : env.locals ≠ C := by rintro rfl; obtain ⟨o, _, _, ho, _⟩ := hm; rw [hC] at ho; cases ho
  have hLD : env.locals ≠ D := Nat.ne_of_lt (Nat.lt_of_lt_of_le hm.lt hD)
  show wpAny _ A (assign (.Name y py) env (.ref D)) _ _ _
  refine wpAny_with_toks (n := s₂.toks) htk (wpAny_assign_Name (wpAny_storeName_local hy (hm.at' fun o e => hk _ o hLw e) (fun h₂ hn₂ hs₂ => ?_) hp))
  intro htk₂
  refine ⟨m', hn.sameBut hs₂ (Ne.symm hLC), fun h₃ hs₃ => ?_⟩
  refine fin D h₃ _ ys hD ((hl.extBut hs₂.extBut (Ne.symm hLD)).extBut hs₃.extBut hDC) ((hv h' hk (KB.refl _ _)).move fun i y hf => hFi i y _ _ hf) (fun b o hb e => ?_) (hn₂.sameBut hs₃ hLC) htk₂
  exact hs₃.extBut b o (by rintro rfl; rw [hC] at e; cases e) (hs₂.extBut b o (fun q => hb (by rw [q]; exact List.mem_cons_self)) (hk b o (fun q => hb (List.mem_cons_of_mem _ q)) e))
end
end
section
theorem fr_kb {h₀ h h' : Heap} {L : Addr} {m : Str → Option Value} {W : List Addr} (F : Fr h₀ L h m) (k : KB W h h') (hL : L ∉ W) (hW : ∀ b ∈ W, h₀.get? b = none) : Fr h₀ L h' m :=
  ⟨F.ns.at' fun o e => k L o hL e, fun b o e => k b o (fun q => by rw [hW b q] at e; cases e) (F.keep b o e), F.above⟩
theorem news_kb {h₀ h h' : Heap} {L : Addr} {news : List (Addr × Obj)} {W : List Addr} (N : News h₀ L h news) (k : KB W h h') (hW : ∀ p ∈ news, p.1 ∉ W) : News h₀ L h' news :=
  fun p hp => ⟨k _ _ (hW p hp) (N p hp).1, (N p hp).2⟩
/-- the source's own objects stand apart from the frame's -/
noncomputable def Apart (h₀ : Heap) (L : Addr) (news : List (Addr × Obj)) (wr : List Addr) : Prop := ∀ b ∈ wr, h₀.get? b = none ∧ b ≠ L ∧ ∀ p ∈ news, p.1 ≠ b
theorem Apart.of_fresh {h₀ h : Heap} {L : Addr} {m : Str → Option Value} {news : List (Addr × Obj)} {wr : List Addr} (F : Fr h₀ L h m) (N : News h₀ L h news) (hw : ∀ b ∈ wr, h.objs.size ≤ b) : Apart h₀ L news wr := fun b hb =>
  ⟨by
    cases e : h₀.get? b with
    | none => rfl
    | some o => exact absurd (Heap.lt_size (F.keep b o e)) (Nat.not_lt.mpr (hw b hb)), Ne.symm (Nat.ne_of_lt (Nat.lt_of_lt_of_le F.ns.lt (hw b hb))), fun p hp => Nat.ne_of_lt (Nat.lt_of_lt_of_le (Heap.lt_size (N p hp).1) (hw b hb))⟩
section
variable {prog : Program} {w : World} {A : Around} {E : Value → Shared → Prop} {env : Env} {h₀ : Heap} {L C : Addr} {m mC : Str → Option Value} {news : List (Addr × Obj)} {wr : List Addr} {s₂ s₃ : Shared} {scope : Scope} {cl : List (Str × Addr)} {Q : Unit → Shared → Prop}
theorem turn_base (F : Fr h₀ L s₂.heap m) (N : News h₀ L s₂.heap news) (ap : Apart h₀ L news wr) (hC : s₂.heap.objs.size ≤ C) (hk : KB wr s₂.heap s₃.heap) {h₁ : Heap} {mC' : Str → Option Value} (hn₁ : h₁.Ns C mC') (hs : KB [C] s₃.heap h₁) :
    ∃ oC, Fr h₀ L h₁ m ∧ News h₀ L h₁ ((C, oC) :: news) ∧ LCg.NsObj oC mC' := by
  have hCL : C ≠ L := Ne.symm (Nat.ne_of_lt (Nat.lt_of_lt_of_le F.ns.lt hC))
  have hC0 : h₀.get? C = none := by
    cases e : h₀.get? C with
    | none => rfl
    | some o => exact absurd (Heap.lt_size (F.keep C o e)) (Nat.not_lt.mpr hC)
  have F₃ : Fr h₀ L s₃.heap m := fr_kb F hk (fun q => (ap L q).2.1 rfl) fun b hb => (ap b hb).1
  have N₃ : News h₀ L s₃.heap news := news_kb N hk fun p hp q => (ap _ q).2.2 p hp rfl
  have F₁ : Fr h₀ L h₁ m := fr_kb F₃ hs (by simpa using Ne.symm hCL) (by simpa using hC0)
  have N₁ : News h₀ L h₁ news := news_kb N₃ hs fun p hp q => by
    have := List.mem_singleton.mp q
    exact absurd (Heap.lt_size (N p hp).1) (Nat.not_lt.mpr (by rw [this]; exact hC))
  refine hide fun G9 bk9 => ?_
  obtain ⟨oC, heC, hoC⟩ := LCg.ns_obj hn₁
  refine bk9 ?_
  clear bk9 G9
  refine ⟨oC, F₁, fun p hp => ?_, hoC⟩
  rcases List.mem_cons.mp hp with rfl | hp
  · exact ⟨heC, hCL, hC0⟩
  · exact N₁ p hp
theorem turn_name {x : Str} {px : Pos} {v : Value} (F : Fr h₀ L s₂.heap m) (N : News h₀ L s₂.heap news) (ap : Apart h₀ L news wr) (hC : s₂.heap.objs.size ≤ C) (hn : s₃.heap.Ns C mC) (hk : KB wr s₂.heap s₃.heap) (htk : s₂.toks ≤ s₃.toks)
    (hx : scope.names.lookup x = some .local) (hkind : scope.kind = .function)
    (k : ∀ h₁ oC mC' tk, Fr h₀ L h₁ m → News h₀ L h₁ ((C, oC) :: news) → LCg.NsObj oC mC' → mC' x = some v → KB [C] s₃.heap h₁ → Grow h₁ h₁ → s₂.toks ≤ tk → Q () { s₃ with heap := h₁, toks := tk }) :
    wpAny (model prog w) A (assign (.Name x px) (compEnvC scope cl C env) v) Q E s₃ := by
  refine wpAny_assign_Name (wpAny_storeName_local (env := compEnvC scope cl C env) (lookup_relabel_local hx) hn (fun h₁ hn₁ hs₁ => ?_) (by simp [compEnvC, relabel, hkind]))
  have hs : KB [C] s₃.heap h₁ := fun b o hb e => hs₁.extBut b o (fun q => hb (by rw [q]; exact List.mem_singleton.mpr rfl)) e
  refine hide fun G9 bk9 => ?_
  obtain ⟨oC, F₁, N₁, hoC⟩ := turn_base F N ap hC hk hn₁ hs
  refine bk9 ?_
  clear bk9 G9
  exact k h₁ oC _ _ F₁ N₁ hoC (by simp) hs (Grow.rfl' _) (Nat.le_succ_of_le htk)
theorem turn_pair {a b : Str} {pa pb tp : Pos} {kk : Nat} {T : Addr} {x y : Value} (hh : A.handled = none) (hT : s₃.heap.IsTuple T #[x, y]) (F : Fr h₀ L s₂.heap m) (N : News h₀ L s₂.heap news) (ap : Apart h₀ L news wr) (hC : s₂.heap.objs.size ≤ C) (hn : s₃.heap.Ns C mC) (hk : KB wr s₂.heap s₃.heap) (htk : s₂.toks ≤ s₃.toks)
    (ha : scope.names.lookup a = some .local) (hb : scope.names.lookup b = some .local) (hab : a ≠ b) (hkind : scope.kind = .function)
    (k : ∀ h₁ oC mC' tk, Fr h₀ L h₁ m → News h₀ L h₁ ((C, oC) :: news) → LCg.NsObj oC mC' → mC' a = some x → mC' b = some y → KB [C] s₃.heap h₁ → Grow h₁ h₁ → s₂.toks ≤ tk → Q () { s₃ with heap := h₁, toks := tk }) :
    wpAny (model prog w) A (assign (.Tuple [.Name a pa, .Name b pb] kk tp) (compEnvC scope cl C env) (.ref T)) Q E s₃ := by
  refine wpAny_with_toks (n := s₂.toks) htk (kcp_assign (env := compEnvC scope cl C env) hh hT (lookup_relabel_local ha) (lookup_relabel_local hb) (by simp [compEnvC, relabel, hkind]) hn fun h₁ tk hn₁ hs₁ => ?_)
  intro htk₁
  have hs : KB [C] s₃.heap h₁ := fun c o hc e => hs₁ c o (fun q => hc (by rw [q]; exact List.mem_singleton.mpr rfl)) e
  refine hide fun G9 bk9 => ?_
  obtain ⟨oC, F₁, N₁, hoC⟩ := turn_base F N ap hC hk hn₁ hs
  refine bk9 ?_
  clear bk9 G9
  exact k h₁ oC _ _ F₁ N₁ hoC (by simp [hab]) (by simp) hs (Grow.rfl' _) htk₁
theorem eout_of {hb h₁ h' : Heap} {oC : Obj} {mC' : Str → Option Value} {tk : Nat} {F : Value → Heap → Prop} {y : Value} {nw : List (Addr × Obj)} (hs : KB [C] s₃.heap h₁) (g : Grow h₁ h') (N : News h₀ L h₁ ((C, oC) :: nw)) (hoC : LCg.NsObj oC mC')
    (hF : ∀ h'', KB wr hb h'' → (∀ b o, s₃.heap.get? b = none → h'.get? b = some o → h''.get? b = some o) → F y h'') : EOut C wr hb s₃ F y { s₃ with heap := h', toks := tk } :=
  ⟨h', tk, mC', rfl, (hoC.ns (N (C, oC) List.mem_cons_self).1).keeps g, fun b o hb e => g b o (hs b o hb e), hF⟩
theorem nout_of {h₁ h' : Heap} {oC : Obj} {mC' : Str → Option Value} {tk : Nat} {nw : List (Addr × Obj)} (hs : KB [C] s₃.heap h₁) (g : Grow h₁ h') (N : News h₀ L h₁ ((C, oC) :: nw)) (hoC : LCg.NsObj oC mC') : NOut C s₃ { s₃ with heap := h', toks := tk } :=
  ⟨h', tk, mC', rfl, (hoC.ns (N (C, oC) List.mem_cons_self).1).keeps g, fun b o hb e => g b o (hs b o hb e)⟩
end
end
section
section
variable {prog : Program} {w : World} {A : Around} {E : Value → Shared → Prop} {env : Env} {h₀ : Heap} {L : Addr} {m : Str → Option Value} {news : List (Addr × Obj)} {s : Shared} {scope : Scope} {cl : List (Str × Addr)} {elt target : Expr} {ifs : List Expr}
  {Fin : List Addr → Nat → (Nat → Bool) → (Nat → Value → Heap → Prop) → Shared → Prop}
theorem srcit_push {fp : List Addr} {n : Nat} {V : Nat → Value → Heap → Prop} {St : Nat → Heap → Prop} {obj : Obj} (F : Fr h₀ L s.heap m) (N : News h₀ L s.heap news)
    (S : Src prog w A s.heap.objs.size fp [s.heap.objs.size] n target V St) (hsz : n ≤ sizeLine) (hst : St 0 (s.heap.push obj)) (hlive : ∀ i h, St i h → ∃ o, h.get? s.heap.objs.size = some o) (hfp : ∀ b ∈ fp, b ≤ s.heap.objs.size)
    (p : Nat → Bool) (F' : Nat → Value → Heap → Prop)
    (turn : ∀ h₂, Fr h₀ L h₂ m → News h₀ L h₂ news → Apart h₀ L news [s.heap.objs.size] → Grow s.heap h₂ → Turns prog w A elt target ifs scope cl env [s.heap.objs.size] n V p F' { s with heap := h₂ })
    (fin : ∀ h₂, Fr h₀ L h₂ m → News h₀ L h₂ news → Apart h₀ L news [s.heap.objs.size] → Grow s.heap h₂ → Fin [s.heap.objs.size] n p F' { s with heap := h₂ }) :
    SrcIt prog w A elt target ifs scope cl env Fin (.ref s.heap.objs.size) { s with heap := s.heap.push obj } := by
  have up : Grow s.heap (s.heap.push obj) := fun b o e => Heap.get?_push_of_some _ e
  have ap : Apart h₀ L news [s.heap.objs.size] := Apart.of_fresh F N (by simp)
  exact ⟨_, fp, _, n, V, St, p, F', rfl, S, hsz, fun i h st b hb => by rw [List.mem_singleton.mp hb]; exact hlive i h st, hst, fun b hb => by
    show b < (s.heap.push obj).objs.size
    rw [Heap.size_push]; exact Nat.lt_succ_of_le (hfp b hb), turn _ (F.keeps up) (N.grown up) ap up, fin _ (F.keeps up) (N.grown up) ap up⟩
theorem src_range {r : Addr} {a b : Int} {t u v : Tok} {n : Nat} {x : Str} {px : Pos} (hh : A.handled = none) (F : Fr h₀ L s.heap m) (N : News h₀ L s.heap news) (hr : IsRange s.heap r a b 1 t u v) (hsm : Builtin.Range.small a b 1 = true) (hn : Builtin.Range.rangeSize a b 1 = ((n : Nat) : Int)) (hsz : n ≤ sizeLine)
    (p : Nat → Bool) (F' : Nat → Value → Heap → Prop)
    (turn : ∀ h₂, Fr h₀ L h₂ m → News h₀ L h₂ news → Apart h₀ L news [s.heap.objs.size] → Grow s.heap h₂ → Turns prog w A elt (.Name x px) ifs scope cl env [s.heap.objs.size] n (fun i v _ => ∃ t, v = .int (a + (i : Int)) t) p F' { s with heap := h₂ })
    (fin : ∀ h₂, Fr h₀ L h₂ m → News h₀ L h₂ news → Apart h₀ L news [s.heap.objs.size] → Grow s.heap h₂ → Fin [s.heap.objs.size] n p F' { s with heap := h₂ }) :
    wpAny (model prog w) A (pyIter (.ref r)) (SrcIt prog w A elt (.Name x px) ifs scope cl env Fin) E s := by
  refine wpAny_pyIter_range hr hsm ?_
  exact srcit_push F N (Src.ofWalks (LCg.range_walks hh a n) x px) hsz (by show IsRangeIter _ _ _ _ _; rw [hn]; simpa using Heap.get?_push_size _ rfl) (fun i h st => ⟨_, st⟩) (fun b hb => by rw [List.mem_singleton.mp hb]; exact Nat.le_refl _) p F' turn fin
theorem src_list {ax : Addr} {its : Array Value} {x : Str} {px : Pos} (hh : A.handled = none) (F : Fr h₀ L s.heap m) (N : News h₀ L s.heap news) (hl : s.heap.IsList ax its) (hsz : its.size ≤ sizeLine)
    (p : Nat → Bool) (F' : Nat → Value → Heap → Prop)
    (turn : ∀ h₂, Fr h₀ L h₂ m → News h₀ L h₂ news → Apart h₀ L news [s.heap.objs.size] → Grow s.heap h₂ → Turns prog w A elt (.Name x px) ifs scope cl env [s.heap.objs.size] its.size (fun i v _ => its[i]? = some v) p F' { s with heap := h₂ })
    (fin : ∀ h₂, Fr h₀ L h₂ m → News h₀ L h₂ news → Apart h₀ L news [s.heap.objs.size] → Grow s.heap h₂ → Fin [s.heap.objs.size] its.size p F' { s with heap := h₂ }) :
    wpAny (model prog w) A (pyIter (.ref ax)) (SrcIt prog w A elt (.Name x px) ifs scope cl env Fin) E s := by
  have hlt : ax < s.heap.objs.size := by obtain ⟨_, e, _⟩ := hl; exact Heap.lt_size e
  refine wpAny_pyIter_list hl ?_
  exact srcit_push F N (Src.ofWalks (Walks.list hh s.heap.objs.size ax (Nat.ne_of_lt hlt) its) x px) hsz ⟨⟨_, Heap.get?_push_size _ rfl, rfl, rfl⟩, hl.push _⟩ (fun i h st => by obtain ⟨o, e, _⟩ := st.1; exact ⟨o, e⟩)
    (fun b hb => by
      rcases List.mem_cons.mp hb with rfl | hb
      · exact Nat.le_refl _
      · rw [List.mem_singleton.mp hb]; exact Nat.le_of_lt hlt) p F' turn fin
theorem src_tuple {ax : Addr} {its : Array Value} {x : Str} {px : Pos} (hh : A.handled = none) (F : Fr h₀ L s.heap m) (N : News h₀ L s.heap news) (hl : s.heap.IsTuple ax its) (hsz : its.size ≤ sizeLine)
    (p : Nat → Bool) (F' : Nat → Value → Heap → Prop)
    (turn : ∀ h₂, Fr h₀ L h₂ m → News h₀ L h₂ news → Apart h₀ L news [s.heap.objs.size] → Grow s.heap h₂ → Turns prog w A elt (.Name x px) ifs scope cl env [s.heap.objs.size] its.size (fun i v _ => its[i]? = some v) p F' { s with heap := h₂ })
    (fin : ∀ h₂, Fr h₀ L h₂ m → News h₀ L h₂ news → Apart h₀ L news [s.heap.objs.size] → Grow s.heap h₂ → Fin [s.heap.objs.size] its.size p F' { s with heap := h₂ }) :
    wpAny (model prog w) A (pyIter (.ref ax)) (SrcIt prog w A elt (.Name x px) ifs scope cl env Fin) E s := by
  have hlt : ax < s.heap.objs.size := by obtain ⟨_, e, _⟩ := hl; exact Heap.lt_size e
  refine wpAny_pyIter_tuple hl ?_
  exact srcit_push F N (Src.ofWalks (Walks.tuple hh s.heap.objs.size ax (Nat.ne_of_lt hlt) its) x px) hsz ⟨⟨_, Heap.get?_push_size _ rfl, rfl, rfl⟩, hl.at fun o e => Heap.get?_push_of_some _ e⟩ (fun i h st => by obtain ⟨o, e, _⟩ := st.1; exact ⟨o, e⟩)
    (fun b hb => by
      rcases List.mem_cons.mp hb with rfl | hb
      · exact Nat.le_refl _
      · rw [List.mem_singleton.mp hb]; exact Nat.le_of_lt hlt) p F' turn fin
theorem tests0 {env' : Env} {X Y : Shared → Prop} (h : X s) : wpAny (model prog w) A (testsOf [] env') (fun ok s₅ => if ok = true then X s₅ else Y s₅) E s := by
  unfold testsOf
  exact wpAny_tests_nil (by simpa using h)
theorem tests1 {env' : Env} {c : Expr} {Q : Bool → Shared → Prop} (h : wpAny (model prog w) A (isTrue c env' (eval c env')) Q E s) : wpAny (model prog w) A (testsOf [c] env') Q E s := wpAny_tests_one h
end
/-- every item passes -/
theorem Vals.all {F : Nat → Value → Heap → Prop} {h : Heap} : ∀ {n : Nat} {ys : List Value}, Vals (fun _ => true) F h n ys → ys.length = n ∧ ∀ i y, ys[i]? = some y → F i y h
  | _, _, .nil => ⟨rfl, fun i y e => by simp at e⟩
  | _, _, .yes (i := n) (ys := ys) x _ hf => by
    obtain ⟨hl, hi⟩ := x.all
    refine ⟨by rw [List.length_append, hl, List.length_singleton], fun i y e => ?_⟩
    rcases Nat.lt_trichotomy i ys.length with h | h | h
    · rw [List.getElem?_append_left h] at e; exact hi i y e
    · subst h; simp at e; subst e; rw [hl]; exact hf
    · rw [List.getElem?_eq_none (by rw [List.length_append, List.length_singleton]; omega)] at e; cases e
  | _, _, .no _ hp => by cases hp

inductive FinS (h₀ h' : Heap) (L D : Addr) (m : Str → Option Value) (news : List (Addr × Obj)) (ys : Array Value) : Prop
  | mk (n : Nat) (F : Fr h₀ L h' m) (N : News h₀ L h' ((D, { cls := .type "list", data := .seq ys n }) :: news)) : FinS h₀ h' L D m news ys
theorem fin_start {h₀ h₂ h' : Heap} {L D : Addr} {m : Str → Option Value} {news : List (Addr × Obj)} {wr : List Addr} {ys : Array Value} (F : Fr h₀ L h₂ m) (N : News h₀ L h₂ news) (ap : Apart h₀ L news wr) (hk : KB wr h₂ h') (hD0 : h₂.objs.size ≤ D) (hl : h'.PlainList D ys) :
    FinS h₀ h' L D m news ys := by
  have hD : h₂.get? D = none := Heap.get?_none_of_le hD0
  obtain ⟨n, e⟩ := hl
  refine ⟨n, fr_kb F hk (fun q => (ap L q).2.1 rfl) fun b hb => (ap b hb).1, fun p hp => ?_⟩
  rcases List.mem_cons.mp hp with rfl | hp
  · refine ⟨e, fun q => ?_, ?_⟩
    · obtain ⟨_, _, _, ho, _⟩ := F.ns; rw [← q] at ho; exact absurd (hD.symm.trans ho) (by simp)
    · cases q : h₀.get? D with
      | none => rfl
      | some o => have := F.keep D o q; rw [hD] at this; cases this
  · exact news_kb N hk (fun p hp q => (ap _ q).2.2 p hp rfl) p hp
end
section
theorem head_at {h₀ : Heap} {L : Addr} {h : Heap} {l : Addr} {o : Obj} {ns : List (Addr × Obj)} (N : News h₀ L h ((l, o) :: ns)) : h.get? l = some o := (N _ List.mem_cons_self).1
open PySem.Builtin PySem.Builtin.Str PySem.Builtin.Int in
theorem replace_up {prog : Program} {w : World} {A : Around} {E : Value → Shared → Prop} {s : Shared} {x y z : Str} {t u v : Tok} {Q : Value → Shared → Prop} (hu' : @LT.lt Nat _ 0 u) (hv' : @LT.lt Nat _ 0 v) (huv' : @LT.lt Nat _ u v) (hyz : (y == z) = false) (hx : x.length ≤ 1000) (hz : z.length ≤ 14)
    (hq : ∀ t' k, s.toks ≤ k → Q (.str (Txt.replace x y z) t') { s with toks := k }) : wpAny (model prog w) A (call (.builtin "str.replace") [.str x t, .str y u, .str z v]) Q E s := by
  have e : (2 : Nat) ^ 24 = 16777216 := by decide
  have hu : u ≠ 0 := Nat.ne_of_gt hu'
  have hv : v ≠ 0 := Nat.ne_of_gt hv'
  have huv : u ≠ v := Nat.ne_of_lt huv'
  have hb : x.length + (x.length + 1) * z.length ≤ 16777216 := by
    have h1 : (x.length + 1) * z.length ≤ (x.length + 1) * 14 := Nat.mul_le_mul_left _ hz
    omega
  have hl : tooLong (x.length + (occurrences x y 0 x.length (x.length + 1)).length * z.length) = false := by
    have h1 := StrLaws.occ_length_le x y 0 x.length (x.length + 1)
    have h2 : (occurrences x y 0 x.length (x.length + 1)).length * z.length ≤ (x.length + 1) * z.length := Nat.mul_le_mul_right _ h1
    unfold tooLong sizeLine
    exact decide_eq_false (by omega)
  refine call_gives F.slot_str_replace (typeIs_str _ _ _) F.entry_str_replace (F.args_str_replace_3 _ _ _)
    (gives_str_replace x y z t u v fun _ => ⟨by simp [hu, hv], by simp [huv], hyz, hl⟩) ?_
  have hq' := hq
  unfold Txt.replace at hq'
  cases hc : ((occurrences x y 0 x.length (x.length + 1)).isEmpty || (y.length == 0 && z.length == 0))
  · rw [hc] at hq'
    simp only [Bool.false_eq_true, if_false] at hq' ⊢
    exact ⟨fits_replaced y hb, hq' _ _ (Nat.le_add_right _ _)⟩
  · rw [hc] at hq'
    simp only [if_true] at hq' ⊢
    exact hq' t s.toks (Nat.le_refl _)
theorem ren_toks {α : Type} {M : Model} {A : Around} {m : Sem α} {Q : α → Shared → Prop} {E : Value → Shared → Prop} {h : Heap} {g d os} {t : Nat} (T : Nat) (hT : T ≤ t)
    (k : ∀ tk, T ≤ tk → wpAny M A m Q E ⟨h, g, d, tk, os⟩) : wpAny M A m Q E ⟨h, g, d, t, os⟩ := k t hT
theorem keptGrow {h₀ hb : Heap} {L : Addr} {m : Str → Option Value} {news : List (Addr × Obj)} : KeptH (fun h => Fr h₀ L h m ∧ News h₀ L h news ∧ Grow hb h) :=
  fun _ ob a => ⟨Fr.pushS a.1 ob, a.2.1.pushKeep ob, fun b o e => Heap.get?_push_of_some _ (a.2.2 b o e)⟩
section
variable {prog : Program} {w : World} {A : Around} {E : Value → Shared → Prop} {s : Shared} {value slice : Expr} {x : Str} {t : Tok} {h₀ : Heap} {L : Addr} {m : Str → Option Value} {news : List (Addr × Obj)} {Q : Value → Shared → Prop}
theorem slice_up_ns {j : Int} {uj : Tok} (hF : Fr h₀ L s.heap m) (hN : News h₀ L s.heap news) (h : ∀ h' t' k, Fr h₀ L h' m → News h₀ L h' news → Grow s.heap h' → s.toks ≤ k → Q (.str (Txt.slice x none (some j)) t') { s with heap := h', toks := k })
    (hs : subscripted slice false (.str x t) (.ref s.heap.objs.size) = operate [.ref s.heap.objs.size, .str x t] (getItem (.str x t) (.ref s.heap.objs.size)) := by with_unfolding_all rfl)
    (ht : ∀ r, letTemporaryGo value (.str x t) r = pure () := by intro _; with_unfolding_all rfl) (hsz : x.length ≤ sizeLine := by size_fits) :
    wpAny (model prog w) A (subscriptTail value slice (.str x t) (.ref s.heap.objs.size)) Q E { s with heap := s.heap.push { cls := .type "slice", data := .fields #[.none, .int j uj, .none] } } :=
  wpAny_with_toks (n := s.toks) (Nat.le_refl _) (tail_of_ItemOn (SBH.sliceItem_ns (keptGrow (hb := s.heap)) ⟨hF, hN, Grow.rfl' _⟩ (fun h' t' k a hk => h h' t' k a.1 a.2.1 a.2.2 hk) hsz) hs ht)
theorem slice_up_ss {i j : Int} {ui uj : Tok} (hF : Fr h₀ L s.heap m) (hN : News h₀ L s.heap news) (h : ∀ h' t' k, Fr h₀ L h' m → News h₀ L h' news → Grow s.heap h' → s.toks ≤ k → Q (.str (Txt.slice x (some i) (some j)) t') { s with heap := h', toks := k })
    (hs : subscripted slice false (.str x t) (.ref s.heap.objs.size) = operate [.ref s.heap.objs.size, .str x t] (getItem (.str x t) (.ref s.heap.objs.size)) := by with_unfolding_all rfl)
    (ht : ∀ r, letTemporaryGo value (.str x t) r = pure () := by intro _; with_unfolding_all rfl) (hsz : x.length ≤ sizeLine := by size_fits) :
    wpAny (model prog w) A (subscriptTail value slice (.str x t) (.ref s.heap.objs.size)) Q E { s with heap := s.heap.push { cls := .type "slice", data := .fields #[.int i ui, .int j uj, .none] } } :=
  wpAny_with_toks (n := s.toks) (Nat.le_refl _) (tail_of_ItemOn (SBH.sliceItem_ss (keptGrow (hb := s.heap)) ⟨hF, hN, Grow.rfl' _⟩ (fun h' t' k a hk => h h' t' k a.1 a.2.1 a.2.2 hk) hsz) hs ht)
end
noncomputable def Halt (p : Prop) : Prop := p
theorem halt {p : Prop} (h : Halt p) : p := h
theorem unhalt {p : Prop} (h : p) : Halt p := h
section
variable {C : Addr} {wr : List Addr} {s₃ : Shared}
theorem eout2 {hb h₁ h' : Heap} {mC' : Str → Option Value} {tk : Nat} {F : Value → Heap → Prop} {y : Value} (hs : KB [C] s₃.heap h₁) (g : Grow h₁ h') (hn : h₁.Ns C mC')
    (hF : ∀ h'', KB wr hb h'' → (∀ b o, s₃.heap.get? b = none → h'.get? b = some o → h''.get? b = some o) → F y h'') : EOut C wr hb s₃ F y { s₃ with heap := h', toks := tk } :=
  ⟨h', tk, mC', rfl, hn.keeps g, fun b o hb e => g b o (hs b o hb e), hF⟩
theorem nout2 {h₁ h' : Heap} {mC' : Str → Option Value} {tk : Nat} (hs : KB [C] s₃.heap h₁) (g : Grow h₁ h') (hn : h₁.Ns C mC') : NOut C s₃ { s₃ with heap := h', toks := tk } :=
  ⟨h', tk, mC', rfl, hn.keeps g, fun b o hb e => g b o (hs b o hb e)⟩
end
end
section
structure Tab (h : Heap) (t : Addr) (T : Nat → Nat → Int) : Prop where
  ex : ∃ rows : Array Value, h.IsList t rows ∧ ∀ i, i < 5 → ∃ (R : Addr) (items : Array Value), rows[i]? = some (Value.ref R) ∧ h.IsList R items ∧ ∀ j, j < 4 → ∃ tk, items[j]? = some (Value.int (T i j) tk)
  bd : ∀ i j, -1000 ≤ T i j ∧ T i j ≤ 1000
noncomputable abbrev Sgs := List (Nat × Nat × Int)
structure SgAt (h : Heap) (a : Addr) (sg : Sgs) : Prop where
  ex : ∃ items : Array Value, h.IsList a items ∧ items.size = sg.length ∧ ∀ (i : Nat) (x : Nat × Nat × Int), sg[i]? = some x → ∃ (P : Addr) (t1 t2 t3 : Tok), items[i]? = some (Value.ref P) ∧ IsTup h P #[Value.int (x.1 : Nat) t1, Value.int (x.2.1 : Nat) t2, Value.int x.2.2 t3]
  bd : ∀ x ∈ sg, x.1 < 5 ∧ x.2.1 < 5 ∧ -1 ≤ x.2.2 ∧ x.2.2 ≤ 1
noncomputable def overZ (T : Nat → Nat → Int) (r s : Nat) : Sgs → Int
  | [] => 0
  | x :: l => x.2.2 * (T x.1 r * T x.2.1 s - T x.2.1 r * T x.1 s) + overZ T r s l
theorem overZ_snoc (T : Nat → Nat → Int) (r s : Nat) (x : Nat × Nat × Int) : ∀ l : Sgs, overZ T r s (l ++ [x]) = overZ T r s l + x.2.2 * (T x.1 r * T x.2.1 s - T x.2.1 r * T x.1 s)
  | [] => by simp [overZ]
  | y :: l => by rw [List.cons_append, overZ, overZ_snoc T r s x l, overZ, Int.add_assoc]
theorem my_item {prog : Program} {w : World} {A : Around} {E : Value → Shared → Prop} {s : Shared} {value slice : PySem.Expr} {l : Addr} {vs : Array Value} {k : Int} {u : Tok} {v : Value} {Q : Value → Shared → Prop}
    (hl : s.heap.IsList l vs) (h0 : 0 ≤ k) (hhi : k < 2 ^ 63) (hx : vs[k.toNat]? = some v) (h : Q v s)
    (hs : subscripted slice false (.ref l) (.int k u) = operate [.ref l, .int k u] (getItem (.ref l) (.int k u)) := by with_unfolding_all rfl) :
    wpAny (model prog w) A (subscriptTail value slice (.ref l) (.int k u)) Q E s :=
  tail_any hl.typeIs slot_list_getitem.lookup (wpAny_getItem_list hl h0 hhi hx h) hs
local macro_rules | `(tactic| walk_at "eval Name") => `(tactic| (k_here; k_dflt (refine' ld ?k1 ?k2 ?_; (case k1 => k_asm); (case k2 => assumption); k_whole)))
local macro_rules | `(tactic| walk_at "loadName") => `(tactic| (k_here; k_dflt (refine' ldn ?k1 ?k2 ?_; (case k1 => k_asm); (case k2 => assumption); k_whole)))
theorem prod_bd {a b : Int} (ha : -1000 ≤ a ∧ a ≤ 1000) (hb : -1000 ≤ b ∧ b ≤ 1000) : -1000000 ≤ a * b ∧ a * b ≤ 1000000 := by
  have h : (a * b).natAbs ≤ 1000 * 1000 := by rw [Int.natAbs_mul]; exact Nat.mul_le_mul (by omega) (by omega)
  omega
local macro_rules | `(tactic| walk_at "subscriptTail") => `(tactic| (k_here; (with_reducible show wpAny _ _ (subscriptTail _ _ (Value.ref _) (Value.int _ _)) _ _ _); (with_unfolding_all refine' my_item ?k1 ?k2 ?k3 ?k4 ?_ ?k6; (case k1 => is_list); (case k2 => first | with_reducible assumption | decide | exact Int.natCast_nonneg _ | omega); (case k3 => first | with_reducible assumption | decide | exact lt63 (by with_reducible assumption) | omega); (case k4 => first | assumption | rfl); (case k6 => with_unfolding_all rfl); k_whole)))
local macro_rules | `(tactic| walk_at "call ref") => `(tactic| (k_here; refine halt ?_))
theorem t_over (w : World) (a t : Addr) (sg : Sgs) (T : Nat → Nat → Int) (r c : Nat) (t1 t2 : Tok) (hr : r < 4) (hc : c < 4) :
    Tells w 2 120 [.ref a, .ref t, .int r t1, .int c t2] (fun s => SgAt s.heap a sg ∧ Tab s.heap t T) (fun _ _ v => ∃ tk, v = .int (overZ T r c sg) tk) := by
  intro dp un gd outer s fit hpre hd hu
  (have hX := fit.X; revert hX; k_fill; intro hX)
  refine hide fun G9 bk9 => ?_
  obtain ⟨⟨⟨sits, hsl, hsz, hsi⟩, hsb⟩, ⟨⟨rows, htl, hti⟩, htb⟩⟩ := hpre
  refine bk9 ?_
  clear bk9 G9
  k_dflt (refine enter_plain (binds := [(Str.ofString "signs", .ref a), (Str.ofString "table", .ref t), (Str.ofString "one", .int r t1), (Str.ofString "two", .int c t2)]) (by assumption) (by k_is) (by k_is) (by omega) (BindsTo.of_eq rfl) (locs rfl) ?_ (by decide) rfl rfl rfl; intro p loose mean mg mb base L' h₁ eL' B F' N' X' T'; (try dsimp only); (try k_fold))
  iterate 6 walk1
  refine for_list_K (A := _) (h₀ := s.heap) (L := L') (its := sits) (J := fun i m => m (Str.ofString "table") = some (.ref t) ∧ m (Str.ofString "one") = some (.int r t1) ∧ m (Str.ofString "two") = some (.int c t2) ∧ ∃ t, m (Str.ofString "total") = some (.int (overZ T r c (sg.take i)) t)) rfl ?hlet ?h (hs := ?hs)
  case hs => exact fun _ => rfl
  case hlet =>
    intro I ax i v s' Q' E' hv hit hq
    refine hide fun G9 bk9 => ?_
    obtain ⟨j, hj, rfl⟩ := Array.mem_iff_getElem.mp hv
    obtain ⟨P, _, _, _, hP, _⟩ := hsi j (sg[j]'(by omega)) (by simp)
    refine bk9 ?_
    clear bk9 G9
    have e : sits[j] = .ref P := by simpa [hj] using hP
    rw [e]
    exact wpAny_letOwnedTupleGo_listiter hit hq
  walk1
  refine ⟨a, [], _, rfl, by assumption, by assumption, Or.inl hsl, ⟨rfl, rfl, rfl, _, rfl⟩, ?turn, ?done⟩
  case done =>
    rintro m h tk ⟨ja, jb, jc, t, jd⟩ F N htk
    rw [show sg.take sits.size = sg from by rw [hsz, List.take_length]] at jd
    k_steps
    all_goals exact out_of (by assumption) (by assumption) ⟨_, rfl⟩
  rintro i v I oI m h tk E' hv ⟨ja, jb, jc, t, jd⟩ F N htk
  have hlt : i < sg.length := by rw [← hsz]; exact (Array.getElem?_eq_some_iff.mp hv).1
  refine hide fun G9 bk9 => ?_
  obtain ⟨x, hx⟩ : ∃ x, sg[i]? = some x := ⟨sg[i], by simp [hlt]⟩
  obtain ⟨P, u1, u2, u3, hP, hT⟩ := hsi i x hx
  refine bk9 ?_
  clear bk9 G9
  rw [hP] at hv
  cases hv
  refine hide fun G9 bk9 => ?_
  obtain ⟨b1, b2, b3, b4⟩ := hsb x (List.mem_of_getElem? hx)
  obtain ⟨R1, its1, hr1, hl1, hi1⟩ := hti x.1 b1
  obtain ⟨R2, its2, hr2, hl2, hi2⟩ := hti x.2.1 b2
  have hr1' : rows[((x.1 : Nat) : Int).toNat]? = some (Value.ref R1) := hr1
  have hr2' : rows[((x.2.1 : Nat) : Int).toNat]? = some (Value.ref R2) := hr2
  obtain ⟨k1, q1⟩ := hi1 r hr
  obtain ⟨k2, q2⟩ := hi1 c hc
  obtain ⟨k3, q3⟩ := hi2 r hr
  obtain ⟨k4, q4⟩ := hi2 c hc
  refine bk9 ?_
  clear bk9 G9
  have q1' : its1[((r : Nat) : Int).toNat]? = some (Value.int (T x.1 r) k1) := q1
  have q2' : its1[((c : Nat) : Int).toNat]? = some (Value.int (T x.1 c) k2) := q2
  have q3' : its2[((r : Nat) : Int).toNat]? = some (Value.int (T x.2.1 r) k3) := q3
  have q4' : its2[((c : Nat) : Int).toNat]? = some (Value.int (T x.2.1 c) k4) := q4
  have z1 := htb x.1 r
  have z2 := htb x.1 c
  have z3 := htb x.2.1 r
  have z4 := htb x.2.1 c
  have y1 := prod_bd z1 z4
  have y2 := prod_bd z3 z2
  (try k_unmd)
  k_fold
  k_steps
  refine unhalt ?_
  (rename Fr _ _ _ _ => F9); (rename News _ _ _ _ => N9)
  k_dflt (refine Tells.use (t_mul _ _ _ _ _ (by first | exact m62 (by with_reducible assumption) (by with_reducible assumption) | omega)) B F9 (by assumption) (by assumption) rfl rfl trivial (by first | exact upd (by assumption) | omega) (by first | exact upu (by assumption) | omega) ?_)
  intro v9 h9 tk9 g9 ht9 p9
  obtain ⟨u9, rfl⟩ := p9
  replace F9 := Fr.keeps F9 g9
  replace N9 := News.grown N9 g9
  clear g9
  (try dsimp only)
  (try k_sweep)
  k_steps
  refine unhalt ?_
  (rename Fr _ _ _ _ => F9); (rename News _ _ _ _ => N9)
  k_dflt (refine Tells.use (t_mul _ _ _ _ _ (by first | exact m62 (by with_reducible assumption) (by with_reducible assumption) | omega)) B F9 (by assumption) (by assumption) rfl rfl trivial (by first | exact upd (by assumption) | omega) (by first | exact upu (by assumption) | omega) ?_)
  intro v9 h9 tk9 g9 ht9 p9
  obtain ⟨u9, rfl⟩ := p9
  replace F9 := Fr.keeps F9 g9
  replace N9 := News.grown N9 g9
  clear g9
  (try dsimp only)
  (try k_sweep)
  k_steps
  refine unhalt ?_
  (rename Fr _ _ _ _ => F9); (rename News _ _ _ _ => N9)
  k_dflt (refine Tells.use (t_sub _ _ _ _ _) B F9 (by assumption) (by assumption) rfl rfl trivial (by first | exact upd (by assumption) | omega) (by first | exact upu (by assumption) | omega) ?_)
  intro v9 h9 tk9 g9 ht9 p9
  obtain ⟨u9, rfl⟩ := p9
  replace F9 := Fr.keeps F9 g9
  replace N9 := News.grown N9 g9
  clear g9
  (try dsimp only)
  (try k_sweep)
  k_steps
  refine unhalt ?_
  (rename Fr _ _ _ _ => F9); (rename News _ _ _ _ => N9)
  k_dflt (refine Tells.use (t_mul _ _ _ _ _ (by first | exact m62 (by with_reducible assumption) (by with_reducible assumption) | omega)) B F9 (by assumption) (by assumption) rfl rfl trivial (by first | exact upd (by assumption) | omega) (by first | exact upu (by assumption) | omega) ?_)
  intro v9 h9 tk9 g9 ht9 p9
  obtain ⟨u9, rfl⟩ := p9
  replace F9 := Fr.keeps F9 g9
  replace N9 := News.grown N9 g9
  clear g9
  (try dsimp only)
  (try k_sweep)
  k_steps
  refine unhalt ?_
  (rename Fr _ _ _ _ => F9); (rename News _ _ _ _ => N9)
  k_dflt (refine Tells.use (t_add _ _ _ _ _) B F9 (by assumption) (by assumption) rfl rfl trivial (by first | exact upd (by assumption) | omega) (by first | exact upu (by assumption) | omega) ?_)
  intro v9 h9 tk9 g9 ht9 p9
  obtain ⟨u9, rfl⟩ := p9
  replace F9 := Fr.keeps F9 g9
  replace N9 := News.grown N9 g9
  clear g9
  (try dsimp only)
  (try k_sweep)
  k_steps
  all_goals refine turn_out (by assumption) (by assumption) (fun _ h => h) ?_
  all_goals refine ⟨ja, jb, jc, _, congrArg (fun z => some (Value.int z _)) ?_⟩
  all_goals rw [List.take_add_one, hx, Option.toList_some, overZ_snoc]
end
section
local macro_rules | `(tactic| walk_at "none 0") => `(tactic| skip)
noncomputable def piece (c : Fin 6) : Str := match c with
  | 0 => Str.ofString "."
  | 1 => Str.ofString ".."
  | 2 => Str.ofString "="
  | 3 => Str.ofString "=="
  | 4 => Str.ofString "\n"
  | 5 => Str.ofString "\r"
local macro_rules | `(tactic| walk_at "eval ListComp") => `(tactic| (k_here; k_dflt (refine comp_eval (by with_unfolding_all rfl) (by decide) (by rfl) (by decide) ?_)))
local macro_rules | `(tactic| walk_at "pyIter ref") => `(tactic| fail "mine")
theorem rng : ∀ b : Nat, b < 11 → Builtin.Range.small 0 (b : Int) 1 = true ∧ Builtin.Range.rangeSize 0 (b : Int) 1 = (b : Int) := by decide +kernel
theorem pow6 : ∀ i : Nat, i < 5 → ((6 : Int) ^ ((0 : Int) + (i : Int)).toNat).natAbs < 1073741824 := by decide +kernel
theorem piece_len : ∀ c : Fin 6, (piece c).length ≤ 2 := by decide +kernel
theorem sum_pieces : ∀ cs : List (Fin 6), ((cs.map piece).map (·.length)).sum ≤ 2 * cs.length
  | [] => by simp
  | c :: r => by
    have h1 := piece_len c
    have h2 := sum_pieces r
    simp only [List.map_cons, List.sum_cons, List.length_cons] at h2 ⊢
    omega
theorem strs_pieces : ∀ ys : List Value, (∀ y ∈ ys, ∃ (c : Fin 6) (tk : Tok), y = .str (piece c) tk) → ∃ cs : List (Fin 6), StrsAre ys (cs.map piece) ∧ cs.length = ys.length
  | [], _ => ⟨[], .nil, rfl⟩
  | y :: r, h => by
    refine hide fun G9 bk9 => ?_
    obtain ⟨c, tk, rfl⟩ := h y List.mem_cons_self
    obtain ⟨cs, h1, h2⟩ := strs_pieces r fun z hz => h z (List.mem_cons_of_mem _ hz)
    refine bk9 ?_
    clear bk9 G9
    exact ⟨c :: cs, .cons _ _ h1, by simp [h2]⟩
local macro_rules | `(tactic| walk_at "binaryOp FloorDiv int int") => `(tactic| (refine floordiv_int (Int.ne_of_gt (Int.pow_pos (by decide))) ?_ (Or.inl (PyProof.noPylong_small (by assumption)))))
local macro_rules | `(tactic| walk_at "subscriptTail") => `(tactic| fail "mine")
theorem t_mail (w : World) (a : Int) (t : Tok) (b : Nat) (u : Tok) (hl : 0 ≤ a ∧ a < 1000000) (hb : 2 ≤ b ∧ b ≤ 4) :
    Tells w 2 108 [.int a t, .int b u] (fun _ => True) (fun _ _ v => ∃ (cs : List (Fin 6)) (tk : Tok), cs.length = b ∧ v = .str (Txt.join (Str.ofString "") (cs.map piece)) tk) := by
  intro dp un gd outer s fit hpre hd hu
  (have hX := fit.X; revert hX; k_fill; intro hX)
  k_dflt (refine enter_cells (binds := [(Str.ofString "number", .int a t), (Str.ofString "size", .int b u)]) (by assumption) (by k_is) (by k_is) (by omega) (BindsTo.of_eq rfl) rfl (by decide +kernel) ?_ rfl rfl rfl; intro p loose mean mg mb base L' h₁ tk cells eL' B F' N' Y' X' T'; k_cells Y'; (try simp only [List.cons_append, List.nil_append] at N'); (try dsimp only); (try k_fold))
  k_steps
  refine src_range rfl (by assumption) (by assumption) (by assumption) (rng b (by omega)).1 (rng b (by omega)).2 (by show b ≤ 2 ^ 24; omega) (fun _ => true) (fun _ y _ => ∃ (c : Fin 6) (tk : Tok), y = .str (piece c) tk) ?turn ?fin
  case turn =>
    intro h₂ F2 N2 ap g2 C i v h₃ tk₃ mC E' hC hi hV hn hk htk
    obtain ⟨tv, rfl⟩ := hV
    refine turn_name F2 N2 ap hC hn hk htk rfl rfl ?_
    intro h₁ oC mC' tk₁ F₁ N₁ hoC hx hkb gg htk₁
    refine tests0 ?_
    have hq := pow6 i (by omega)
    (try k_unmd)
    (try dsimp only)
    k_fold
    k_steps
    all_goals first
      | exact eout_of hkb (by assumption) N₁ hoC (fun _ _ _ => ⟨0, _, rfl⟩)
      | exact eout_of hkb (by assumption) N₁ hoC (fun _ _ _ => ⟨1, _, rfl⟩)
      | exact eout_of hkb (by assumption) N₁ hoC (fun _ _ _ => ⟨2, _, rfl⟩)
      | exact eout_of hkb (by assumption) N₁ hoC (fun _ _ _ => ⟨3, _, rfl⟩)
      | exact eout_of hkb (by assumption) N₁ hoC (fun _ _ _ => ⟨4, _, rfl⟩)
      | exact eout_of hkb (by assumption) N₁ hoC (fun _ _ _ => ⟨5, _, rfl⟩)
  case fin =>
    intro h₂ F2 N2 ap g2 D h' tk ys hD hl hv hk htk
    refine hide fun G9 bk9 => ?_
    obtain ⟨n, F3, N3⟩ := fin_start F2 N2 ap hk hD hl
    obtain ⟨hlen, hall⟩ := hv.all
    obtain ⟨cs, hcs, hcl⟩ := strs_pieces ys.toList fun y hy => by
      obtain ⟨j, hj⟩ := List.mem_iff_getElem?.mp hy
      exact hall j y hj
    refine bk9 ?_
    clear bk9 G9
    (try dsimp only)
    k_fold
    k_steps
    refine join_list ⟨_, (N3 _ List.mem_cons_self).1, rfl, _, rfl⟩ hcs ?_ ?_
    · have h1 := sum_pieces cs
      have h2 : (Str.ofString "").length = 0 := by decide +kernel
      rw [h2, List.length_map]
      omega
    · intro t' k htk'
      refine out_of F3 htk' ⟨cs, _, ?_, rfl⟩
      rw [hcl, hlen]
end
section
noncomputable def NewList (s s' : Shared) (l : Addr) (its : Array Value) : Prop := s'.heap.PlainList l its ∧ s.heap.objs.size ≤ l
theorem NewList.list {s s' : Shared} {l : Addr} {its : Array Value} (x : NewList s s' l its) : s'.heap.IsList l its := let ⟨⟨n, e⟩, _⟩ := x; ⟨_, e, rfl, n, rfl⟩
theorem NewList.of {s : Shared} {L : Addr} {h : Heap} {l : Addr} {its : Array Value} {n : Nat} {news : List (Addr × Obj)} {g : Array GenState} {d : Drawn} {t : Nat} {os : OsState} (N : News s.heap L h news) (hm : (l, ({ cls := .type "list", data := .seq its n } : Obj)) ∈ news) (hl : @LE.le Nat _ s.heap.objs.size l) : NewList s ⟨h, g, d, t, os⟩ l its :=
  ⟨⟨n, (N _ hm).1⟩, hl⟩
theorem NewList.news {h₀ h' : Heap} {s : Shared} {L l : Addr} {m : Str → Option Value} {its : Array Value} {news : List (Addr × Obj)} {g : Array GenState} {d : Drawn} {t : Nat} {os : OsState} (x : NewList s ⟨h', g, d, t, os⟩ l its) (F : Fr h₀ L s.heap m) (N : News h₀ L s.heap news) (hg : Grow s.heap h') :
    ∃ n, News h₀ L h' ((l, { cls := .type "list", data := .seq its n }) :: news) := by
  refine hide fun G9 bk9 => ?_
  obtain ⟨⟨n, e⟩, hf0⟩ := x
  refine bk9 ?_
  clear bk9 G9
  have hf : s.heap.get? l = none := Heap.get?_none_of_le hf0
  refine ⟨n, fun q hq => ?_⟩
  rcases List.mem_cons.mp hq with rfl | hq
  · refine ⟨e, fun q => ?_, ?_⟩
    · refine hide fun G9 bk9 => ?_
      obtain ⟨o, _, _, e', _⟩ := F.ns
      refine bk9 ?_
      clear bk9 G9
      rw [← q] at e'
      exact absurd (hf.symm.trans e') (by simp)
    · cases e0 : h₀.get? l with
      | none => rfl
      | some o => have := F.keep _ _ e0; rw [hf] at this; cases this
  · exact ⟨hg _ _ (N q hq).1, (N q hq).2⟩
theorem list_up {M : Model} {A : Around} {E : Value → Shared → Prop} {s : Shared} {h₀ : Heap} {L : Addr} {m : Str → Option Value} {news : List (Addr × Obj)} {vs : List Value} {Q : Value → Shared → Prop} (F : Fr h₀ L s.heap m) (N : News h₀ L s.heap news) (hsz : vs.length ≤ sizeLine)
    (h : ∀ (D : Addr) h', @LT.lt Nat _ L D → Fr h₀ L h' m → News h₀ L h' ((D, { cls := .type "list", data := .seq vs.toArray }) :: news) → Grow s.heap h' → Q (.ref D) { s with heap := h' }) : wpAny M A (newList vs) Q E s := by
  refine wpAny_newObj_type (h _ _ F.ns.lt (F.keeps fun b o e => Heap.get?_push_of_some _ e) (fun q hq => ?_) (fun b o e => Heap.get?_push_of_some _ e)) (by show vs.toArray.size ≤ sizeLine; rw [List.size_toArray]; exact hsz)
  rcases List.mem_cons.mp hq with rfl | hq
  · exact ⟨Heap.get?_push_size _ rfl, Ne.symm (Nat.ne_of_lt F.ns.lt), next_is_new F⟩
  · exact ⟨Heap.get?_push_of_some _ (N q hq).1, (N q hq).2⟩
end
section
local macro_rules | `(tactic| walk_at "newList") => `(tactic| (k_here; refine halt ?_))
theorem t_counts (w : World) (a : Str) (t : Tok) : Tells w 2 132 [.str a t] (fun _ => a.length ≤ 1000)
    (fun _s s' v => ∃ l t0 t1 t2 t3, v = .ref l ∧ NewList _s s' l #[.int (Txt.count a (Str.ofString "...")) t0, .int ((Txt.count a (Str.ofString ".") : Int) - 3 * (Txt.count a (Str.ofString "..."))) t1, .int (Txt.count a (Str.ofString "==")) t2, .int ((Txt.count a (Str.ofString "=") : Int) - 2 * (Txt.count a (Str.ofString "=="))) t3]) := by
  intro dp un gd outer s fit hpre hd hu
  (have hX := fit.X; revert hX; k_fill; intro hX)
  k_dflt (refine enter_plain (binds := [(Str.ofString "text", .str a t)]) (by assumption) (by k_is) (by k_is) (by omega) (BindsTo.of_eq rfl) (locs rfl) ?_ (by decide) rfl rfl rfl; intro p loose mean mg mb base L' h₁ eL' B F' N' X' T'; (try dsimp only); (try k_fold))
  k_steps
  refine unhalt ?_
  (rename Fr _ _ _ _ => F9); (rename News _ _ _ _ => N9)
  (with_unfolding_all refine' list_up F9 N9 (Nat.le_of_ble_eq_true rfl) ?_)
  intro D9 h9 hlt9 F9 N9 g9
  (try dsimp only)
  (try k_sweep)
  k_steps
  all_goals (refine out_of (by assumption) (by assumption) ⟨_, _, _, _, _, rfl, NewList.of (by assumption) List.mem_cons_self (by omega)⟩)
end
section
local macro_rules | `(tactic| walk_at "eval ListComp") => `(tactic| (k_here; k_dflt (refine comp_eval (by with_unfolding_all rfl) (by decide) (by rfl) (by decide) ?_)))
local macro_rules | `(tactic| walk_at "pyIter ref") => `(tactic| fail "mine")
noncomputable def rowsOf (a : Str) : List Str := Txt.split (Txt.replace (Txt.replace a (Str.ofString "\r\n") (Str.ofString "\n")) (Str.ofString "\r") (Str.ofString "\n")) (Str.ofString "\n")
noncomputable def dotted (r : Str) : Str := if (Txt.slice r none (some 1) == Str.ofString ".") = true then Str.ofString "." ++ r else r
theorem strs_map {f : Str → Str} : ∀ (rows : List Str) (vs : List Value), vs.length = rows.length → (∀ (j : Nat) (y : Value), vs[j]? = some y → ∃ yy tk, rows[j]? = some yy ∧ y = .str (f yy) tk) → StrsAre vs (rows.map f)
  | [], [], _, _ => .nil
  | r :: rows, v :: vs, hl, h => by
    obtain ⟨yy, tk, h1, rfl⟩ := h 0 v rfl
    cases h1
    exact .cons _ _ (strs_map rows vs (by simpa using hl) fun j y hj => by simpa using h (j + 1) y (by simpa using hj))
noncomputable def sentZ (a : Str) : Str := Txt.join (Str.ofString "\r\n") ((rowsOf a).map dotted)
local macro_rules | `(tactic| walk_at "call builtin:str.replace") => `(tactic| (k_here; refine halt ?_))
theorem t_sent (w : World) (a : Str) (t : Tok) (hla : a.length ≤ 1000) (hlb : (Txt.replace a (Str.ofString "\r\n") (Str.ofString "\n")).length ≤ 1000) (hlc : (Txt.replace (Txt.replace a (Str.ofString "\r\n") (Str.ofString "\n")) (Str.ofString "\r") (Str.ofString "\n")).length ≤ 1000) (hsum : (((rowsOf a).map dotted).map (·.length)).sum + (rowsOf a).length * 2 ≤ 100000) : Tells w 2 125 [.str a t] (fun s => 0 < s.toks)
    (fun _ s' v => ∃ z, v = .str (sentZ a) z) := by
  intro dp un gd outer s fit hpre hd hu
  (have hX := fit.X; revert hX; k_fill; intro hX)
  have hpos := hpre
  k_dflt (refine enter_plain (binds := [(Str.ofString "mail", .str a t)]) (by assumption) (by k_is) (by k_is) (by omega) (BindsTo.of_eq rfl) (locs rfl) ?_ (by decide) rfl rfl rfl; intro p loose mean mg mb base L' h₁ eL' B F' N' X' T'; (try dsimp only); (try k_fold))
  refine ren_toks s.toks (Nat.le_add_right _ _) ?_
  intro tk htk
  k_steps
  refine unhalt ?_
  refine replace_up ?r1 ?r2 ?r3 ?r4 ?r5 ?r6 ?r7; (case r1 => omega); (case r2 => omega); (case r3 => omega); (case r4 => decide +kernel); (case r5 => first | assumption | omega); (case r6 => decide +kernel); intro t9 k9 hk9; (try dsimp only at hk9)
  k_steps
  refine unhalt ?_
  refine replace_up ?h1 ?h2 ?h3 ?h4 ?h5 ?h6 ?h7; (case h1 => omega); (case h2 => omega); (case h3 => omega); (case h4 => decide +kernel); (case h5 => first | assumption | omega); (case h6 => decide +kernel); intro t9 k9 hk9; (try dsimp only at hk9)
  k_steps
  rename_i tkL t9L k9L hk9L l0 hL0 k0 el0 al0 bl0 ll0 h3 F3 N3
  have hlen0 : (strValues l0).length = (l0.map (·.1)).length := by simp [strValues]
  refine src_list rfl F3 N3 ⟨_, (N3 _ List.mem_cons_self).1, rfl, _, rfl⟩ ?hsz (fun _ => true) (fun i y _ => ∃ yy tk, (l0.map (·.1))[i]? = some yy ∧ y = .str (dotted yy) tk) ?turn ?fin
  case hsz => (show _ ≤ 16777216); rw [List.size_toArray, hlen0, el0]; show (rowsOf a).length ≤ _; omega
  case turn =>
    intro h₂ F2 N2 ap g2 C i v h₃ tk₃ mC E' hC hi hV hn hk htk
    obtain ⟨y, ty, rfl, hy⟩ := StrsAre.item al0 i v (by simpa using hV)
    refine turn_name F2 N2 ap hC hn hk htk rfl rfl ?_
    intro h₁ oC mC' tk₁ F₁ N₁ hoC hx hkb gg htk₁
    refine tests0 ?_
    (try k_unmd)
    (try dsimp only)
    k_fold
    k_steps
    have hyl : y.length ≤ 1000 := Nat.le_trans (bl0 y (List.mem_of_getElem? hy)) hlc
    refine slice_up_ns (s := ⟨_, _, _, _, _⟩) (hsz := ?hsz) F₁ N₁ ?_
    case hsz => show _ ≤ 16777216; omega
    intro h8 t8 k8 F8 N8 g8 hk8
    k_steps
    all_goals first
      | exact eout_of hkb g8 N₁ hoC (fun _ _ _ => ⟨y, _, hy, by rw [dotted, if_pos (by assumption)]⟩)
      | exact eout_of hkb g8 N₁ hoC (fun _ _ _ => ⟨y, _, hy, by rw [dotted, if_neg (by simp only [*]; exact Bool.false_ne_true)]⟩)
  case fin =>
    intro h₂ F2 N2 ap g2 D h' tk ys hD hl hv hk htk
    obtain ⟨n, F3, N3⟩ := fin_start F2 N2 ap hk hD hl
    obtain ⟨hlen, hall⟩ := hv.all
    have hst : StrsAre ys.toList ((rowsOf a).map dotted) := by
      refine strs_map _ _ ?_ ?_
      · rw [hlen, List.size_toArray, hlen0, el0]; rfl
      · intro j y hj
        obtain ⟨yy, tk, h1, h2⟩ := hall j y hj
        rw [el0] at h1
        exact ⟨yy, tk, h1, h2⟩
    (try dsimp only)
    (try k_fold)
    k_steps
    refine join_list ⟨_, (N3 _ List.mem_cons_self).1, rfl, _, rfl⟩ hst ?_ ?_
    · have h2 : (Str.ofString "\r\n").length = 2 := by decide +kernel
      rw [h2, List.length_map]
      omega
    · intro t' k htk'
      exact out_of F3 htk' ⟨_, rfl⟩
end
section
section
variable {w : World} {dp un : Nat} {gd : Option (List Code)} {outer : List Env} {s : Shared} {post : Shared → Shared → Value → Prop}
  {name qual : Str} {params : Arguments} {body : List Stmt} {scope : Scope} {dV kV doc pm cdv ct oc : Value} {an od : Option Addr} {osl : Array (Option Value)} {f : Addr} {args : List Value} {binds : List (Str × Value)}
theorem enter_cellsT (x : Fit w dp un gd outer s.heap) (ho : (h39 w.params).lookup f = some ⟨oc, od, .func (fnOf name qual params body scope dV kV doc pm an cdv ct), osl⟩) (hcd : codeIn (h39 w.params) cdv qual = true) (hroom : dp < recursionLimit)
    (hbind : BindsTo s (fnOf name qual params body scope dV kV doc pm an cdv ct) ⟨args, []⟩ binds) (hkind : (binds.all fun y => scope.names.lookup y.1 == some .local || scope.names.lookup y.1 == some .cell) = true)
    (hnd : ((cellsFrom 0 scope.names []).map (·.1)).Nodup)
    (h : ∀ p loose mean mg mb base L' h₁ tk cells, L' = s.heap.objs.size → s.toks ≤ tk → Below (spot dp un gd outer) base outer s.heap → Fr s.heap L' h₁ (bindL (envOfC qual scope L' f cdv).kindOf binds fun _ => none) → News s.heap L' h₁ cells →
      CellsAre (bindC (envOfC qual scope L' f cdv).kindOf binds fun _ => none) (cellsFrom (L' + 1) scope.names []) cells → (h39 w.params).In s.heap → Top p loose mean mg mb s.heap →
      wpAny (model PySem.Challenge.rw_to0015_01.row.prog w) ((spot dp un gd outer).deeper (envOfC qual scope L' f cdv)) (execs body (envOfC qual scope L' f cdv)) (fun fl s' => s.toks ≤ s'.toks → Out s post (flowVal fl) s') (fun _ _ => False) { s with heap := h₁, toks := tk })
    (hco : scope.isCoroutine = false) (hgen : scope.isGenerator = false) (hk : scope.kind = .function) :
    codeAny (model PySem.Challenge.rw_to0015_01.row.prog w) (spot dp un gd outer) (.call (.ref f) ⟨args, []⟩) (fun r s' => ∃ v, r = .ok (.ret v) ∧ Out s post v s') s := by
  refine hide fun G9 bk9 => ?_
  obtain ⟨⟨base, B⟩, X, ⟨p, loose, mean, mg, mb, T⟩⟩ := x
  refine bk9 ?_
  clear bk9 G9
  refine codeAny_with_toks (n := s.toks) (Nat.le_refl _) ?_
  refine codeAny_call_function hroom (X _ _ ho) rfl hco hgen rfl (codeRec_of X hcd) (hbind _ _ _ _ ?_)
  refine wpAny_mono (wpAny_toks_of (n := s.toks) (by first | exact Nat.le_refl _ | exact Nat.le_add_right _ _) (wpAny_newFunctionEnv_cells hk (kindsX hkind _) (Q := fun env' s' => env' = envOfC qual scope s.heap.objs.size f cdv ∧ s'.heap.NoLimit ∧ ∃ h₁ tk cells, s' = { s with heap := h₁, toks := tk } ∧ Fr s.heap s.heap.objs.size h₁ (bindL (envOfC qual scope s.heap.objs.size f cdv).kindOf binds fun _ => none) ∧ News s.heap s.heap.objs.size h₁ cells ∧ CellsAre (bindC (envOfC qual scope s.heap.objs.size f cdv).kindOf binds fun _ => none) (cellsFrom (s.heap.objs.size + 1) scope.names []) cells) fun env' he s' x => ?_)) (fun env' s' hq => ?_) fun _ _ e => e.2
  · subst he
    refine hide fun G9 bk9 => ?_
    obtain ⟨h₁, tk, rfl, _⟩ := x.done
    have hk₁ := x.toInCall.keep
    obtain ⟨cells, NC, Y⟩ := Cl.news (h₀ := s.heap) (Nat.le_refl _) fun n c hm => ⟨x.cell n c (lookup_of_mem_nodup (cellsFrom_names scope.names 0 (s.heap.objs.size + 1) [] [] rfl ▸ hnd) hm), x.above n c hm⟩
    refine bk9 ?_
    clear bk9 G9
    exact ⟨rfl, T.nolimit.keeps hk₁, h₁, tk, cells, rfl, ⟨x.toInCall.ns, hk₁, Nat.le_refl _⟩, NC, Y⟩
  · refine hide fun G9 bk9 => ?_
    obtain ⟨htk, rfl, hnl, h₁, tk, cells, rfl, F, NC, Y⟩ := hq
    refine bk9 ?_
    clear bk9 G9
    refine ⟨hnl, codeAny_func ?_⟩
    refine wpAny_mono (h p loose mean mg mb base s.heap.objs.size h₁ tk cells rfl htk B F NC Y X T) (fun fl s' hl => ?_) fun _ _ y => y.elim
    exact fun ht => ⟨_, rfl, by cases fl <;> exact hl ht⟩
end
noncomputable def WStep (h₀ : Heap) (L : Addr) (s : Shared) (J : Nat → (Str → Option Value) → List (Addr × Obj) → Nat → Prop) (n : Nat) (f : Flow) (s₃ : Shared) : Prop :=
  f = .next ∧ ∃ h' tk m₂ news₂ n', s₃ = { s with heap := h', toks := tk } ∧ Fr h₀ L h' m₂ ∧ News h₀ L h' news₂ ∧ n' < n ∧ J n' m₂ news₂ tk
section
variable {prog : Program} {w : World} {A : Around} {E : Value → Shared → Prop} {Q : Flow → Shared → Prop} {s : Shared} {env : Env} {h₀ : Heap} {L : Addr}
theorem While_T {test : Expr} {body : List Stmt} {pos : Pos} {m : Str → Option Value} {news : List (Addr × Obj)} (J : Nat → (Str → Option Value) → List (Addr × Obj) → Nat → Prop) {n₀ : Nat}
    (F : Fr h₀ L s.heap m) (N : News h₀ L s.heap news) (hJ : J n₀ m news s.toks)
    (turn : ∀ n m₁ news₁ h₁ tk₁, Fr h₀ L h₁ m₁ → News h₀ L h₁ news₁ → J n m₁ news₁ tk₁ →
      wpAny (model prog w) A (isTrue test env (eval test env)) (fun b s₂ =>
        if b = true then wpAny (model prog w) A (execs body env) (fun f s' => tk₁ ≤ s'.toks → WStep h₀ L s J n f s') E s₂ else Q .next s₂) E { s with heap := h₁, toks := tk₁ })
    (hE : PassesOwn (model prog w) A env E := by passes_own) :
    wpAny (model prog w) A (exec (.While test body [] pos) env) Q E s := by
  refine wpAny_While (codeAny_whileLoop (fun n s' => ∃ h₁ tk₁ m₁ news₁, s' = { s with heap := h₁, toks := tk₁ } ∧ Fr h₀ L h₁ m₁ ∧ News h₀ L h₁ news₁ ∧ J n m₁ news₁ tk₁) ?_ n₀ ⟨s.heap, s.toks, m, news, rfl, F, N, hJ⟩)
  rintro n s' ⟨h₁, tk₁, m₁, news₁, rfl, F₁, N₁, J₁⟩
  refine wpAny_mono (wpAny_toks_of (n := tk₁) (Nat.le_refl _) (turn n m₁ news₁ h₁ tk₁ F₁ N₁ J₁)) (fun b s₂ h₂ => ?_) (fun e s e' => hE e s e'.2)
  obtain ⟨ht₂, h₂⟩ := h₂
  cases b with
  | false =>
    simp only [Bool.false_eq_true, if_false] at h₂ ⊢
    exact wpAny_execs_nil h₂
  | true =>
    simp only [if_true] at h₂ ⊢
    refine wpAny_mono (wpAny_toks_of (n := tk₁) ht₂ h₂) (fun f s₃ h₃ => ?_) (fun e s e' => hE e s e'.2)
    refine hide fun G9 bk9 => ?_
    obtain ⟨ht₃, h₃⟩ := h₃
    obtain ⟨rfl, h', tk, m₂, news₂, n', rfl, F₂, N₂, hn, J₂⟩ := h₃ ht₃
    refine bk9 ?_
    clear bk9 G9
    exact ⟨n', hn, h', tk, m₂, news₂, rfl, F₂, N₂, J₂⟩
end
end
section
noncomputable def Lits : List DictEntry → List (Str × Int) → Prop
  | [], [] => True
  | e :: r, (k, n) :: q => (∃ t tt, e.key = .str k tt ∧ e.val = .int n t ∧ 0 < t ∧ t < 600) ∧ Lits r q
  | _, _ => False
noncomputable def tokIn (l : List (Str × Int)) (x : Str) : Option Int := (l.find? fun p => x == p.1).map (·.2)
theorem lits_find {x : Str} : ∀ {es : List DictEntry} {l : List (Str × Int)}, Lits es l → match tokIn l x with
    | some n => ∃ t, findBy Value.isStrOf es.toArray x = some (.int n t) ∧ 0 < t ∧ t < 600
    | none => findBy Value.isStrOf es.toArray x = none
  | [], [], _ => rfl
  | e :: r, (k, n) :: q, h => by
    refine hide fun G9 bk9 => ?_
    obtain ⟨⟨t, tt, h1, h2, h3, h4⟩, hr⟩ := h
    refine bk9 ?_
    clear bk9 G9
    have ih := lits_find (x := x) hr
    have hk : Value.isStrOf x e.key = (x == k) := by rw [h1]; (first | rfl | exact BEq.comm | (simp [Value.isStrOf, BEq.comm]))
    unfold tokIn findBy at *
    rw [List.find?_toArray] at *
    rw [List.find?_cons, List.find?_cons, hk]
    cases hx : x == k with
    | true => exact ⟨t, by rw [← h2]; rfl, h3, h4⟩
    | false => exact ih
noncomputable def tokList : List (Str × Int) := [(Str.ofString "!", 54), (Str.ofString "!=", 28), (Str.ofString "%", 24), (Str.ofString "%=", 40), (Str.ofString "&", 19), (Str.ofString "&=", 41), (Str.ofString "(", 7), (Str.ofString ")", 8), (Str.ofString "*", 16), (Str.ofString "**", 35), (Str.ofString "**=", 46), (Str.ofString "*=", 38), (Str.ofString "+", 14), (Str.ofString "+=", 36), (Str.ofString ",", 12), (Str.ofString "-", 15), (Str.ofString "-=", 37), (Str.ofString "->", 51), (Str.ofString ".", 23), (Str.ofString "...", 52), (Str.ofString "/", 17), (Str.ofString "//", 47), (Str.ofString "//=", 48), (Str.ofString "/=", 39), (Str.ofString ":", 11), (Str.ofString ":=", 53), (Str.ofString ";", 13), (Str.ofString "<", 20), (Str.ofString "<<", 33), (Str.ofString "<<=", 44), (Str.ofString "<=", 29), (Str.ofString "=", 22), (Str.ofString "==", 27), (Str.ofString ">", 21), (Str.ofString ">=", 30), (Str.ofString ">>", 34), (Str.ofString ">>=", 45), (Str.ofString "@", 49), (Str.ofString "@=", 50), (Str.ofString "[", 9), (Str.ofString "]", 10), (Str.ofString "^", 32), (Str.ofString "^=", 43), (Str.ofString "{", 25), (Str.ofString "|", 18), (Str.ofString "|=", 42), (Str.ofString "}", 26), (Str.ofString "~", 31)]
theorem tok_K (w : World) : ∃ (es : List DictEntry) (n : Nat), (h39 w.params).lookup 91 = some ⟨.type "dict", none, .dict es.toArray n, #[]⟩ ∧ KeysLit w.params es ∧ Lits es tokList := by
  refine ⟨_, _, rfl, ?_, ?_⟩
  · repeat (first | exact trivial | refine ⟨⟨_, _, rfl, rfl⟩, ?_⟩)
  · unfold tokList
    repeat (first | exact trivial | refine ⟨⟨_, _, rfl, rfl, by decide, by decide⟩, ?_⟩)
noncomputable def tokZ (x : Str) : Option Int := tokIn tokList x
section
variable {w : World} {A : Around} {E : Value → Shared → Prop} {s : Shared} {h₀ : Heap} {L : Addr} {m : Str → Option Value} {x : Str} {t : Tok}
theorem tok_map (w : World) {h : Heap} (X : (h39 w.params).In h) : ∃ f : Str → Option Value, h.MapOf (strKind PySem.Challenge.rw_to0015_01.row.prog w) 91 f ∧ ∀ x, match tokZ x with
    | some n => ∃ t, f x = some (.int n t) ∧ 0 < t ∧ t < 600
    | none => f x = none := by
  refine hide fun G9 bk9 => ?_
  obtain ⟨es, n, h1, h2, h3⟩ := tok_K w
  refine bk9 ?_
  clear bk9 G9
  exact ⟨_, mapOf_K X h1 h2, fun x => lits_find h3⟩
theorem tok_in {Q : Value → Shared → Prop} (X : (h39 w.params).In s.heap) (h : Q (.bool (tokZ x).isSome) { s with toks := s.toks + 1 }) :
    wpAny (model PySem.Challenge.rw_to0015_01.row.prog w) A (compareOp .In (.str x t) (.ref 91)) Q E s := by
  refine hide fun G9 bk9 => ?_
  obtain ⟨f, hm, hf⟩ := tok_map w X
  refine bk9 ?_
  clear bk9 G9
  have hfx := hf x
  refine wpAny_in_of (strKind_is _ w x t) (by decide +kernel) hm ?_
  cases e : tokZ x with
  | none => rw [e] at hfx h; dsimp only at hfx; rw [hfx]; exact h
  | some n => rw [e] at hfx h; dsimp only at hfx; obtain ⟨t', h1, _⟩ := hfx; rw [h1]; exact h
theorem tok_get {d : Int} {td : Tok} {Q : Value → Shared → Prop} (X : (h39 w.params).In s.heap) (h : ∀ t', (t' = td ∨ 0 < t' ∧ t' < 600) → Q (.int ((tokZ x).getD d) t') { s with toks := s.toks + 1 }) :
    wpAny (model PySem.Challenge.rw_to0015_01.row.prog w) A (call (.builtin "dict.get") [.ref 91, .str x t, .int d td]) Q E s := by
  refine hide fun G9 bk9 => ?_
  obtain ⟨f, hm, hf⟩ := tok_map w X
  refine bk9 ?_
  clear bk9 G9
  have hfx := hf x
  refine call_meetsIn PySem.F.slot_dict_get hm.typeIs PySem.F.entry_dict_get (PySem.F.args_dict_get_3 _ _ _) (meets_dict_get_default _ 91 (strKind_is _ w x t) (by decide +kernel) (.int d td)) ⟨f, hm, ?_⟩
  cases e : tokZ x with
  | none => rw [e] at hfx h; dsimp only at hfx; rw [hfx]; exact h td (.inl rfl)
  | some n => rw [e] at hfx h; dsimp only at hfx; obtain ⟨t', h1, h2⟩ := hfx; rw [h1]; exact h t' (.inr h2)
end
end
section
noncomputable def cut (a : Str) (p : Nat) (k : Int) : Str := Txt.slice a (some (p : Int)) (some ((p : Int) + k))
noncomputable def wideZ (a : Str) (p : Nat) : Nat := if (tokZ (cut a p 3)).isSome = true then 3 else if (tokZ (cut a p 2)).isSome = true then 2 else 1
noncomputable def readZ (a : Str) : Nat → Nat → List Int
  | 0, _ => []
  | n + 1, p => if p < a.length then (tokZ (cut a p (wideZ a p))).getD 0 :: readZ a n (p + wideZ a p) else []
theorem wide_pos (a : Str) (p : Nat) : 1 ≤ wideZ a p ∧ wideZ a p ≤ 3 := by
  unfold wideZ
  split
  · omega
  · split <;> omega
theorem tok_pos {t9 k8 K : Nat} (h : t9 = k8 ∨ 0 < t9 ∧ t9 < 600) (hk : 600 ≤ k8) (hK: k8 < K) : 0 < t9 ∧ t9 < K := by omega
theorem readZ_enough (a : Str) : ∀ (n m q : Nat), a.length - q ≤ n → a.length - q ≤ m → readZ a n q = readZ a m q
  | 0, 0, q, _, _ => rfl
  | 0, m + 1, q, h1, h2 => by rw [readZ, readZ, if_neg (by omega)]
  | n + 1, 0, q, h1, h2 => by rw [readZ, readZ, if_neg (by omega)]
  | n + 1, m + 1, q, h1, h2 => by
    rw [readZ, readZ]
    by_cases h : q < a.length
    · rw [if_pos h, if_pos h]
      have := (wide_pos a q).1
      rw [readZ_enough a n m (q + wideZ a q) (by omega) (by omega)]
    · rw [if_neg h, if_neg h]
local macro_rules | `(tactic| walk_at "exec While") => `(tactic| (k_here; refine halt ?_))
local macro_rules | `(tactic| walk_at "eval ListComp") => `(tactic| (k_here; k_dflt (refine comp_eval (by with_unfolding_all rfl) (by decide) (by rfl) (by decide) ?_)))
local macro_rules | `(tactic| walk_at "subscriptTail Name Slice str ref") => `(tactic| (k_here; refine halt ?_))
local macro_rules | `(tactic| walk_at "execs cons") => `(tactic| (k_here; refine wpAny_execs_cons (wpAny_with_toks (n := 650) (by ((try dsimp only); omega)) ?_)))
local macro_rules | `(tactic| walk_at "compareOp In str ref") => `(tactic| (k_here; k_dflt (refine tok_in (Frag.In.keeps (by assumption) (Fr.keep (by assumption))) ?_)))
theorem ldC {M : Model} {A : Around} {E : Value → Shared → Prop} {s : Shared} {name : Str} {scope : Scope} {L a : Addr} {cd : Value} {h₀ : Heap} {m : Str → Option Value} {x : Str} {pos : Pos} {v : Value} {Q : Value → Shared → Prop} (F : Fr h₀ L s.heap m) (hv : m x = some v) (h : Q v s)
    (hk : scope.kind = .function := by rfl) (hl : (envOfC name scope L a cd).kindOf x = some .local := by rfl) (hd : (x == ("__debug__" : Str)) = false := by decide +kernel) :
    wpAny M A (eval (.Name x pos) (envOfC name scope L a cd)) Q E s := wpAny_Name (ldnLoc F hv h hk hl) hd
local macro_rules | `(tactic| walk_at "eval Name") => `(tactic| (k_here; (with_reducible show wpAny _ _ (eval (PySem.Expr.Name _ _) (envOfC _ _ _ _ _)) _ _ _); k_dflt (refine' ldC ?k1 ?k2 ?_; (case k1 => with_reducible assumption); (case k2 => first | with_reducible assumption | ((try dsimp only); (repeat (refine (if_neg (by decide +kernel)).trans ?_)); with_reducible assumption)))))
local macro_rules | `(tactic| walk_at "pyIter ref") => `(tactic| (k_here; refine halt ?_))
local macro_rules | `(tactic| walk_at "call builtin:dict.get") => `(tactic| (k_here; k_dflt (refine tok_get (Frag.In.keeps (by assumption) (Fr.keep (by assumption))) ?_); intro t9 ht9))
theorem vals2 {p : Nat → Bool} {h : Heap} {ys : List Value} (x : Vals p (fun i y _ => ∃ t, y = .int ((i : Int) + 2) t) h 2 ys) :
    (p 0 = true ∧ p 1 = true ∧ ∃ t0 t1, ys = [.int 2 t0, .int 3 t1]) ∨ (p 0 = true ∧ p 1 = false ∧ ∃ t0, ys = [.int 2 t0]) ∨ (p 0 = false ∧ p 1 = true ∧ ∃ t1, ys = [.int 3 t1]) ∨ (p 0 = false ∧ p 1 = false ∧ ys = []) := by
  cases x with
  | yes x h1 f1 =>
    obtain ⟨t1, rfl⟩ := f1
    cases x with
    | yes x h0 f0 =>
      obtain ⟨t0, rfl⟩ := f0
      cases x
      exact .inl ⟨h0, h1, _, _, rfl⟩
    | no x h0 => cases x; exact .inr (.inr (.inl ⟨h0, h1, _, rfl⟩))
  | no x h1 =>
    cases x with
    | yes x h0 f0 =>
      obtain ⟨t0, rfl⟩ := f0
      cases x
      exact .inr (.inl ⟨h0, h1, _, rfl⟩)
    | no x h0 => cases x; exact .inr (.inr (.inr ⟨h0, h1, rfl⟩))
noncomputable def RJ (a : Str) (t : Tok) (T : Nat) (D cP cT : Addr) (n : Nat) (m : Str → Option Value) (news : List (Addr × Obj)) (tk : Nat) : Prop :=
  T ≤ tk ∧ m (Str.ofString "numbers") = some (.ref D) ∧ ∃ (p : Nat) (tp : Tok) (ys : List Value) (c : Nat) (ns : List Int) (oP oT : Obj), news = [(D, listOf ys.toArray c), (cP, oP), (cT, oT)] ∧ oP.data = .cell (some (.int p tp)) ∧ oT.data = .cell (some (.str a t)) ∧
    n = a.length - p ∧ IntsTok tk ys ns ∧ ns ++ readZ a (a.length - p) p = readZ a a.length 0 ∧ ys.length ≤ p ∧ p ≤ a.length + 2
theorem IntsTok.snoc {u u' : Nat} {ys : List Value} {ns : List Int} {v : Int} {t9 : Tok} (h : IntsTok u ys ns) (hu : u ≤ u') (h0 : @LT.lt Nat _ 0 t9) (h1 : @LT.lt Nat _ t9 u') : IntsTok u' (ys ++ [.int v t9]) (ns ++ [v]) := by
  refine ⟨by simp [h.1], fun i w hw => ?_⟩
  by_cases hi : i < ys.length
  · rw [List.getElem?_append_left hi] at hw
    refine hide fun G9 bk9 => ?_
    obtain ⟨n, t, e1, e2, e3, e4⟩ := h.2 i w hw
    refine bk9 ?_
    clear bk9 G9
    exact ⟨n, t, by rw [List.getElem?_append_left (by rw [← h.1]; exact hi)]; exact e1, e2, e3, Nat.lt_of_lt_of_le e4 hu⟩
  · rw [List.getElem?_append_right (by omega)] at hw
    obtain ⟨hi2, rfl⟩ : i - ys.length = 0 ∧ w = .int v t9 := by
      cases hq : i - ys.length with
      | zero => rw [hq] at hw; exact ⟨rfl, (Option.some.inj hw).symm⟩
      | succ k => rw [hq] at hw; simp at hw
    exact ⟨v, t9, by rw [List.getElem?_append_right (by rw [← h.1]; omega), ← h.1, hi2]; rfl, rfl, h0, h1⟩
theorem RJ.next {a : Str} {t : Tok} {T : Nat} {D cP cT : Addr} {p : Nat} {tp : Tok} {ys : List Value} {c : Nat} {ns : List Int} {oP oT : Obj} {m' : Str → Option Value} {tk₁ tk : Nat} {t9 : Tok} (hp : p < a.length) (hT : T ≤ tk) (hm : m' (Str.ofString "numbers") = some (.ref D))
    (hoP : oP.data = .cell (some (.int ((p : Int) + (wideZ a p : Int)) tp))) (hoT : oT.data = .cell (some (.str a t))) (hys : IntsTok tk₁ ys ns) (htk : tk₁ ≤ tk) (h0 : @LT.lt Nat _ 0 t9) (h1 : @LT.lt Nat _ t9 tk) (hns : ns ++ readZ a (a.length - p) p = readZ a a.length 0) (hl : ys.length ≤ p) :
    RJ a t T D cP cT (a.length - (p + wideZ a p)) m' [(D, { cls := .type "list", data := .seq (ys.toArray.push (.int ((tokZ (Txt.slice a (some (p : Int)) (some ((p : Int) + (wideZ a p : Int))))).getD 0) t9)) (c + 1) }), (cP, oP), (cT, oT)] tk := by
  have hw := wide_pos a p
  refine ⟨hT, hm, p + wideZ a p, tp, ys ++ [_], c + 1, ns ++ [(tokZ (cut a p (wideZ a p))).getD 0], oP, oT, ?_, ?_, hoT, rfl, hys.snoc htk h0 h1, ?_, ?_, by omega⟩
  · rw [← List.push_toArray]; rfl
  · rw [hoP, Int.natCast_add]
  · rw [← hns, List.append_assoc]
    congr 1
    rw [show a.length - p = (a.length - p - 1) + 1 from (Nat.sub_add_cancel (Nat.sub_pos_of_lt hp)).symm, readZ, if_pos hp]
    rw [readZ_enough a (a.length - (p + wideZ a p)) (a.length - p - 1) _ (by omega) (by omega)]
    rfl
  · rw [List.length_append, List.length_singleton]; omega
theorem t_read (w : World) (a : Str) (t : Tok) (hla : a.length ≤ 40) : Tells w 2 113 [.str a t] (fun s => 650 ≤ s.toks)
    (fun s s' v => ∃ l ys, v = .ref l ∧ NewList s s' l ys ∧ IntsTok s'.toks ys.toList (readZ a a.length 0)) := by
  intro dp un gd outer s fit hpre hd hu
  (have hX := fit.X; revert hX; k_fill; intro hX)
  have hpos := hpre
  k_dflt (refine enter_cellsT (binds := [(Str.ofString "text", .str a t)]) (by assumption) (by k_is) (by k_is) (by omega) (BindsTo.of_eq rfl) rfl (by decide +kernel) ?_ rfl rfl rfl; intro p loose mean mg mb base L' h₁ tk cells eL' htk0 B F' N' Y' X' T'; k_cells Y'; (try simp only [List.cons_append, List.nil_append] at N'); (try dsimp only); (try k_fold))
  k_steps
  refine unhalt ?_
  rename Fr _ _ _ _ => hF
  rename News _ _ _ _ => hN
  rename_i lD h4 ll1 dD h3 ll2 h2 h1 h0 oP0 dP0 a700
  (try dsimp only)
  have hne1 : L' + 1 + 1 ≠ lD := by omega
  have hne2 : L' + 1 ≠ lD := by omega
  refine wpAny_mono (E := fun _ _ => False) (While_T (n₀ := a.length) (RJ a t s.toks lD (L' + 1 + 1) (L' + 1)) hF (fun p hp => hN p (List.mem_cons_of_mem _ hp)) ?start ?turn ?pass) (fun _ _ h => h) fun _ _ h => h.elim
  case start =>
    refine ⟨by (try dsimp only); omega, rfl, 0, _, [], 0, [], _, _, rfl, by assumption, ?_, by simp, ⟨rfl, fun i v hv => by simp at hv⟩, rfl, Nat.le_refl _, Nat.zero_le _⟩
    refine Eq.trans (by assumption) rfl
  case pass => passes_own
  case turn =>
    clear hF hN
    rintro n m₁ news₁ h₁ tk₁ F₁ N₁ ⟨htk₁, hnum, p, tp, ys, c, ns, oP, oT, rfl, hoP, hoT, rfl, hys, hns, hyp, hpl⟩
    (try dsimp only)
    (try k_fold)
    have hyl : ys.length ≤ 1000 := by omega
    k_steps
    · refine unhalt ?_
      refine src_tuple rfl (by assumption) (by assumption) ⟨_, head_at (by assumption), rfl, _, rfl⟩ ?hsz (fun i => (tokZ (cut a p ((i : Int) + 2))).isSome) (fun i y _ => ∃ t, y = .int ((i : Int) + 2) t) ?tn ?fn
      case hsz => show 2 ≤ 16777216; omega
      case tn =>
        intro h₂ F2 N2 ap g2 C i v h₃ tk₃ mC E' hC hi hV hn hk htk
        have hV' : ∃ t, v = .int ((i : Int) + 2) t := by
          have hi2 : i < 2 := hi
          rcases lt2 hi2 with rfl | rfl <;> exact ⟨_, (Option.some.inj hV).symm⟩
        have hi2 : i < 2 := hi
        obtain ⟨tv, rfl⟩ := hV'
        refine turn_name F2 N2 ap hC hn hk htk rfl rfl ?_
        intro h₄ oC mC' tk₄ F₄ N₄ hoC hx hkb gg htk₄
        have hn4 := hoC.ns (N₄ (C, oC) List.mem_cons_self).1
        refine tests1 ?_
        (try k_unmd)
        (try dsimp only)
        k_fold
        k_steps
        refine unhalt ?_
        refine slice_up_ss (s := ⟨_, _, _, _, _⟩) (hsz := ?hsz) (by assumption) (by assumption) ?_
        case hsz => show _ ≤ 16777216; omega
        intro h8 t8 k8 F8 N8 g8 hk8
        k_steps
        all_goals first
          | (refine ⟨by assumption, eout2 hkb (by assumption) hn4 fun _ _ _ => ⟨_, rfl⟩⟩)
          | (refine ⟨by assumption, nout2 hkb (by assumption) hn4⟩)
          | (exact eout2 hkb (by assumption) hn4 fun _ _ _ => ⟨_, rfl⟩)
          | (exact nout2 hkb (by assumption) hn4)
      case fn =>
        intro h₂ F2 N2 ap g2 D h' tk zs hD hl hv hk htk
        refine hide fun G9 bk9 => ?_
        obtain ⟨n9, F3, N3⟩ := fin_start F2 N2 ap hk hD hl
        obtain ⟨zs⟩ := zs
        refine bk9 ?_
        clear bk9 G9
        have hcases := vals2 hv
        rw [show ((0 : Nat) : Int) + 2 = 2 from rfl, show ((1 : Nat) : Int) + 2 = 3 from rfl] at hcases
        clear hv
        rcases hcases with ⟨p0, p1, t0, t1, hz⟩ | ⟨p0, p1, t0, hz⟩ | ⟨p0, p1, t1, hz⟩ | ⟨p0, p1, hz⟩
        all_goals (try dsimp only at hz)
        all_goals subst hz
        all_goals (try dsimp only)
        all_goals (try k_fold)
        · k_steps
          refine unhalt ?_
          (try rename Int => M9)
          first
            | (obtain rfl : M9 = (wideZ a p : Int) := by (unfold wideZ; simp only [p0, p1, if_true, if_false, Bool.false_eq_true]; omega))
            | (have hw1 : (1 : Int) = (wideZ a p : Int) := by (unfold wideZ; simp only [p0, p1, if_true, if_false, Bool.false_eq_true]; omega))
          refine slice_up_ss (s := ⟨_, _, _, _, _⟩) (hsz := by (show _ ≤ 16777216; omega)) (by assumption) (by assumption) ?_
          intro h8 t8 k8 F8 N8 g8 hk8
          k_steps
          rename Fr _ _ _ _ => hF9
          rename News _ _ _ _ => hN9
          refine append_head (D := lD) (rest := [(L' + 1 + 1, oP), (L' + 1, oT)]) hF9 (fun p hp => hN9 p (by repeat (first | exact hp | refine List.mem_cons_of_mem _ ?_))) (by intro q hq; rcases List.mem_cons.mp hq with rfl | hq; exact hne1; rw [List.mem_singleton.mp hq]; exact hne2) ?_ (hsz := by rw [List.size_toArray]; show _ ≤ 16777216; omega)
          intro h10 F10 N10
          k_steps
          rename Fr _ _ _ _ => F12
          rename News _ _ _ _ => N12
          rename tk₁ ≤ _ => htkE
          rename _ = Data.cell _ => hoP12
          rename _ ∨ _ ∧ _ => ht9
          dsimp only at hk8 htkE
          rename 650 ≤ _ => h650
          dsimp only at h650
          have hk700 : 600 ≤ k8 := by omega
          refine ⟨rfl, _, _, _, _, _, rfl, F12, N12, ?_, RJ.next ?_ ?_ ((if_neg (by decide +kernel)).trans hnum) hoP12 hoT hys ?_ ?_ ?_ hns hyp⟩
          all_goals first
            | with_reducible assumption
            | exact Nat.sub_lt_sub_left (Int.ofNat_lt.mp (by with_reducible assumption)) (Nat.lt_add_of_pos_right (wide_pos a p).1)
            | exact Int.ofNat_lt.mp (by with_reducible assumption)
            | omega
            | (have hwp := wide_pos a p; omega)
            | exact Nat.le_trans htk₁ htkE
            | exact (tok_pos (K := k8 + 1) ht9 hk700 (Nat.lt_succ_self _)).1
            | exact (tok_pos ht9 hk700 (by dsimp only; omega)).2
        · k_steps
          refine unhalt ?_
          (try rename Int => M9)
          first
            | (obtain rfl : M9 = (wideZ a p : Int) := by (unfold wideZ; simp only [p0, p1, if_true, if_false, Bool.false_eq_true]; omega))
            | (have hw1 : (1 : Int) = (wideZ a p : Int) := by (unfold wideZ; simp only [p0, p1, if_true, if_false, Bool.false_eq_true]; omega))
          refine slice_up_ss (s := ⟨_, _, _, _, _⟩) (hsz := by (show _ ≤ 16777216; omega)) (by assumption) (by assumption) ?_
          intro h8 t8 k8 F8 N8 g8 hk8
          k_steps
          rename Fr _ _ _ _ => hF9
          rename News _ _ _ _ => hN9
          refine append_head (D := lD) (rest := [(L' + 1 + 1, oP), (L' + 1, oT)]) hF9 (fun p hp => hN9 p (by repeat (first | exact hp | refine List.mem_cons_of_mem _ ?_))) (by intro q hq; rcases List.mem_cons.mp hq with rfl | hq; exact hne1; rw [List.mem_singleton.mp hq]; exact hne2) ?_ (hsz := by rw [List.size_toArray]; show _ ≤ 16777216; omega)
          intro h10 F10 N10
          k_steps
          rename Fr _ _ _ _ => F12
          rename News _ _ _ _ => N12
          rename tk₁ ≤ _ => htkE
          rename _ = Data.cell _ => hoP12
          rename _ ∨ _ ∧ _ => ht9
          dsimp only at hk8 htkE
          rename 650 ≤ _ => h650
          dsimp only at h650
          have hk700 : 600 ≤ k8 := by omega
          refine ⟨rfl, _, _, _, _, _, rfl, F12, N12, ?_, RJ.next ?_ ?_ ((if_neg (by decide +kernel)).trans hnum) hoP12 hoT hys ?_ ?_ ?_ hns hyp⟩
          all_goals first
            | with_reducible assumption
            | exact Nat.sub_lt_sub_left (Int.ofNat_lt.mp (by with_reducible assumption)) (Nat.lt_add_of_pos_right (wide_pos a p).1)
            | exact Int.ofNat_lt.mp (by with_reducible assumption)
            | omega
            | (have hwp := wide_pos a p; omega)
            | exact Nat.le_trans htk₁ htkE
            | exact (tok_pos (K := k8 + 1) ht9 hk700 (Nat.lt_succ_self _)).1
            | exact (tok_pos ht9 hk700 (by dsimp only; omega)).2
        · k_steps
          refine unhalt ?_
          (try rename Int => M9)
          first
            | (obtain rfl : M9 = (wideZ a p : Int) := by (unfold wideZ; simp only [p0, p1, if_true, if_false, Bool.false_eq_true]; omega))
            | (have hw1 : (1 : Int) = (wideZ a p : Int) := by (unfold wideZ; simp only [p0, p1, if_true, if_false, Bool.false_eq_true]; omega))
          refine slice_up_ss (s := ⟨_, _, _, _, _⟩) (hsz := by (show _ ≤ 16777216; omega)) (by assumption) (by assumption) ?_
          intro h8 t8 k8 F8 N8 g8 hk8
          k_steps
          rename Fr _ _ _ _ => hF9
          rename News _ _ _ _ => hN9
          refine append_head (D := lD) (rest := [(L' + 1 + 1, oP), (L' + 1, oT)]) hF9 (fun p hp => hN9 p (by repeat (first | exact hp | refine List.mem_cons_of_mem _ ?_))) (by intro q hq; rcases List.mem_cons.mp hq with rfl | hq; exact hne1; rw [List.mem_singleton.mp hq]; exact hne2) ?_ (hsz := by rw [List.size_toArray]; show _ ≤ 16777216; omega)
          intro h10 F10 N10
          k_steps
          rename Fr _ _ _ _ => F12
          rename News _ _ _ _ => N12
          rename tk₁ ≤ _ => htkE
          rename _ = Data.cell _ => hoP12
          rename _ ∨ _ ∧ _ => ht9
          dsimp only at hk8 htkE
          rename 650 ≤ _ => h650
          dsimp only at h650
          have hk700 : 600 ≤ k8 := by omega
          refine ⟨rfl, _, _, _, _, _, rfl, F12, N12, ?_, RJ.next ?_ ?_ ((if_neg (by decide +kernel)).trans hnum) hoP12 hoT hys ?_ ?_ ?_ hns hyp⟩
          all_goals first
            | with_reducible assumption
            | exact Nat.sub_lt_sub_left (Int.ofNat_lt.mp (by with_reducible assumption)) (Nat.lt_add_of_pos_right (wide_pos a p).1)
            | exact Int.ofNat_lt.mp (by with_reducible assumption)
            | omega
            | (have hwp := wide_pos a p; omega)
            | exact Nat.le_trans htk₁ htkE
            | exact (tok_pos (K := k8 + 1) ht9 hk700 (Nat.lt_succ_self _)).1
            | exact (tok_pos ht9 hk700 (by dsimp only; omega)).2
        · k_steps
          refine unhalt ?_
          (try rename Int => M9)
          first
            | (obtain rfl : M9 = (wideZ a p : Int) := by (unfold wideZ; simp only [p0, p1, if_true, if_false, Bool.false_eq_true]; omega))
            | (have hw1 : (1 : Int) = (wideZ a p : Int) := by (unfold wideZ; simp only [p0, p1, if_true, if_false, Bool.false_eq_true]; omega))
          refine slice_up_ss (s := ⟨_, _, _, _, _⟩) (hsz := by (show _ ≤ 16777216; omega)) (by assumption) (by assumption) ?_
          intro h8 t8 k8 F8 N8 g8 hk8
          k_steps
          rename Fr _ _ _ _ => hF9
          rename News _ _ _ _ => hN9
          refine append_head (D := lD) (rest := [(L' + 1 + 1, oP), (L' + 1, oT)]) hF9 (fun p hp => hN9 p (by repeat (first | exact hp | refine List.mem_cons_of_mem _ ?_))) (by intro q hq; rcases List.mem_cons.mp hq with rfl | hq; exact hne1; rw [List.mem_singleton.mp hq]; exact hne2) ?_ (hsz := by rw [List.size_toArray]; show _ ≤ 16777216; omega)
          intro h10 F10 N10
          k_steps
          rename Fr _ _ _ _ => F12
          rename News _ _ _ _ => N12
          rename tk₁ ≤ _ => htkE
          rename _ = Data.cell _ => hoP12
          rename _ ∨ _ ∧ _ => ht9
          dsimp only at hk8 htkE
          rename 650 ≤ _ => h650
          dsimp only at h650
          have hk700 : 600 ≤ k8 := by omega
          refine ⟨rfl, _, _, _, _, _, rfl, F12, N12, ?_, RJ.next ?_ ?_ ((if_neg (by decide +kernel)).trans hnum) hoP12 hoT hys ?_ ?_ ?_ hns hyp⟩
          all_goals first
            | with_reducible assumption
            | exact Nat.sub_lt_sub_left (Int.ofNat_lt.mp (by with_reducible assumption)) (Nat.lt_add_of_pos_right (wide_pos a p).1)
            | exact Int.ofNat_lt.mp (by with_reducible assumption)
            | omega
            | (have hwp := wide_pos a p; omega)
            | exact Nat.le_trans htk₁ htkE
            | exact (tok_pos (K := k8 + 1) ht9 hk700 (Nat.lt_succ_self _)).1
            | exact (tok_pos ht9 hk700 (by dsimp only; omega)).2
    · refine out_of (by assumption) (by assumption) ⟨lD, ys.toArray, rfl, NewList.of (by assumption) List.mem_cons_self (by omega), ?_⟩
      have e0 : ns = readZ a a.length 0 := by
        rw [← hns, show a.length - p = 0 by omega, readZ, List.append_nil]
      rw [← e0]
      exact ⟨hys.1, fun i v hv => by
        refine hide fun G9 bk9 => ?_
        obtain ⟨n, t, e1, e2, e3, e4⟩ := hys.2 i v (by simpa using hv)
        refine bk9 ?_
        clear bk9 G9
        exact ⟨n, t, e1, e2, e3, Nat.lt_of_lt_of_le e4 (by dsimp only; omega)⟩⟩
end
section
noncomputable def numsOf (ns : List Int) : List Int := (List.take 5 ns).map (fun k' => k'.fmod (10 ^ Int.toNat 6)) ++ List.drop ((((List.take 5 ns).map (fun k' => k'.fmod (10 ^ 6))).length : Nat) : Int).toNat [193, 111, 2, 0, 27]
theorem numsOf_ok (ns : List Int) : (numsOf ns).length = 5 ∧ ∀ z ∈ numsOf ns, 0 ≤ z ∧ z < 1000000 := by
  constructor
  · simp only [numsOf, List.length_append, List.length_map, List.length_take, List.length_drop, Int.toNat_natCast, List.length_cons, List.length_nil]
    omega
  · intro z hz
    rcases List.mem_append.mp hz with hz | hz
    · refine hide fun G9 bk9 => ?_
      obtain ⟨k, _, rfl⟩ := List.mem_map.mp hz
      refine bk9 ?_
      clear bk9 G9
      have e : (10 : Int) ^ Int.toNat 6 = 1000000 := by decide
      rw [e]
      exact ⟨Int.fmod_nonneg_of_pos _ (by decide), Int.fmod_lt_of_pos _ (by decide)⟩
    · have := List.mem_of_mem_drop hz
      simp only [List.mem_cons, List.not_mem_nil, or_false] at this
      omega
local macro_rules | `(tactic| walk_at "newList") => `(tactic| (k_here; refine halt ?_))
local macro_rules | `(tactic| kmk_nums) => `(tactic| exact kmk_from (by l_ints) (by kmk_sign))
theorem t_numbers (w : World) (l : Addr) (vs : List Value) (ns : List Int) (hv : IntsAre vs ns) (hsz : vs.length ≤ 63) : Tells w 2 98 [.ref l] (fun s => s.heap.IsList l vs.toArray)
    (fun s s' v => ∃ l' ws, v = .ref l' ∧ NewList s s' l' ws.toArray ∧ IntsAre ws (numsOf ns)) := by
  intro dp un gd outer s fit hpre hd hu
  (have hX := fit.X; revert hX; k_fill; intro hX)
  have hpos := hpre
  k_dflt (refine enter_plain (binds := [(Str.ofString "script", .ref l)]) (by assumption) (by k_is) (by k_is) (by omega) (BindsTo.of_eq rfl) (locs rfl) ?_ (by decide) rfl rfl rfl; intro p loose mean mg mb base L' h₁ eL' B F' N' X' T'; (try dsimp only); (try k_fold))
  k_steps
  refine unhalt ?_
  (rename Fr _ _ _ _ => F9); (rename News _ _ _ _ => N9)
  (with_unfolding_all refine' list_up F9 N9 (Nat.le_of_ble_eq_true rfl) ?_)
  intro D9 h9 hlt9 F9 N9 g9
  (try dsimp only)
  (try k_sweep)
  k_steps
  all_goals exact out_of (by assumption) (by assumption) ⟨_, _, rfl, NewList.of (by assumption) List.mem_cons_self (by omega), by assumption⟩
end
section
open PySem.Builtin in
theorem nextOf_range_item {prog : Program} {w : World} {A : Around} {E : Value → Shared → Prop} {s : Shared} {it : Addr} {x left step : Int} {Q : Value → Shared → Prop} (hit : IsRangeIter s.heap it x left step) (hleft : 0 < left)
    (hQ : ∀ h', IsRangeIter h' it (x + step) (left - 1) step → Heap.SameBut it s.heap h' → Q (.int x s.toks) { s with heap := h', toks := s.toks + 1 }) :
    wpAny (model prog w) A (SmallTypes.nextOf (.ref it)) Q E s := by
  have hT : s.TypeIs (.ref it) "range_iterator" := ⟨_, hit, rfl⟩
  unfold SmallTypes.nextOf
  refine wpAny_bind (wpAny_callSpecial?_slot (name := Str.ofString "__next__") hT F.slot_range_iterator_next
    (call_meets F.slot_range_iterator_next hT F.entry_range_iterator_next (F.args_range_iterator_next_1 _) (AutoRange.range_iterator___next___range_iterator_1 it x left step (by omega)) ⟨hit, ?_⟩))
  exact wpAny_pure (hQ _ (Heap.get?_update_self _ (Heap.get?_update_self _ hit rfl) rfl) ((Heap.SameBut.update ..).trans (Heap.SameBut.update ..)))
open PySem.Builtin in
theorem nextOf_range_end {prog : Program} {w : World} {A : Around} {E : Value → Shared → Prop} {s : Shared} {it : Addr} {x left step : Int} {Q : Value → Shared → Prop} (hh : A.handled = none) (hit : IsRangeIter s.heap it x left step) (hleft : left ≤ 0)
    (hE : ∀ h' e, Heap.ExtBut it s.heap h' → (∃ o, h'.get? e = some o ∧ o.cls = .type "StopIteration") → E (.ref e) { s with heap := h' }) : wpAny (model prog w) A (SmallTypes.nextOf (.ref it)) Q E s := by
  have hT : s.TypeIs (.ref it) "range_iterator" := ⟨_, hit, rfl⟩
  unfold SmallTypes.nextOf
  refine wpAny_bind (wpAny_callSpecial?_slot (name := Str.ofString "__next__") hT F.slot_range_iterator_next
    (wpAny_call_entry F.slot_range_iterator_next hT F.entry_range_iterator_next ?_ (F.args_range_iterator_next_1 _)))
  show wpAny _ _ (field (.ref it) 0 >>= _) _ _ s
  refine wpAny_bind (wpAny_field hit rfl (x := rawInt x) rfl ?_)
  show wpAny _ _ (field (.ref it) 1 >>= _) _ _ s
  refine wpAny_bind (wpAny_field hit rfl (x := rawInt left) rfl ?_)
  show wpAny _ _ (field (.ref it) 2 >>= _) _ _ s
  refine wpAny_bind (wpAny_field hit rfl (x := rawInt step) rfl ?_)
  show wpAny _ _ (if left ≤ 0 then _ else _) _ _ s
  rw [if_pos hleft]
  refine wpAny_bind (wpAny_rule ?_)
  refine wpAny_bind ?_
  show wpAny _ _ (newExc (.type "StopIteration") [] >>= _) _ _ _
  refine wpAny_bind ?_
  simp only [newExc, newTuple]
  refine wpAny_bind (wpAny_newObj_type ?_ (by size_fits))
  refine wpAny_bind (m := firstArgMember _ _) (wpAny_of_eq (a := Value.none) (by first | rfl | (simp only [firstArgMember]; rfl)) ?_)
  refine wpAny_newObj_type ?_ (by size_fits)
  simp only [raiseNew]
  refine wpAny_bind (wpAny_handled ?_)
  first | rw [show A.in1.handled = none from hh] | rw [hh]
  refine wpAny_bind (wpAny_pure (wpAny_throw ?_))
  exact hE _ _ (((Heap.ExtBut.refl it s.heap).push _).push _) ⟨_, Heap.get?_push_size _ rfl, rfl⟩
open PySem.Builtin in
theorem nextOf_gen {prog : Program} {w : World} {A : Around} {E : Value → Shared → Prop} {s : Shared} {a : Addr} {g n : Nat} {gs : GenState} {P : Nat → Shared → Shared → Prop} {Y : Protocol} {Q : Value → Shared → Prop} (hh : A.handled = none)
    (hl : s.heap.NoLimit) (hroom : A.depth < recursionLimit)
    (hg : s.heap.IsGen a g) (hgs : s.gens[g]? = some gs)
    (hgo : gs.Goes (model prog w) A.in1 (fun n s₀ r s₁ => r = .ok (.ret .none) ∧ P n s₀ s₁) Y n (.send .none) (s.setGen g .running))
    (hY : ∀ v s₁ gs', gs'.bare = true → Y (n - 1) (s.setGen g .running) v s₁ (fun r' s'' => match n with
        | 0 => False
        | m + 1 => gs'.Goes (model prog w) A.in1 (fun n s₀ r s₁ => r = .ok (.ret .none) ∧ P n s₀ s₁) Y m r' s'') → Q v (s₁.setGen g gs'))
    (hP : ∀ s₁, P n (s.setGen g .running) s₁ → ∀ h' e, (∀ b o, s₁.heap.get? b = some o → h'.get? b = some o) → (∃ o, h'.get? e = some o ∧ o.cls = .type "StopIteration") → E (.ref e) { s₁.setGen g .finished with heap := h' }) :
    wpAny (model prog w) A (SmallTypes.nextOf (.ref a)) Q E s := by
  unfold SmallTypes.nextOf
  refine wpAny_bind (wpAny_callSpecial?_slot (name := Str.ofString "__next__") hg.typeIs slot_gen_next
    (wpAny_call_entry slot_gen_next hg.typeIs entry_gen_next ?_ (args_gen_next _)))
  show wpAny _ A.in1 (Builtin.Generator.genWake (.ref a) (.send .none)) _ _ s
  unfold Builtin.Generator.genWake
  refine wpAny_bind (wpAny_holding (wpAny_genNumber hg (wpAny_bind (wpAny_genState hgs ?_))))
  cases gs with
  | running => exact hgo.elim
  | finished => exact hgo.elim
  | _ =>
    refine wpAny_bind (wpAny_roomToWake hl hroom ?_)
    show wpAny _ A.in1 (.resume g (.send .none) [] _) _ _ s
    refine wpAny_resumeQ hgs hgo (fun x s₁ hx => ?_) (fun v s₁ gs' hb hv => ?_)
    · obtain ⟨rfl, hp⟩ := hx
      show wpAny _ _ (newExc (.type "StopIteration") [] >>= _) _ _ _
      refine wpAny_bind ?_
      simp only [newExc, newTuple]
      refine wpAny_bind (wpAny_newObj_type ?_ (by size_fits))
      refine wpAny_bind (m := firstArgMember _ _) (wpAny_of_eq (a := Value.none) (by first | rfl | (simp only [firstArgMember]; rfl)) ?_)
      refine wpAny_newObj_type ?_ (by size_fits)
      simp only [raiseNew]
      refine wpAny_bind (wpAny_bind (wpAny_handled ?_))
      first | rw [show A.in1.handled = none from hh] | rw [hh]
      refine wpAny_throw ?_
      exact hP s₁ hp _ _ (fun b o hb => Heap.get?_push_of_some _ (Heap.get?_push_of_some _ hb)) ⟨_, Heap.get?_push_size _ rfl, rfl⟩
    · exact wpAny_pure ⟨v, rfl, wpAny_pure (hY v s₁ gs' hb hv)⟩
end
section
open PySem.Builtin
noncomputable def AllB (g : Array GenState) : Prop := ∀ y ∈ g, y.bare = true
noncomputable def KP (W : Addr → Prop) (h h' : Heap) : Prop := ∀ b o, ¬ W b → h.get? b = some o → h'.get? b = some o
noncomputable def orW (l : List Addr) (W : Addr → Prop) : Addr → Prop := fun b => b ∈ l ∨ W b
noncomputable def Live (X : List Addr) (h : Heap) : Prop := ∀ c ∈ X, ∃ o, h.get? c = some o
theorem Live.kb {X Y : List Addr} {h h' : Heap} (x : Live X h) (k : KB Y h h') (y : Live Y h') : Live X h' := fun c hc => by
  by_cases hy : c ∈ Y
  · exact y c hy
  · obtain ⟨o, e⟩ := x c hc
    exact ⟨o, k c o hy e⟩
theorem Live.kp {X : List Addr} {W : Addr → Prop} {h h' : Heap} (x : Live X h) (k : KP W h h') (hx : ∀ c ∈ X, ¬ W c) : Live X h' := fun c hc => by
  obtain ⟨o, e⟩ := x c hc
  exact ⟨o, k c o (hx c hc) e⟩
structure Mv (W : Addr → Prop) (s s' : Shared) : Prop where
  eq : ∃ h' gs' tk, s' = { s with heap := h', gens := gs', toks := tk }
  kb : KP W s.heap s'.heap
  bare : AllB s.gens → AllB s'.gens
theorem Mv.refl (W : Addr → Prop) (s : Shared) : Mv W s s := ⟨⟨_, _, _, rfl⟩, fun _ _ _ e => e, id⟩
theorem Mv.trans {W : Addr → Prop} {a b c : Shared} (x : Mv W a b) (y : Mv W b c) : Mv W a c := by
  refine hide fun G9 bk9 => ?_
  obtain ⟨⟨h1, g1, t1, rfl⟩, k1, b1⟩ := x
  obtain ⟨⟨h2, g2, t2, rfl⟩, k2, b2⟩ := y
  refine bk9 ?_
  clear bk9 G9
  exact ⟨⟨_, _, _, rfl⟩, fun d o n e => k2 d o n (k1 d o n e), fun h => b2 (b1 h)⟩
theorem Mv.mono {W W' : Addr → Prop} {a b : Shared} (x : Mv W a b) (h : ∀ c, W c → W' c) : Mv W' a b := ⟨x.eq, fun d o n e => x.kb d o (fun q => n (h d q)) e, x.bare⟩
theorem Mv.up {l : List Addr} {W : Addr → Prop} {a b : Shared} (x : Mv W a b) : Mv (orW l W) a b := x.mono fun _ h => .inr h
theorem Mv.heap {W : Addr → Prop} {l : List Addr} {s : Shared} {h' : Heap} {tk : Nat} (k : KB l s.heap h') (hl : ∀ c ∈ l, W c) : Mv W s { s with heap := h', toks := tk } := ⟨⟨_, _, _, rfl⟩, fun d o n e => k d o (fun q => n (hl d q)) e, id⟩
structure GSrc (prog : Program) (w : World) (A : Around) (a : Addr) (X : List Addr) (W : Addr → Prop) (n : Nat) (val : Nat → Value) (St : Nat → Shared → Prop) : Prop where
  live : ∀ i s, St i s → Live X s.heap
  frame : ∀ i s s', St i s → KB X s.heap s'.heap → Live X s'.heap → s'.gens = s.gens → St i s'
  item : ∀ i (s : Shared) (Q : Value → Shared → Prop) (E : Value → Shared → Prop), i < n → St i s → (∀ s', St (i + 1) s' → Mv W s s' → Q (val i) s') → wpAny (model prog w) A (SmallTypes.nextOf (.ref a)) Q E s
  done : ∀ (s : Shared) (Q : Value → Shared → Prop) (E : Value → Shared → Prop), n < 5 → St n s → (∀ s' e, Mv W s s' → (∃ o, s'.heap.get? e = some o ∧ o.cls = .type "StopIteration") → E (.ref e) s') → wpAny (model prog w) A (SmallTypes.nextOf (.ref a)) Q E s

structure ZA (z TI TO i1 a : Addr) (W : Addr → Prop) : Prop where
  TIz : TI ≠ z
  TOz : TO ≠ z
  i1z : i1 ≠ z
  TITO : TI ≠ TO
  TIi1 : TI ≠ i1
  TOi1 : TO ≠ i1
  zW : ¬ W z
  TIW : ¬ W TI
  TOW : ¬ W TO
  i1W : ¬ W i1
noncomputable def ZSt (z TI TO i1 a : Addr) (N : Nat) (St : Nat → Shared → Prop) (f0 : Value) (i : Nat) (s : Shared) : Prop :=
  IsZip s.heap z TI TO f0 ∧ IsPair s.heap TI (.ref i1) (.ref a) ∧ (∃ x y, IsPair s.heap TO x y) ∧ IsRangeIter s.heap i1 (i : Nat) ((N : Int) - (i : Nat)) 1 ∧ St i s
section
variable {prog : Program} {w : World} {A : Around} {E : Value → Shared → Prop} {s : Shared}
theorem KB.one {b : Addr} {h h' : Heap} {W : List Addr} (x : Heap.SameBut b h h') (hb : b ∈ W) : KB W h h' := fun c o hc e => x.extBut c o (fun q => hc (q ▸ hb)) e
theorem KB.ext {b : Addr} {h h' : Heap} {W : List Addr} (x : Heap.ExtBut b h h') (hb : b ∈ W) : KB W h h' := fun c o hc e => x c o (fun q => hc (q ▸ hb)) e
theorem zg_item {z TI TO i1 a : Addr} {X : List Addr} {W : Addr → Prop} {n N i : Nat} {val : Nat → Value} {St : Nat → Shared → Prop} {Q : Value → Shared → Prop} (G : GSrc prog w A a X W n val St) (D : ZA z TI TO i1 a W)
    (hX : ∀ c ∈ [z, TO, i1], c ∈ X) (hi : i < n) (hN : i < N) (hst : ZSt z TI TO i1 a N St .none i s)
    (hQ : ∀ s' (T : Addr) tk, ZSt z TI TO i1 a N St (rawInt T) (i + 1) s' → IsPair s'.heap T (.int i tk) (val i) → T ≠ z → Mv (orW [z, TO, i1] W) s s' → Q (.ref T) s') :
    wpAny (model prog w) A (Builtin.«zip.__next__» ⟨[.ref z], []⟩) (fun fin s' => ∃ v, fin = .done (.ret v) ∧ Q v s') E s := by
  refine hide fun G9 bk9 => ?_
  obtain ⟨hz, hTI, ⟨xa, xb, hTO⟩, h1, hS⟩ := hst
  refine bk9 ?_
  clear bk9 G9
  show wpAny _ _ (field (.ref z) 2 >>= _) _ _ _
  refine wpAny_bind (wpAny_field hz rfl (x := .bool false) rfl ?_)
  show wpAny _ _ (field (.ref z) 3 >>= _) _ _ _
  refine wpAny_bind (wpAny_field hz rfl (x := .ref TI) rfl ?_)
  refine wpAny_bind (wpAny_seqItems hTI rfl ?_)
  show wpAny _ _ (Builtin.SmallTypes.ownedTupleIsFree (.ref z) >>= _) _ _ _
  refine wpAny_bind ?_
  unfold Builtin.SmallTypes.ownedTupleIsFree
  refine wpAny_bind (wpAny_field hz rfl (x := .none) rfl (wpAny_pure ?_))
  simp only [if_true]
  refine wpAny_bind (wpAny_rule ?_)
  refine wpAny_bind (wpAny_field hz rfl (x := .ref TO) rfl ?_)
  refine wpAny_bind (wpAny_setField_rec hz (by simp) fun h₁ hz₁ hs₁ => ?_)
  replace hz₁ : IsZip h₁ z TI TO .ellipsis := hz₁
  refine wpAny_bind ?_
  simp only [List.zipIdx_cons, List.zipIdx_nil, List.forIn_cons, List.forIn_nil]
  have k₁ : KB [z, TO, i1] s.heap h₁ := KB.one hs₁ (by simp)
  refine wpAny_bind (wpAny_bind (wpAny_onRaise ?_))
  show wpAny _ _ (Builtin.SmallTypes.nextOf (.ref i1) >>= _) _ _ _
  refine wpAny_bind (nextOf_range_item (x := (i : Nat)) (left := (N : Int) - (i : Nat)) (step := 1) (hs₁.extBut _ _ D.i1z h1) (by omega) fun h₂ h1₂ hs₂ => wpAny_pure ?_)
  have k₂ : KB [z, TO, i1] s.heap h₂ := k₁.trans (KB.one hs₂ (by simp))
  have hTO₂ : IsPair h₂ TO xa xb := hs₂.extBut _ _ D.TOi1 (hs₁.extBut _ _ D.TOz hTO)
  refine wpAny_bind (wpAny_seqItems hTO₂ rfl ?_)
  refine wpAny_bind (wpAny_updateSeq_pair hTO₂ fun h₃ hTO₃ hs₃ => ?_)
  have k₃ : KB [z, TO, i1] s.heap h₃ := k₂.trans (KB.one hs₃ (by simp))
  replace hTO₃ : IsPair h₃ TO (.int (i : Nat) s.toks) xb := hTO₃
  refine wpAny_bind (wpAny_letGo (wpAny_pure ?_))
  refine wpAny_bind (wpAny_bind (wpAny_onRaise ?_))
  show wpAny _ _ (Builtin.SmallTypes.nextOf (.ref a) >>= _) _ _ _
  have live3 : ∀ {h : Heap}, KB [z, TO, i1] s.heap h → (∃ o, h.get? z = some o) → (∃ o, h.get? TO = some o) → (∃ o, h.get? i1 = some o) → Live X h := fun k a1 a2 a3 => (G.live i s hS).kb k fun c hc => by
    rcases List.mem_cons.mp hc with rfl | hc
    · exact a1
    · rcases List.mem_cons.mp hc with rfl | hc
      · exact a2
      · rw [List.mem_singleton.mp hc]; exact a3
  have hS₃ : St i { s with heap := h₃, toks := s.toks + 1 } := G.frame i s _ hS (k₃.mono hX) (live3 k₃ ⟨_, hs₃.extBut _ _ D.TOz.symm (hs₂.extBut _ _ D.i1z.symm hz₁)⟩ ⟨_, hTO₃⟩ ⟨_, hs₃.extBut _ _ D.TOi1.symm h1₂⟩) rfl
  refine wpAny_bind (G.item i _ _ _ hi hS₃ fun s₄ hS₄ m₄ => wpAny_pure ?_)
  have hTO₄ : IsPair s₄.heap TO (.int (i : Nat) s.toks) xb := m₄.kb _ _ D.TOW hTO₃
  have hz₄ : IsZip s₄.heap z TI TO .ellipsis := m₄.kb _ _ D.zW (hs₃.extBut _ _ D.TOz.symm (hs₂.extBut _ _ D.i1z.symm hz₁))
  have h1₄ : IsRangeIter s₄.heap i1 ((i : Nat) + 1) ((N : Int) - (i : Nat) - 1) 1 := m₄.kb _ _ D.i1W (hs₃.extBut _ _ D.TOi1.symm h1₂)
  have hTI₄ : IsPair s₄.heap TI (.ref i1) (.ref a) := m₄.kb _ _ D.TIW (hs₃.extBut _ _ D.TITO (hs₂.extBut _ _ D.TIi1 (hs₁.extBut _ _ D.TIz hTI)))
  have m₄' : Mv (orW [z, TO, i1] W) s s₄ := (Mv.heap (tk := s.toks + 1) k₃ fun c hc => .inl hc).trans m₄.up
  refine wpAny_bind (wpAny_seqItems hTO₄ rfl ?_)
  refine wpAny_bind (wpAny_updateSeq_pair hTO₄ fun h₅ hTO₅ hs₅ => ?_)
  replace hTO₅ : IsPair h₅ TO (.int (i : Nat) s.toks) (val i) := hTO₅
  refine wpAny_bind (wpAny_letGo (wpAny_pure (wpAny_pure ?_)))
  refine wpAny_bind (wpAny_seqItems hTO₅ rfl ?_)
  refine wpAny_bind (wpAny_newTuple ?_)
  have hz₅ : IsZip h₅ z TI TO .ellipsis := hs₅.extBut _ _ D.TOz.symm hz₄
  have hzlt : z < h₅.objs.size := Heap.lt_size hz₅
  show wpAny _ _ (Builtin.SmallTypes.ownedTupleHandOut (.ref z) (.ref h₅.objs.size) >>= _) _ _ _
  refine wpAny_bind ?_
  unfold Builtin.SmallTypes.ownedTupleHandOut
  have hz₆ : IsZip (h₅.push { cls := .type "tuple", data := .seq #[.int (i : Nat) s.toks, val i] }) z TI TO .ellipsis := Heap.get?_push_of_some _ hz₅
  refine wpAny_bind (wpAny_setField_rec hz₆ (by simp) fun h₇ hz₇ hs₇ => ?_)
  replace hz₇ : IsZip h₇ z TI TO (rawInt h₅.objs.size) := hz₇
  refine wpAny_setField_rec hz₇ (by simp) fun h₈ hz₈ hs₈ => ?_
  replace hz₈ : IsZip h₈ z TI TO (rawInt h₅.objs.size) := hz₈
  have up : ∀ c o, c ≠ z → h₅.get? c = some o → h₈.get? c = some o := fun c o c1 e => hs₈.extBut _ _ c1 (hs₇.extBut _ _ c1 (Heap.get?_push_of_some _ e))
  have hT₈ : IsPair h₈ h₅.objs.size (.int (i : Nat) s.toks) (val i) := hs₈.extBut _ _ (Nat.ne_of_gt hzlt) (hs₇.extBut _ _ (Nat.ne_of_gt hzlt) (Heap.get?_push_size _ rfl))
  have k₅ : KB [z, TO, i1] s₄.heap h₅ := KB.one hs₅ (by simp)
  have k₈ : KB [z, TO, i1] s₄.heap h₈ := k₅.trans fun c o hc e => up c o (fun q => hc (by simp [q])) e
  have m₈ : Mv (orW [z, TO, i1] W) s { s₄ with heap := h₈ } := m₄'.trans (Mv.heap (s := s₄) (tk := s₄.toks) k₈ fun c hc => .inl hc)
  have live8 : Live X h₈ := (G.live _ s₄ hS₄).kb k₈ fun c hc => by
    rcases List.mem_cons.mp hc with rfl | hc
    · exact ⟨_, hz₈⟩
    · rcases List.mem_cons.mp hc with rfl | hc
      · exact ⟨_, up _ _ D.TOz hTO₅⟩
      · rw [List.mem_singleton.mp hc]; exact ⟨_, up _ _ D.i1z (hs₅.extBut _ _ D.TOi1.symm h1₄)⟩
  refine wpAny_pure ⟨_, rfl, hQ { s₄ with heap := h₈ } _ s.toks ⟨hz₈, up _ _ D.TIz (hs₅.extBut _ _ D.TITO hTI₄), ⟨_, _, up _ _ D.TOz hTO₅⟩, ?_, G.frame _ s₄ _ hS₄ (k₈.mono hX) live8 rfl⟩ hT₈ ?_ m₈⟩
  · have e1 : ((i + 1 : Nat) : Int) = (i : Nat) + 1 := by omega
    have e2 : (N : Int) - ((i + 1 : Nat) : Int) = (N : Int) - (i : Nat) - 1 := by omega
    rw [e2, e1]
    exact up _ _ D.i1z (hs₅.extBut _ _ D.TOi1.symm h1₄)
  · exact Nat.ne_of_gt hzlt
end
end
section
open PySem.Builtin
section
variable {prog : Program} {w : World} {A : Around} {E : Value → Shared → Prop} {s : Shared}
theorem zg_end {z TI TO i1 a : Addr} {X : List Addr} {W : Addr → Prop} {n N i : Nat} {val : Nat → Value} {St : Nat → Shared → Prop} {Q : Fin → Shared → Prop} (hh : A.handled = none) (G : GSrc prog w A a X W n val St) (D : ZA z TI TO i1 a W)
    (hX : ∀ c ∈ [z, TO, i1], c ∈ X) (hi : i = N ∨ (i = n ∧ n < 5 ∧ i < N)) (hst : ZSt z TI TO i1 a N St .none i s)
    (hE : ∀ s' e, (∃ o, s'.heap.get? e = some o ∧ o.cls = .type "StopIteration") → Mv (orW [z, TO, i1] W) s s' → E (.ref e) s') :
    wpAny (model prog w) A (Builtin.«zip.__next__» ⟨[.ref z], []⟩) Q E s := by
  refine hide fun G9 bk9 => ?_
  obtain ⟨hz, hTI, ⟨xa, xb, hTO⟩, h1, hS⟩ := hst
  refine bk9 ?_
  clear bk9 G9
  show wpAny _ _ (field (.ref z) 2 >>= _) _ _ _
  refine wpAny_bind (wpAny_field hz rfl (x := .bool false) rfl ?_)
  show wpAny _ _ (field (.ref z) 3 >>= _) _ _ _
  refine wpAny_bind (wpAny_field hz rfl (x := .ref TI) rfl ?_)
  refine wpAny_bind (wpAny_seqItems hTI rfl ?_)
  show wpAny _ _ (Builtin.SmallTypes.ownedTupleIsFree (.ref z) >>= _) _ _ _
  refine wpAny_bind ?_
  unfold Builtin.SmallTypes.ownedTupleIsFree
  refine wpAny_bind (wpAny_field hz rfl (x := .none) rfl (wpAny_pure ?_))
  simp only [if_true]
  refine wpAny_bind (wpAny_rule ?_)
  refine wpAny_bind (wpAny_field hz rfl (x := .ref TO) rfl ?_)
  refine wpAny_bind (wpAny_setField_rec hz (by simp) fun h₁ hz₁ hs₁ => ?_)
  replace hz₁ : IsZip h₁ z TI TO .ellipsis := hz₁
  refine wpAny_bind ?_
  simp only [List.zipIdx_cons, List.zipIdx_nil, List.forIn_cons, List.forIn_nil]
  have k₁ : KB [z, TO, i1] s.heap h₁ := KB.one hs₁ (by simp)
  refine wpAny_bind (wpAny_bind (wpAny_onRaise ?_))
  show wpAny _ _ (Builtin.SmallTypes.nextOf (.ref i1) >>= _) _ _ _
  by_cases hiN : i = N
  · refine wpAny_bind (nextOf_range_end hh (x := (i : Nat)) (left := (N : Int) - (i : Nat)) (step := 1) (hs₁.extBut _ _ D.i1z h1) (by omega) fun h₂ e hs₂ he => ?_)
    refine hide fun G9 bk9 => ?_
    obtain ⟨oe, hoe, hce⟩ := he
    refine bk9 ?_
    clear bk9 G9
    have hz₂ : IsZip h₂ z TI TO .ellipsis := hs₂ _ _ D.i1z.symm hz₁
    have hez : e ≠ z := fun x => by subst x; rw [hz₂] at hoe; cases hoe; simp at hce
    refine wpAny_setField_rec hz₂ (by simp) fun h₃ _ hs₃ => hE _ e ⟨oe, hs₃.extBut _ _ hez hoe, hce⟩ (Mv.heap (s := s) (tk := s.toks) (l := [z, TO, i1]) ((k₁.trans (KB.ext hs₂ (by simp))).trans (KB.one hs₃ (by simp))) fun c hc => .inl hc)
  · refine hide fun G9 bk9 => ?_
    obtain ⟨rfl, hn5, hiN'⟩ := hi.resolve_left hiN
    refine bk9 ?_
    clear bk9 G9
    refine wpAny_bind (nextOf_range_item (x := (i : Nat)) (left := (N : Int) - (i : Nat)) (step := 1) (hs₁.extBut _ _ D.i1z h1) (by omega) fun h₂ h1₂ hs₂ => wpAny_pure ?_)
    have k₂ : KB [z, TO, i1] s.heap h₂ := k₁.trans (KB.one hs₂ (by simp))
    have hTO₂ : IsPair h₂ TO xa xb := hs₂.extBut _ _ D.TOi1 (hs₁.extBut _ _ D.TOz hTO)
    refine wpAny_bind (wpAny_seqItems hTO₂ rfl ?_)
    refine wpAny_bind (wpAny_updateSeq_pair hTO₂ fun h₃ hTO₃ hs₃ => ?_)
    have k₃ : KB [z, TO, i1] s.heap h₃ := k₂.trans (KB.one hs₃ (by simp))
    refine wpAny_bind (wpAny_letGo (wpAny_pure ?_))
    refine wpAny_bind (wpAny_bind (wpAny_onRaise ?_))
    show wpAny _ _ (Builtin.SmallTypes.nextOf (.ref a) >>= _) _ _ _
    have hTO₃' : ∃ o, h₃.get? TO = some o := ⟨_, hTO₃⟩
    have live3 : Live X h₃ := (G.live i s hS).kb k₃ fun c hc => by
      rcases List.mem_cons.mp hc with rfl | hc
      · exact ⟨_, hs₃.extBut _ _ D.TOz.symm (hs₂.extBut _ _ D.i1z.symm hz₁)⟩
      · rcases List.mem_cons.mp hc with rfl | hc
        · exact hTO₃'
        · rw [List.mem_singleton.mp hc]; exact ⟨_, hs₃.extBut _ _ D.TOi1.symm h1₂⟩
    have hS₃ : St i { s with heap := h₃, toks := s.toks + 1 } := G.frame i s _ hS (k₃.mono hX) live3 rfl
    refine wpAny_bind (G.done _ _ _ hn5 hS₃ fun s₄ e m₄ he => ?_)
    refine hide fun G9 bk9 => ?_
    obtain ⟨oe, hoe, hce⟩ := he
    refine bk9 ?_
    clear bk9 G9
    have hz₄ : IsZip s₄.heap z TI TO .ellipsis := m₄.kb _ _ D.zW (hs₃.extBut _ _ D.TOz.symm (hs₂.extBut _ _ D.i1z.symm hz₁))
    have hez : e ≠ z := fun x => by subst x; rw [hz₄] at hoe; cases hoe; simp at hce
    refine wpAny_setField_rec hz₄ (by simp) fun h₅ _ hs₅ => hE _ e ⟨oe, hs₅.extBut _ _ hez hoe, hce⟩ (Mv.trans (Mv.trans (Mv.heap (s := s) (tk := s.toks + 1) k₃ fun c hc => .inl hc) m₄.up) (Mv.heap (s := s₄) (tk := s₄.toks) (l := [z, TO, i1]) (KB.one hs₅ (by simp)) fun c hc => .inl hc))
theorem next_zg_item {z TI TO i1 a : Addr} {X : List Addr} {W : Addr → Prop} {n N i : Nat} {val : Nat → Value} {St : Nat → Shared → Prop} {Q : Option Value → Shared → Prop} (G : GSrc prog w A.in1 a X W n val St) (D : ZA z TI TO i1 a W)
    (hX : ∀ c ∈ [z, TO, i1], c ∈ X) (hi : i < n) (hN : i < N) (hst : ZSt z TI TO i1 a N St .none i s)
    (hQ : ∀ s' (T : Addr) tk, ZSt z TI TO i1 a N St (rawInt T) (i + 1) s' → IsPair s'.heap T (.int i tk) (val i) → T ≠ z → Mv (orW [z, TO, i1] W) s s' → Q (some (.ref T)) s') :
    wpAny (model prog w) A (pyNext (.ref z)) Q E s := by
  have hT : s.TypeIs (.ref z) "zip" := ⟨_, hst.1, rfl⟩
  unfold pyNext
  exact wpAny_bind (wpAny_attempt (wpAny_callSpecial?_slot (name := Str.ofString "__next__") hT F.slot_zip_next
    (wpAny_call_entry F.slot_zip_next hT F.entry_zip_next
      (zg_item G D hX hi hN hst fun s' T tk a1 a2 a3 a4 => wpAny_pure (hQ s' T tk a1 a2 a3 a4)) (F.args_zip_next_1 _))))
theorem next_zg_end {z TI TO i1 a : Addr} {X : List Addr} {W : Addr → Prop} {n N i : Nat} {val : Nat → Value} {St : Nat → Shared → Prop} {Q : Option Value → Shared → Prop} (hh : A.handled = none) (G : GSrc prog w A.in1 a X W n val St) (D : ZA z TI TO i1 a W)
    (hX : ∀ c ∈ [z, TO, i1], c ∈ X) (hi : i = N ∨ (i = n ∧ n < 5 ∧ i < N)) (hst : ZSt z TI TO i1 a N St .none i s)
    (hQ : ∀ s', Mv (orW [z, TO, i1] W) s s' → Q none s') :
    wpAny (model prog w) A (pyNext (.ref z)) Q E s := by
  have hT : s.TypeIs (.ref z) "zip" := ⟨_, hst.1, rfl⟩
  unfold pyNext
  refine wpAny_bind (wpAny_attempt (wpAny_callSpecial?_slot (name := Str.ofString "__next__") hT F.slot_zip_next
    (wpAny_call_entry F.slot_zip_next hT F.entry_zip_next (zg_end hh G D hX hi hst fun s' e he hm => ?_) (F.args_zip_next_1 _))))
  refine hide fun G9 bk9 => ?_
  obtain ⟨o, ho, hc⟩ := he
  refine bk9 ?_
  clear bk9 G9
  refine wpAny_bind (wpAny_isInstance (T := "StopIteration") (b := true) ⟨o, ho, hc⟩ isSubtype_stop ?_)
  exact wpAny_pure (hQ _ hm)
noncomputable abbrev zgH1 (h : Heap) : Heap := h.push { cls := .type "range_iterator", data := .fields #[rawInt 0, rawInt (Builtin.Range.rangeSize 0 5 1), rawInt 1] }
noncomputable abbrev zgH2 (h : Heap) (a : Addr) : Heap := (zgH1 h).push { cls := .type "tuple", data := .seq #[.ref h.objs.size, .ref a] }
noncomputable abbrev zgH3 (h : Heap) (a : Addr) : Heap := (zgH2 h a).push { cls := .type "tuple", data := .seq #[.none, .none] }
noncomputable abbrev zgH4 (h : Heap) (a : Addr) : Heap := (zgH3 h a).push { cls := .type "zip", data := .fields #[.none, .bool false, .bool false, .ref (zgH1 h).objs.size, .ref (zgH2 h a).objs.size] }
theorem IsRange.push' {h : Heap} {r : Addr} {a b c : Int} {t u v : Tok} (x : IsRange h r a b c t u v) (o : Obj) : IsRange (h.push o) r a b c t u v := Heap.get?_push_of_some _ x
theorem meets_zip_rg (r a : Addr) (g : Nat) (t u v : Tok) :
    Meets (Builtin.«zip.__new__» ⟨[.type "zip", .ref r, .ref a], []⟩) (fun _ R s => IsRange s.heap r 0 5 1 t u v ∧ s.heap.IsGen a g ∧
      R (.ok (.ret (.ref (zgH3 s.heap a).objs.size))) { s with heap := zgH4 s.heap a }) :=
  .of_wp fun prog w A R s h => by
    obtain ⟨hp, g0, d, tk, os⟩ := s; obtain ⟨hl1, hl2, h⟩ := h
    have hsub := sub_zip
    have hL1 : IsRange (Shared.heap ⟨hp, g0, d, tk, os⟩) r 0 5 1 t u v := hl1
    have hL2 : Heap.IsGen (Shared.heap ⟨zgH1 hp, g0, d, tk, os⟩) a g := Heap.IsGen.push hl2 _
    wp_walk using wpAny_pyIter_range hL1 (by decide +kernel), wpAny_pyIter_gen hL2
    exact ⟨_, rfl, h⟩
end
end
section
open PySem.Builtin
section
variable {prog : Program} {w : World} {A : Around} {E : Value → Shared → Prop} {s : Shared} {env : Env}
noncomputable def cnt (n : Nat) : Nat := if n < 5 then n else 5
theorem cnt_le (n : Nat) : cnt n ≤ 5 ∧ cnt n ≤ n := by unfold cnt; split <;> omega
theorem compLoop_zg {st sz : Str} {p1 p2 p3 tp : Pos} {kk : Nat} {iter : Expr} {scope cs : Scope} {cl : List (Str × Addr)} {pos : Pos} {z TI TO i1 a D C : Addr} {X : List Addr} {W : Addr → Prop} {n : Nat} {val : Nat → Value} {St : Nat → Shared → Prop} {R : Result → Shared → Prop} {m : Str → Option Value}
    (hh : A.handled = none) (G : GSrc prog w A.in1 a X W n val St) (Z : ZA z TI TO i1 a W) (hX : ∀ c ∈ [z, TO, i1, C, D], c ∈ X)
    (hCD : C ≠ D) (hC : ¬ orW [TI, z, TO, i1] W C) (hD : ¬ orW [TI, z, TO, i1] W D)
    (ha : cs.names.lookup st = some .local) (hb : cs.names.lookup sz = some .local) (hkind : cs.kind = .function) (hdb : (sz == ("__debug__" : Str)) = false)
    (hst : ZSt z TI TO i1 a 5 St .none 0 s) (hl : s.heap.PlainList D #[]) (hn : s.heap.Ns C m)
    (hR : ∀ s' m', Mv (orW [D, C, z, TO, i1] W) s s' → s'.heap.PlainList D ((List.range (cnt n)).map val).toArray → s'.heap.Ns C m' → s.toks ≤ s'.toks → R (.ok .next) s') :
    codeAny (model prog w) A (.compLoop (.ListComp (.Name sz p1) [⟨.Tuple [.Name st p2, .Name sz p3] kk tp, iter, [], 0⟩] scope pos) 0 (.ref z) (.ref D) (compEnvC cs cl C env)) R s := by
  have hX3 : ∀ c ∈ [z, TO, i1], c ∈ X := fun c hc => hX c (by
    rcases List.mem_cons.mp hc with rfl | hc
    · simp
    · rcases List.mem_cons.mp hc with rfl | hc
      · simp
      · rw [List.mem_singleton.mp hc]; simp)
  have hCz : ¬ orW [z, TO, i1] W C := fun h => hC (h.imp_left (List.mem_cons_of_mem _))
  have hDz : ¬ orW [z, TO, i1] W D := fun h => hD (h.imp_left (List.mem_cons_of_mem _))
  have up : ∀ c, orW [z, TO, i1] W c → orW [D, C, z, TO, i1] W c := fun c hc => hc.imp_left fun h => List.mem_cons_of_mem _ (List.mem_cons_of_mem _ h)
  refine compLoop_gen (fun k s' => ∃ i m', k = 6 - i ∧ i ≤ cnt n ∧ ZSt z TI TO i1 a 5 St .none i s' ∧ s'.heap.PlainList D ((List.range i).map val).toArray ∧ s'.heap.Ns C m' ∧ Mv (orW [D, C, z, TO, i1] W) s s' ∧ s.toks ≤ s'.toks) ?_ 6
    ⟨0, m, rfl, Nat.zero_le _, hst, hl, hn, Mv.refl _ _, Nat.le_refl _⟩
  rintro k s₁ ⟨i, m', rfl, hi, hst₁, hl₁, hn₁, hm₁, htk₁⟩
  have hc5 := cnt_le n
  by_cases hlt : i < cnt n
  · refine wpAny_mono (wpAny_toks_of (n := s.toks) htk₁ (next_zg_item (E := notedBy (model prog w) A (compEnvC cs cl C env) fun e s' => R (.error e) s') (Q := fun r s₂ => match r with
        | none => False
        | some v => s.toks ≤ s₂.toks → wpAny (model prog w) A (letOwnedTupleGo (.Tuple [.Name st p2, .Name sz p3] kk tp) (.ref z) v) (fun _ s₁' => wpAny (model prog w) A (assign (.Tuple [.Name st p2, .Name sz p3] kk tp) (compEnvC cs cl C env) v) (fun _ s₂ =>
          wpAny (model prog w) A (testsOf [] (compEnvC cs cl C env)) (fun ok s₃ =>
            if ok = true then wpAny (model prog w) A (eval (.Name sz p1) (compEnvC cs cl C env)) (fun x s₄ =>
              wpAny (model prog w) A (call (.builtin "list.append") [.ref D, x]) (fun _ s₅ => ∃ m, m < 6 - i ∧ ∃ i m', m = 6 - i ∧ i ≤ cnt n ∧ ZSt z TI TO i1 a 5 St .none i s₅ ∧ s₅.heap.PlainList D ((List.range i).map val).toArray ∧ s₅.heap.Ns C m' ∧ Mv (orW [D, C, z, TO, i1] W) s s₅ ∧ s.toks ≤ s₅.toks) (notedBy (model prog w) A (compEnvC cs cl C env) fun e s' => R (.error e) s') s₄) (notedBy (model prog w) A (compEnvC cs cl C env) fun e s' => R (.error e) s') s₃
            else False) (notedBy (model prog w) A (compEnvC cs cl C env) fun e s' => R (.error e) s') s₂) (notedBy (model prog w) A (compEnvC cs cl C env) fun e s' => R (.error e) s') s₁') (notedBy (model prog w) A (compEnvC cs cl C env) fun e s' => R (.error e) s') s₂) G Z hX3 (by omega) (by omega) hst₁ ?_)) ?_ fun _ _ e => e.2
    · intro s₂ T tk hz₂ hT₂ hTz hm₂ htk₂
      refine hide fun G9 bk9 => ?_
      obtain ⟨hz, hTI, ⟨xa, xb, hTO⟩, h1, hS⟩ := hz₂
      refine bk9 ?_
      clear bk9 G9
      refine wpAny_letOwnedTupleGo_zip hz fun h₃ hz₃ hs₃ => ?_
      have k₃ : KB [z] s₂.heap h₃ := KB.one hs₃ (by simp)
      have hn₃ : h₃.Ns C m' := (hn₁.at' fun o e => hm₂.kb _ o hCz e).sameBut hs₃ (fun q => hCz (.inl (by simp [q])))
      have hT₃ : h₃.IsTuple T #[.int (i : Nat) tk, val i] := ⟨_, hs₃.extBut _ _ hTz hT₂, rfl, _, rfl⟩
      refine wpAny_with_toks (n := s.toks) htk₂ (kcp_assign (env := compEnvC cs cl C env) hh hT₃ (lookup_relabel_local ha) (lookup_relabel_local hb) (by simp [compEnvC, relabel, hkind]) hn₃ fun h₄ tk₄ hn₄ hs₄ => ?_)
      intro htk₄
      refine wpAny_tests_nil ?_
      simp only [if_true]
      refine wpAny_Name (wpAny_loadName_local (env := compEnvC cs cl C env) (by simp [compEnvC, relabel, hkind]) (lookup_relabel_local hb) hn₄ (by simp; rfl) ?_) hdb
      have hs₄' : ∀ c o, c ≠ C → h₃.get? c = some o → h₄.get? c = some o := hs₄
      have hCC : ∀ c ∈ [TI, z, TO, i1], c ≠ C := fun c hc q => hC (.inl (q ▸ hc))
      have hDD : ∀ c ∈ [TI, z, TO, i1], c ≠ D := fun c hc q => hD (.inl (q ▸ hc))
      have hl₄ : h₄.PlainList D ((List.range i).map val).toArray := hl₁.at fun o e => hs₄' _ o (Ne.symm hCD) (hs₃.extBut _ _ (fun q => hDz (.inl (by simp [q]))) (hm₂.kb _ o hDz e))
      refine wpAny_list_append_plain (hsz := by rw [List.size_toArray, List.length_map, List.length_range]; show i ≤ 16777216; omega) hl₄ fun h₅ hl₅ hs₅ => ?_
      have g5 : ∀ c o, c ∈ [TI, z, TO, i1] → c ≠ z → s₂.heap.get? c = some o → h₅.get? c = some o := fun c o hc hz e => hs₅.extBut _ _ (hDD c hc) (hs₄' _ _ (hCC c hc) (hs₃.extBut _ _ hz e))
      have k5 : KB [z, C, D] s₂.heap h₅ := fun c o hc e => hs₅.extBut _ _ (fun q => hc (by simp [q])) (hs₄' _ _ (fun q => hc (by simp [q])) (hs₃.extBut _ _ (fun q => hc (by simp [q])) e))
      refine ⟨6 - (i + 1), slt (n := 5) (Nat.lt_of_lt_of_le hlt (cnt_le n).1), i + 1, _, rfl, hlt, ⟨?_, g5 _ _ (by simp) Z.TIz hTI, ⟨_, _, g5 _ _ (by simp) Z.TOz hTO⟩, g5 _ _ (by simp) Z.i1z h1, ?_⟩, ?_, hn₄.sameBut hs₅ hCD, ?_, htk₄⟩
      · exact hs₅.extBut _ _ (hDD z (by simp)) (hs₄' _ _ (hCC z (by simp)) hz₃)
      · exact G.frame _ s₂ _ hS (k5.mono fun c hc => hX c (by
          rcases List.mem_cons.mp hc with rfl | hc
          · simp
          · rcases List.mem_cons.mp hc with rfl | hc
            · simp
            · rw [List.mem_singleton.mp hc]; simp)) ((G.live _ s₂ hS).kb k5 fun c hc => by
          rcases List.mem_cons.mp hc with rfl | hc
          · exact ⟨_, hs₅.extBut _ _ (hDD c (by simp)) (hs₄' _ _ (hCC c (by simp)) hz₃)⟩
          · rcases List.mem_cons.mp hc with rfl | hc
            · obtain ⟨o, _, _, e, _⟩ := hn₄.sameBut hs₅ hCD; exact ⟨o, e⟩
            · rw [List.mem_singleton.mp hc]; obtain ⟨_, e⟩ := hl₅; exact ⟨_, e⟩) rfl
      · have e : ((List.range (i + 1)).map val).toArray = ((List.range i).map val).toArray.push (val i) := by rw [List.range_succ, List.map_append, List.map_singleton]; simp
        show h₅.PlainList D ((List.range (i + 1)).map val).toArray
        rw [e]
        exact hl₅
      · exact (hm₁.trans (hm₂.mono up)).trans (Mv.heap (s := s₂) (tk := tk₄) k5 fun c hc => .inl (by
          rcases List.mem_cons.mp hc with rfl | hc
          · simp
          · rcases List.mem_cons.mp hc with rfl | hc
            · simp
            · rw [List.mem_singleton.mp hc]; simp))
    · intro r s₂ h₂
      cases r with
      | none => exact h₂.2.elim
      | some v =>
        refine wpAny_mono (h₂.2 h₂.1) (fun _ s₃ h₃ => wpAny_mono h₃ (fun _ s₄ h₄ => wpAny_mono h₄ (fun ok s₅ h₅ => ?_) fun _ _ e => e) fun _ _ e => e) fun _ _ e => e
        cases ok with
        | false => simp only [Bool.false_eq_true, if_false] at h₅
        | true =>
          simp only [if_true] at h₅ ⊢
          exact h₅
  · have hie : i = cnt n := Nat.le_antisymm hi (Nat.not_lt.mp hlt)
    have hend : i = 5 ∨ (i = n ∧ n < 5 ∧ i < 5) := by rw [hie]; unfold cnt; split <;> omega
    refine wpAny_mono (wpAny_toks_of (n := s.toks) htk₁ (next_zg_end (E := notedBy (model prog w) A (compEnvC cs cl C env) fun e s' => R (.error e) s') (Q := fun r s₂ => r = none ∧ Mv (orW [z, TO, i1] W) s₁ s₂) hh G Z hX3 hend hst₁ fun s' hm => ⟨rfl, hm⟩)) ?_ fun _ _ e => e.2
    rintro r s₂ ⟨htk₂, rfl, hm₂⟩
    refine hR s₂ m' (hm₁.trans (hm₂.mono up)) ?_ (hn₁.at' fun o e => hm₂.kb _ o hCz e) htk₂
    rw [← hie]
    exact hl₁.at fun o e => hm₂.kb _ o hDz e
end
end
section
open PySem.Builtin
noncomputable def FinX (env : Env) (y : Str) (Q : Flow → Shared → Prop) (C D : Addr) (r : Result) (s' : Shared) : Prop := r = .ok .next ∧ ∃ m' mL, s'.heap.Ns C m' ∧ C ≠ env.locals ∧ s'.heap.Ns env.locals mL ∧
  ∀ h₃ tk, s'.toks ≤ tk → h₃.Ns env.locals (fun z => if z = y then some (.ref D) else mL z) → KB [env.locals, C] s'.heap h₃ → Q .next { s' with heap := h₃, toks := tk }
section
variable {prog : Program} {w : World} {A : Around} {E : Value → Shared → Prop} {s : Shared} {env : Env}
theorem call_zip_rg {r a : Addr} {g : Nat} {t u v : Tok} {Q : Value → Shared → Prop} (hr : IsRange s.heap r 0 5 1 t u v) (hg : s.heap.IsGen a g)
    (h : ∀ h' n, n = s.heap.objs.size → IsZip h' (n + 3) (n + 1) (n + 2) .none → IsPair h' (n + 1) (.ref n) (.ref a) → IsPair h' (n + 2) .none .none → IsRangeIter h' n 0 5 1 →
      (∀ c o, s.heap.get? c = some o → h'.get? c = some o) → Q (.ref (n + 3)) { s with heap := h' }) :
    wpAny (model prog w) A (call (.type "zip") [.ref r, .ref a]) Q E s := by
  refine callType_new F.called_zip (by decide) (F.typeCall_zip_2 _ _) (F.newCall_zip_2 _ _) (fun obj => F.args_object_init_3 obj _ _) F.entry_zip_new
    (meets_zip_rg r a g t u v) ⟨hr, hg, ?_⟩
  have z1 : (zgH1 s.heap).objs.size = s.heap.objs.size + 1 := Heap.size_push ..
  have z2 : (zgH2 s.heap a).objs.size = s.heap.objs.size + 2 := by rw [Heap.size_push, z1]
  have z3 : (zgH3 s.heap a).objs.size = s.heap.objs.size + 3 := by rw [Heap.size_push, z2]
  have g4 : (zgH4 s.heap a).get? (zgH3 s.heap a).objs.size = some _ := Heap.get?_push_size _ rfl
  have g3 : (zgH4 s.heap a).get? (zgH2 s.heap a).objs.size = some _ := Heap.get?_push_of_some _ (Heap.get?_push_size _ rfl)
  have g2 : (zgH4 s.heap a).get? (zgH1 s.heap).objs.size = some _ := Heap.get?_push_of_some _ (Heap.get?_push_of_some _ (Heap.get?_push_size _ rfl))
  have g1 : (zgH4 s.heap a).get? s.heap.objs.size = some _ := Heap.get?_push_of_some _ (Heap.get?_push_of_some _ (Heap.get?_push_of_some _ (Heap.get?_push_size _ rfl)))
  show _ ∧ _
  rw [z1, z2, z3] at g4
  rw [z1] at g2
  rw [z2] at g3
  rw [z3]
  have e5 : Builtin.Range.rangeSize 0 5 1 = 5 := by decide +kernel
  rw [e5] at g1
  exact ⟨⟨_, g4, rfl⟩, h _ _ rfl g4 g2 g3 g1 fun c o x => Heap.get?_push_of_some _ (Heap.get?_push_of_some _ (Heap.get?_push_of_some _ (Heap.get?_push_of_some _ x)))⟩

theorem comp_blockX {elt target iter : Expr} {ifs : List Expr} {scope : Scope} {cl : List (Str × Addr)} {pos : Pos} {s₂ : Shared} {I : Addr} {RR : Value → Addr → Result → Shared → Prop}
    (hcell : ∀ y ∈ scope.names, y.2 ≠ .cell) (hkind : scope.kind = .function)
    (hself : ∀ (h' : Heap) (tk : Nat) (Q : Value → Shared → Prop) (E : Value → Shared → Prop), Grow s₂.heap h' → Q (.ref I) { s₂ with heap := h', toks := tk } → wpAny (model prog w) A (pyIter (.ref I)) Q E { s₂ with heap := h', toks := tk })
    (loop : ∀ (D C : Addr) (h₁ : Heap) (m : Str → Option Value) tk, s₂.heap.objs.size ≤ D → s₂.heap.objs.size ≤ C → C ≠ D → Grow s₂.heap h₁ → h₁.PlainList D #[] → h₁.Ns C m → s₂.toks ≤ tk →
      codeAny (model prog w) A (.compLoop (.ListComp elt [⟨target, iter, ifs, 0⟩] scope pos) 0 (.ref I) (.ref D) (compEnvC scope cl C env)) (RR (.ref D) C) { s₂ with heap := h₁, toks := tk }) :
    wpAny (model prog w) A (newList []) (fun acc s₃ => wpAny (model prog w) A (newFunctionEnv scope env.globals cl [] env.qual none .none (some env)) (fun cenv s₄ =>
      codeAny (model prog w) A (.compStart (.ListComp elt [⟨target, iter, ifs, 0⟩] scope pos) 0 (.ref I) acc { cenv with scope := relabel scope env }) (RR acc cenv.locals) s₄) E s₃) E s₂ := by
  refine wpAny_newObj_type (wpAny_newFunctionEnv hcell (by intro y hy; simp at hy) (fun h₁ hns₁ hsb₁ => ?_) hkind)
  dsimp only at hns₁ hsb₁ ⊢
  generalize hH2 : s₂.heap.push { cls := .type "list", dict := none, data := .seq ([] : List Value).toArray } = H2 at hns₁ hsb₁ ⊢
  have hC : H2.objs.size = s₂.heap.objs.size + 1 := by rw [← hH2, Heap.size_push]
  have hDC : s₂.heap.objs.size ≠ H2.objs.size := by rw [hC]; exact Nat.ne_of_lt (Nat.lt_succ_self _)
  have below : ∀ b, b < s₂.heap.objs.size → b ≠ H2.objs.size ∧ b ≠ s₂.heap.objs.size := fun b hb => ⟨by rw [hC]; exact Nat.ne_of_lt (Nat.lt_succ_of_lt hb), Nat.ne_of_lt hb⟩
  have old : ∀ b o, s₂.heap.get? b = some o → h₁.get? b = some o := fun b o e => hsb₁.extBut b o (below b (Heap.lt_size e)).1 (Heap.get?_push_of_some _ (hH2 ▸ Heap.get?_push_of_some _ e))
  have hacc : h₁.PlainList s₂.heap.objs.size #[] := ⟨_, hsb₁.extBut _ _ hDC (Heap.get?_push_of_some _ (hH2 ▸ Heap.get?_push_size _ rfl))⟩
  have lp := loop s₂.heap.objs.size H2.objs.size h₁ _ (s₂.toks + ([] : List (Str × Value)).length) (Nat.le_refl _) (by rw [hC]; exact Nat.le_succ _) hDC.symm old hacc hns₁ (Nat.le_add_right _ _)
  exact codeAny_compStart_list lp (hself _ _ _ _ old lp)
theorem comp_assignX {elt target iter : Expr} {ifs : List Expr} {scope : Scope} {cl : List (Str × Addr)} {pos spos py : Pos} {y : Str} {Q : Flow → Shared → Prop}
    (hsw : swapsWith (.ListComp elt [⟨target, iter, ifs, 0⟩] scope pos) (some (.Name y py)) spos.line env = pure true)
    (hclos : closureFor scope env = pure cl) (hcell : ∀ y ∈ scope.names, y.2 ≠ .cell) (hkind : scope.kind = .function) (hnames : ∀ y ∈ scope.names, y.2 = .local → scope.names.lookup y.1 = some .local)
    (hy : env.kindOf y = some .local) (hp : (env.scope.kind == .class || (env.scope.kind == .module && env.locals != env.globals)) = false)
    (h : wpAny (model prog w) A (eval iter env) (fun xv s₁ => wpAny (model prog w) A (pyIter xv) (fun it s₂ => ∃ I, it = .ref I ∧
      (∀ (h' : Heap) (tk : Nat) (Q : Value → Shared → Prop) (E : Value → Shared → Prop), Grow s₂.heap h' → Q (.ref I) { s₂ with heap := h', toks := tk } → wpAny (model prog w) A (pyIter (.ref I)) Q E { s₂ with heap := h', toks := tk }) ∧
      ∀ (D C : Addr) (h₁ : Heap) (m : Str → Option Value) tk, s₂.heap.objs.size ≤ D → s₂.heap.objs.size ≤ C → C ≠ D → Grow s₂.heap h₁ → h₁.PlainList D #[] → h₁.Ns C m → s₂.toks ≤ tk →
      codeAny (model prog w) A (.compLoop (.ListComp elt [⟨target, iter, ifs, 0⟩] scope pos) 0 (.ref I) (.ref D) (compEnvC scope cl C env)) (FinX env y Q C D) { s₂ with heap := h₁, toks := tk }) E s₁) E s)
    (hs : ∀ x, foldedSetIterable iter env x = pure x := by intro _; rfl) :
    wpAny (model prog w) A (exec (.Assign [.Name y py] (.ListComp elt [⟨target, iter, ifs, 0⟩] scope pos) spos) env) Q E s := by
  rw [exec_Assign_Name_used _ _ _ _ hsw]
  refine wpAny_bind (wpAny_standAt (wpAny_bind ?_))
  show wpAny _ A (do let _ ← comprehension (.ListComp elt [⟨target, iter, ifs, 0⟩] scope pos) scope env _ (newList []) false (eval iter env) (some (assign (.Name y py) env))) _ _ s
  refine wpAny_bind (wpAny_mono (wpAny_comprehension_free (use := some (assign (.Name y py) env)) (Q := fun _ s' => Q .next s') rfl hs hclos hkind hnames
    (wpAny_mono h (fun xv s₁ h₁ => wpAny_mono h₁ (fun it s₂ h₂ => ?_) fun _ _ e => e) fun _ _ e => e)) (fun _ s' hq => wpAny_pure (wpAny_pure hq)) fun _ _ e => e)
  refine hide fun G9 bk9 => ?_
  obtain ⟨I, rfl, hself, loop⟩ := h₂
  refine bk9 ?_
  clear bk9 G9
  refine comp_blockX (RR := fun acc C => compPost (model prog w) A E (some (assign (.Name y py) env)) (fun _ s' => Q .next s') acc C) hcell hkind hself fun D C h₁ m tk hD hC hCD hg hl hn htk => ?_
  refine codeAny_mono (loop D C h₁ m tk hD hC hCD hg hl hn htk) fun r s' hr => ?_
  refine hide fun G9 bk9 => ?_
  obtain ⟨rfl, m', mL, hnC, hCL, hnL, fin⟩ := hr
  refine bk9 ?_
  clear bk9 G9
  show wpAny _ A (assign (.Name y py) env (.ref D)) _ _ _
  refine wpAny_with_toks (n := s'.toks) (Nat.le_refl _) (wpAny_assign_Name (wpAny_storeName_local hy hnL (fun h₂ hn₂ hs₂ => ?_) hp))
  intro htk₂
  refine ⟨m', hnC.sameBut hs₂ hCL, fun h₃ hs₃ => ?_⟩
  exact fin h₃ _ htk₂ (hn₂.sameBut hs₃ hCL.symm) fun b o hb e => hs₃.extBut b o (fun q => hb (by simp [q])) (hs₂.extBut b o (fun q => hb (by simp [q])) e)
end
end
section
section
variable {M : Model} {A : Around} {R : GenEnd} {Y : Protocol} {n : Nat} {s₀ : Shared} {c : Code} {fs : List Frame} {s : Shared} {env : Env}
  {K : Flow → Sem Fin} {H : Value → Sem Fin} {gd : Bool → Bool} {lv : List Value → List Value}
theorem seg_stmt {st : Stmt} (h : wpAny M (A.over c fs) (exec st env) (fun f s' => Seg M A R Y n s₀ c (K f) fs s') (fun _ _ => False) s) :
    Seg M A R Y n s₀ c ((exec st env).wrap K H gd lv) fs s := seg_wrap (wpAny_mono h (fun _ _ x => x) fun _ _ x => x.elim)
theorem sg_bind_wrap {α β : Type} {m : Sem α} {k : α → Sem β} {K' : β → Sem Fin} {H' : Value → Sem Fin}
    (h : wpAny M (A.over c fs) m (fun a s' => Seg M A R Y n s₀ c ((k a).wrap K' H' gd lv) fs s') (fun _ _ => False) s) : Seg M A R Y n s₀ c ((m >>= k).wrap K' H' gd lv) fs s := by
  rw [Sem.bind_eq_wrap', Sem.wrap_wrap]; exact seg_wrap (wpAny_mono h (fun _ _ x => x) fun _ _ x => x.elim)
theorem sg_If {test : Expr} {body orelse : List Stmt} {pos : Pos}
    (h : wpAny M (A.over c fs) (isTrue test env (eval test env)) (fun b s' => Seg M A R Y n s₀ c ((if b = true then execs body env else execs orelse env).wrap K H gd lv) fs s') (fun _ _ => False) s) :
    Seg M A R Y n s₀ c ((exec (.If test body orelse pos) env).wrap K H gd lv) fs s := by
  rw [exec_If]
  exact sg_bind_wrap (wpAny_standAt (sg_bind_wrap h))
noncomputable def ownK (K : Flow → Sem Fin) (H : Value → Sem Fin) (gd : Bool → Bool) (lv : List Value → List Value) (env : Env) (r : Result) : Sem Fin :=
  ((match r with | .ok f => (.pure f : Sem Flow) | .error e => .raise e).onRaise fun (x : Value) => do
        if (← field x 1) == Value.none then unsupported "frame.own-activation:exception-without-traceback"
        setFlight x env.frame).wrap K H gd lv
theorem sg_For {target iter : Expr} {body orelse : List Stmt} {pos : Pos}
    (h : wpAny M (A.over c fs) (eval iter env) (fun x s₁ => wpAny M (A.over c fs) (pyIter x) (fun it s₂ => ∀ p,
      Seg M A R Y n s₀ (.forLoop target it body orelse env) (M.den (.forLoop target it body orelse env))
      (.ret (ownK K H gd lv env) none (gd false) (lv []) c p [] :: fs) s₂) (fun _ _ => False) s₁) (fun _ _ => False) s)
    (hs : ∀ x, foldedSetIterable iter env x = pure x := by intro _; rfl) :
    Seg M A R Y n s₀ c ((exec (.For target iter body orelse pos) env).wrap K H gd lv) fs s := by
  rw [exec_For]
  refine sg_bind_wrap (wpAny_standAt (sg_bind_wrap (wpAny_mono h (fun x s₁ h₁ => ?_) fun _ _ e => e)))
  refine sg_bind_wrap (wpAny_of_eq (hs x) (sg_bind_wrap (wpAny_standAt (sg_bind_wrap (wpAny_holding (wpAny_mono h₁ (fun it s₂ h₂ => ?_) fun _ _ e => e))))))
  exact seg_call h₂
end
section
variable {prog : Program} {w : World} {A : Around} {R : GenEnd} {Y : Protocol} {n : Nat} {s₀ : Shared} {fs : List Frame} {s : Shared} {env : Env}
noncomputable def loopK (target : Expr) (it : Value) (body orelse : List Stmt) (env : Env) (f : Flow) : Sem Fin := match f with
  | .next | .cont => .pure (.again (.forLoop target it body orelse env))
  | .brk => .pure (.done .next)
  | .ret v => .pure (.done (.ret v))
noncomputable def loopH (env : Env) (e : Value) : Sem Fin := (do noteFrame e env; theTreesLotGoes e : Sem Unit).wrap (fun _ => .raise e) .raise id id
theorem sg_forLoop {target : Expr} {it : Value} {body orelse : List Stmt}
    (h : wpAny (model prog w) (A.over (.forLoop target it body orelse env) fs) (pyNext it) (fun r s' => match r with
      | none => Seg (model prog w) A R Y n s₀ (.forLoop target it body orelse env) (.pure (.again (.block orelse env))) fs s'
      | some v => wpAny (model prog w) (A.over (.forLoop target it body orelse env) fs) (letOwnedTupleGo target it v) (fun _ s₁ =>
          wpAny (model prog w) (A.over (.forLoop target it body orelse env) fs) (assign target env v) (fun _ s₂ =>
            Seg (model prog w) A R Y n s₀ (.forLoop target it body orelse env) ((execs body env).wrap (loopK target it body orelse env) (loopH env) id id) fs s₂) (fun _ _ => False) s₁) (fun _ _ => False) s') (fun _ _ => False) s) :
    Seg (model prog w) A R Y n s₀ (.forLoop target it body orelse env) ((model prog w).den (.forLoop target it body orelse env)) fs s := by
  show Seg _ A R Y n s₀ _ ((forTurn target it body orelse env).onRaise (fun x => do noteFrame x env; theTreesLotGoes x)) fs s
  unfold forTurn
  rw [Sem.onRaise_eq_wrap]
  refine sg_bind_wrap (wpAny_standAt ?_)
  refine sg_bind_wrap (wpAny_onRaise (wpAny_mono h (fun r s' hr => ?_) fun _ _ x => x.elim))
  cases r with
  | none => exact hr
  | some v =>
    refine sg_bind_wrap (wpAny_mono hr (fun _ s₁ h₁ => ?_) fun _ _ x => x)
    refine sg_bind_wrap (wpAny_mono h₁ (fun _ s₂ h₂ => ?_) fun _ _ x => x)
    rw [Sem.bind_eq_wrap', Sem.wrap_wrap]
    rw [Sem.wrap_congr (execs body env) _ _ (K' := loopK target it body orelse env) (H' := loopH env)
        (fun f => by cases f <;> rfl)
        (fun e => by first | exact Sem.bind_eq_wrap _ _ | (show (do noteFrame e env; theTreesLotGoes e : Sem Unit).bind (fun _ => .raise e) = _; rw [Sem.bind_eq_wrap]; rfl))]
    exact h₂
theorem sg_block_nil (h : Seg (model prog w) A R Y n s₀ (.block [] env) (.pure (.done .next)) fs s) :
    Seg (model prog w) A R Y n s₀ (.block [] env) ((model prog w).den (.block [] env)) fs s := h
end
end
section
open PySem.Builtin
section
variable (prog : Program) (w : World) (A : Around)
noncomputable def Same (W : Addr → Prop) (s s' : Shared) : Prop := ∃ h' tk, s' = { s with heap := h', toks := tk } ∧ KP W s.heap h'
noncomputable def gR (W : Addr → Prop) : GenEnd := fun n s₀ r s₁ => r = .ok (.ret .none) ∧ (n = 0 ∧ Same W s₀ s₁)
noncomputable def gY (X : List Addr) (W : Addr → Prop) (n : Nat) (val : Nat → Value) : Protocol := fun m s₀ v s kap => v = val (n - 1 - m) ∧ Same W s₀ s ∧ (m ≠ 0 ∨ n < 5 → ∀ s'' : Shared, KB X s.heap s''.heap → Live X s''.heap → kap (.send .none) s'')
noncomputable def GenSt (a : Addr) (g : Nat) (X : List Addr) (W : Addr → Prop) (n : Nat) (val : Nat → Value) (i : Nat) (s : Shared) : Prop :=
  s.heap.IsGen a g ∧ s.heap.NoLimit ∧ Live X s.heap ∧ ∃ gs, s.gens[g]? = some gs ∧ (i < n ∨ n < 5 → ∀ s'' : Shared, KB X s.heap s''.heap → Live X s''.heap → gs.Goes (model prog w) A (gR W) (gY X W n val) (n - i) (.send .none) s'')
variable {prog w A}
theorem IsGen.kb {h h' : Heap} {a : Addr} {g : Nat} {W : List Addr} (x : h.IsGen a g) (k : KB W h h') (ha : a ∉ W) : h'.IsGen a g := let ⟨o, nm, qn, ho, r⟩ := x; ⟨o, nm, qn, k a o ha ho, r⟩
theorem NoLimit.kb {h h' : Heap} {W : List Addr} (x : h.NoLimit) (k : KB W h h') (ha : cStatics ∉ W) : h'.NoLimit := let ⟨mc, hns, hnn⟩ := x; ⟨mc, hns.at' fun o e => k cStatics o ha e, hnn⟩
theorem IsGen.kp {h h' : Heap} {a : Addr} {g : Nat} {W : Addr → Prop} (x : h.IsGen a g) (k : KP W h h') (ha : ¬ W a) : h'.IsGen a g := let ⟨o, nm, qn, ho, r⟩ := x; ⟨o, nm, qn, k a o ha ho, r⟩
theorem NoLimit.kp {h h' : Heap} {W : Addr → Prop} (x : h.NoLimit) (k : KP W h h') (ha : ¬ W cStatics) : h'.NoLimit := let ⟨mc, hns, hnn⟩ := x; ⟨mc, hns.at' fun o e => k cStatics o ha e, hnn⟩
theorem allB_set {s : Shared} {g : Nat} {gs : GenState} (h : AllB s.gens) (hb : gs.bare = true) : AllB (s.setGen g gs).gens := by
  intro y hy
  have e : (s.setGen g gs).gens = s.gens.setIfInBounds g gs := rfl
  rw [e] at hy
  refine hide fun G9 bk9 => ?_
  obtain ⟨i, hi, rfl⟩ := Array.mem_iff_getElem.mp hy
  refine bk9 ?_
  clear bk9 G9
  have hi' : i < s.gens.size := by simpa using hi
  rw [Array.getElem_setIfInBounds hi']
  split
  · exact hb
  · exact h _ (Array.getElem_mem _)
theorem GSrc.gen (hh : A.handled = none) (hroom : A.depth < recursionLimit) {a : Addr} {g : Nat} {X : List Addr} {W : Addr → Prop} {n : Nat} {val : Nat → Value} (haX : a ∉ X) (hcX : cStatics ∉ X) (haW : ¬ W a) (hcW : ¬ W cStatics) (hXW : ∀ c ∈ X, ¬ W c) :
    GSrc prog w A a X W n val (GenSt prog w A.in1 a g X W n val) where
  live := fun i s st => st.2.2.1
  frame := fun i s s' st k hlv hg => by
    refine hide fun G9 bk9 => ?_
    obtain ⟨h1, h2, _, gs, h3, h4⟩ := st
    refine bk9 ?_
    clear bk9 G9
    exact ⟨IsGen.kb h1 k haX, NoLimit.kb h2 k hcX, hlv, gs, hg ▸ h3, fun hi s'' k' hl' => h4 hi s'' (k.trans k') hl'⟩
  item := fun i s Q E hi st hQ => by
    refine hide fun G9 bk9 => ?_
    obtain ⟨hg, hl, hlv, gs, hgs, hgo⟩ := st
    obtain ⟨m, hm⟩ := nsub hi
    refine bk9 ?_
    clear bk9 G9
    rw [hm] at hgo
    refine nextOf_gen (P := fun n s₀ s₁ => n = 0 ∧ Same W s₀ s₁) (Y := gY X W n val) (n := m + 1) hh hl hroom hg hgs (hgo (.inl hi) _ (KB.refl _ _) hlv) (fun v s₁ gs' hb hv => ?_) (fun s₁ hp h' e hk he => ?_)
    · refine hide fun G9 bk9 => ?_
      obtain ⟨rfl, ⟨h₁, tk₁, rfl, hk₁⟩, hkap⟩ := hv
      refine bk9 ?_
      clear bk9 G9
      have hidx : n - 1 - (m + 1 - 1) = i := nsub1 hm
      rw [hidx]
      refine hQ _ ⟨IsGen.kp hg hk₁ haW, NoLimit.kp hl hk₁ hcW, hlv.kp hk₁ hXW, gs', setGen_self (gs := .running) (setGen_self hgs), fun hi' s'' hal hl' => ?_⟩ ⟨⟨_, _, _, rfl⟩, hk₁, fun h => allB_set (allB_set h rfl) hb⟩
      have e : n - (i + 1) = m := nsub2 hm
      rw [e]
      exact hkap (hi'.elim (fun h => .inl fun q => Nat.sub_ne_zero_of_lt h (e.trans (show m = 0 from q))) .inr) s'' hal hl'
    · exact absurd hp.1 (Nat.succ_ne_zero m)
  done := fun s Q E hn st hE => by
    refine hide fun G9 bk9 => ?_
    obtain ⟨hg, hl, hlv, gs, hgs, hgo⟩ := st
    refine bk9 ?_
    clear bk9 G9
    rw [Nat.sub_self] at hgo
    refine nextOf_gen (P := fun n s₀ s₁ => n = 0 ∧ Same W s₀ s₁) (Y := gY X W n val) (n := 0) hh hl hroom hg hgs (hgo (.inr hn) _ (KB.refl _ _) hlv) (fun v s₁ gs' hb hv => ?_) (fun s₁ hp h' e hk he => ?_)
    · refine hide fun G9 bk9 => ?_
      obtain ⟨_, ⟨h₁, tk₁, rfl, hk₁⟩, hkap⟩ := hv
      refine bk9 ?_
      clear bk9 G9
      exact (hkap (.inr hn) _ (KB.refl _ _) (hlv.kp hk₁ hXW)).elim
    · refine hide fun G9 bk9 => ?_
      obtain ⟨_, h₁, tk₁, rfl, hk₁⟩ := hp
      refine bk9 ?_
      clear bk9 G9
      exact hE _ e ⟨⟨_, _, _, rfl⟩, fun b o hb q => hk b o (hk₁ b o hb q), fun h => allB_set (allB_set h rfl) rfl⟩ he
end
end
section
section
variable {w : World} {A : Around} {E : Value → Shared → Prop} {s : Shared} {name qual : Str} {params : Arguments} {body : List Stmt} {scope : Scope} {dV kV doc pm cdv ct oc : Value} {an od : Option Addr} {osl : Array (Option Value)} {f : Addr} {args : List Value} {binds : List (Str × Value)} {Q : Value → Shared → Prop}
theorem call_gen (X : (h39 w.params).In s.heap) (hlim : s.heap.NoLimit) (ho : (h39 w.params).lookup f = some ⟨oc, od, .func (fnOf name qual params body scope dV kV doc pm an cdv ct), osl⟩) (hcd : codeIn (h39 w.params) cdv qual = true) (hroom : A.depth < recursionLimit)
    (hbind : BindsTo s (fnOf name qual params body scope dV kV doc pm an cdv ct) ⟨args, []⟩ binds) (hloc : ∀ y ∈ binds, scope.names.lookup y.1 = some .local)
    (h : ∀ h' tk (L ga : Addr), s.heap.objs.size ≤ L → s.heap.objs.size ≤ ga → ga ≠ L → h'.objs.size = s.heap.objs.size + 2 → L < h'.objs.size → ga < h'.objs.size → Fr s.heap L h' (fun y => binds.reverse.lookup y) → h'.IsGen ga s.gens.size → s.toks ≤ tk →
      Q (.ref ga) { s with gens := s.gens.push (.fresh (.func body (envOf qual scope L f cdv))), heap := h', toks := tk })
    (hcell : ∀ x ∈ scope.names, x.2 ≠ .cell) (hco : scope.isCoroutine = false) (hgen : scope.isGenerator = true) (hk : scope.kind = .function) :
    wpAny (model PySem.Challenge.rw_to0015_01.row.prog w) A (call (.ref f) args) Q E s := by
  refine wpAny_call (codeAny_call_generator (fd := fnOf name qual params body scope dV kV doc pm an cdv ct) hroom (X _ _ ho) rfl hco hgen rfl (codeRec_of X hcd) (hbind _ _ _ _ ?_))
  refine wpAny_newFunctionEnv hcell hloc (fun h₁ hns hsb => ?_) hk
  dsimp only at hns hsb ⊢
  have hsz : h₁.objs.size = s.heap.objs.size + 1 := by rw [hsb.1, Heap.size_push]
  have up : ∀ b o, s.heap.get? b = some o → h₁.get? b = some o := fun b o e => hsb.extBut b o (Nat.ne_of_lt (Heap.lt_size e)) (Heap.get?_push_of_some _ e)
  refine ⟨hlim.keeps up, ?_⟩
  refine h _ _ s.heap.objs.size h₁.objs.size (Nat.le_refl _) (by rw [hsz]; exact Nat.le_succ _) (by rw [hsz]; exact Nat.succ_ne_self _) (by rw [Heap.size_push, hsz]) (by rw [Heap.size_push, hsz]; exact Nat.lt_succ_of_lt (Nat.lt_succ_self _)) (by rw [Heap.size_push]; exact Nat.lt_succ_self _)
    ⟨hns.push _, fun b o e => Heap.get?_push_of_some _ (up b o e), Nat.le_refl _⟩ ⟨_, _, _, Heap.get?_push_size _ rfl, rfl, rfl, rfl⟩ ?_
  exact Nat.le_trans (Nat.le_add_right _ _) (Nat.le_trans (Nat.le_succ _) (Nat.le_succ _))
end
end
section
local macro_rules | `(tactic| walk_at "none 0") => `(tactic| skip)
local macro_rules | `(tactic| walk_at "none 1") => `(tactic| skip)
theorem seg_loop {prog : Program} {w : World} {A : Around} {R : GenEnd} {Y : Protocol} {fs : List Frame} {target : Expr} {body : List Stmt} {env : Env} {It : Value} {n : Nat} (N : Nat) (Inv : Nat → Shared → Shared → Prop)
    (turn : ∀ i s₀ s₁, i ≤ N → Inv i s₀ s₁ → (∀ s₀' s₂, i < N → Inv (i + 1) s₀' s₂ → Seg (model prog w) A R Y (n - (i + 1)) s₀' (.forLoop target It body [] env) ((model prog w).den (.forLoop target It body [] env)) fs s₂) →
      Seg (model prog w) A R Y (n - i) s₀ (.forLoop target It body [] env) ((model prog w).den (.forLoop target It body [] env)) fs s₁) (s₀ s₁ : Shared) (h : Inv 0 s₀ s₁) :
    Seg (model prog w) A R Y (n - 0) s₀ (.forLoop target It body [] env) ((model prog w).den (.forLoop target It body [] env)) fs s₁ := by
  have H : ∀ k i s₀ s₁, i + k = N → Inv i s₀ s₁ → Seg (model prog w) A R Y (n - i) s₀ (.forLoop target It body [] env) ((model prog w).den (.forLoop target It body [] env)) fs s₁ := by
    intro k
    induction k with
    | zero => exact fun i s₀ s₁ hi hv => turn i s₀ s₁ (by omega) hv fun _ _ hlt => absurd hlt (by omega)
    | succ k ih => exact fun i s₀ s₁ hi hv => turn i s₀ s₁ (by omega) hv fun s₀' s₂ _ hv' => ih (i + 1) s₀' s₂ (by omega) hv'
  exact H N 0 s₀ s₁ (Nat.zero_add _) h
noncomputable def Wg (hG : Heap) (l : List Addr) : Addr → Prop := fun b => hG.get? b = none ∧ b ∉ l
theorem kp_of {hG h h' : Heap} {L L' : Addr} {m m' : Str → Option Value} {news more more' : List (Addr × Obj)} {l : List Addr} (hl : news.map (·.1) = l) (F : Fr hG L h m) (N : News hG L h (more ++ news)) (F' : Fr hG L' h' m') (N' : News hG L' h' (more' ++ news)) : KP (Wg hG l) h h' := by
  intro b o hb e
  by_cases hm : b ∈ l
  · rw [← hl] at hm
    obtain ⟨q, hq, rfl⟩ := List.mem_map.mp hm
    have e1 := (N q (List.mem_append_right _ hq)).1
    rw [e1] at e
    rw [← e]
    exact (N' q (List.mem_append_right _ hq)).1
  · cases e0 : hG.get? b with
    | none => exact absurd ⟨e0, hm⟩ hb
    | some o' =>
      have := F.keep b o' e0
      rw [this] at e
      rw [← e]
      exact F'.keep b o' e0
theorem news_live {hG h : Heap} {L : Addr} : ∀ {l : List Addr}, Live l h → (∀ b ∈ l, hG.get? b = none ∧ b ≠ L) → ∃ news, news.map (·.1) = l ∧ News hG L h news
  | [], _, _ => ⟨[], rfl, News.nil⟩
  | c :: l, hl, hf => by
    obtain ⟨news, e, N⟩ := news_live (l := l) (fun d hd => hl d (List.mem_cons_of_mem _ hd)) fun d hd => hf d (List.mem_cons_of_mem _ hd)
    obtain ⟨o, ho⟩ := hl c List.mem_cons_self
    refine ⟨(c, o) :: news, by rw [List.map_cons, e], fun q hq => ?_⟩
    rcases List.mem_cons.mp hq with rfl | hq
    · exact ⟨ho, (hf c List.mem_cons_self).2, (hf c List.mem_cons_self).1⟩
    · exact N q hq
theorem seg_wloop {prog : Program} {w : World} {A : Around} {R : GenEnd} {Y : Protocol} {fs : List Frame} {test : Expr} {body : List Stmt} {env : Env} (Inv : Shared → Shared → Prop)
    (turn : ∀ q s₀ s₁, q < 2 → Inv s₀ s₁ → (∀ s₀' s₂, 0 < q → Inv s₀' s₂ → Seg (model prog w) A R Y q s₀' (.whileLoop test body [] env) ((model prog w).den (.whileLoop test body [] env)) fs s₂) →
      Seg (model prog w) A R Y (q + 1) s₀ (.whileLoop test body [] env) ((model prog w).den (.whileLoop test body [] env)) fs s₁) (s₀ s₁ : Shared) (h : Inv s₀ s₁) :
    Seg (model prog w) A R Y 2 s₀ (.whileLoop test body [] env) ((model prog w).den (.whileLoop test body [] env)) fs s₁ :=
  turn 1 s₀ s₁ (by omega) h fun s₀' s₂ _ h' => turn 0 s₀' s₂ (by omega) h' fun _ _ hlt => absurd hlt (Nat.lt_irrefl _)
local macro_rules | `(tactic| walk_at "eval Name") => `(tactic| (k_here; k_dflt (refine' ld ?k1 ?k2 ?_; (case k1 => k_asm); (case k2 => assumption); k_whole)))
theorem use45 (w : World) {A : Around} {E : Value → Shared → Prop} {Q : Value → Shared → Prop} {s : Shared} {p : Program} {loose : List Str} {mean : ExcName → Option Value} {mg mb : Str → Option Value} (hh : A.handled = none) (hroom : A.depth + 4 < recursionLimit) (l : Addr) (its : Array Value) (n : Nat)
    (hX : (h39 w.params).In s.heap) (T : Top p loose mean mg mb s.heap) (hl : s.heap.IsList l its) (hint : ∀ i, i < 3 → ∃ k t, its[i]? = some (.int k t) ∧ 2 ≤ k ∧ k ≤ 4)
    (hend : (n = 3 ∧ its.size = 3) ∨ (n = 3 ∧ ∃ t, its[3]? = some (.int 127 t)) ∨ (n = 5 ∧ ∃ t, its[3]? = some (.int 0 t)))
    (k : ∀ h' tk (L ga : Addr) gs, gs.bare = true → s.heap.objs.size ≤ L → s.heap.objs.size ≤ ga → ga ≠ L → L < h'.objs.size → ga < h'.objs.size → Grow s.heap h' → s.toks ≤ tk → h'.IsGen ga s.gens.size →
      (∀ (X : List Addr) s', (∀ c ∈ X, h'.objs.size ≤ c) → Grow h' s'.heap → s'.gens = s.gens.push gs → Live X s'.heap →
        GenSt PySem.Challenge.rw_to0015_01.row.prog w A.in1.in1 ga s.gens.size X (Wg s.heap (ga :: X)) n (fun i => its.getD (if i < 3 then i else 2) .none) 0 s') →
      Q (.ref ga) { s with gens := s.gens.push gs, heap := h', toks := tk }) :
    wpAny (model PySem.Challenge.rw_to0015_01.row.prog w) A (call (.ref 45) [.ref l]) Q E s := by
  (revert hX; k_fill; intro hX)
  refine call_gen (binds := [(Str.ofString "grouping", .ref l)]) (by assumption) T.nolimit (by k_is) (by k_is) (by omega) (BindsTo.of_eq rfl) (locs rfl) ?_ (by decide) rfl rfl rfl
  intro h' tk L ga hL hga hne hsz hLs hgs F hg htk
  refine k h' tk L ga _ rfl hL hga hne hLs hgs F.keep htk hg ?_
  intro X s' hXf hgr hgens hlive
  have hal : ∀ {s'' : Shared}, KB X s'.heap s''.heap → KB X h' s''.heap := fun k b o hb e => k b o hb (hgr b o e)
  have hgg : s'.gens[s.gens.size]? = some _ := (congrArg (fun z => z[s.gens.size]?) hgens).trans (Array.getElem?_push_size ..)
  refine ⟨hg.keeps hgr, (T.nolimit.keeps F.keep).keeps hgr, hlive, _, hgg, ?_⟩
  intro _ s'' hk hlv
  refine ⟨rfl, ?_⟩
  have hXs : ∀ b ∈ X, s.heap.get? b = none := fun b hb => by
    cases e : s.heap.get? b with
    | none => rfl
    | some o => exact absurd (Nat.lt_of_lt_of_le (Heap.lt_size e) (Nat.le_trans (by omega) (hXf b hb))) (Nat.lt_irrefl _)
  have hLX : L ∉ X := fun q => absurd (hXf _ q) (Nat.not_le.mpr hLs)
  have hGX : ∀ b ∈ ga :: X, s.heap.get? b = none ∧ b ≠ L := fun b hb => by
    rcases List.mem_cons.mp hb with rfl | hb
    · refine ⟨?_, hne⟩
      cases e : s.heap.get? b with
      | none => rfl
      | some o => exact absurd (Nat.lt_of_lt_of_le (Heap.lt_size e) hga) (Nat.lt_irrefl _)
    · exact ⟨hXs b hb, fun q => hLX (q ▸ hb)⟩
  have hgX : ga ∉ X := fun q => absurd (hXf _ q) (Nat.not_le.mpr hgs)
  have F2 : Fr s.heap L s''.heap _ := fr_kb (F.keeps hgr) hk hLX hXs
  have hlv2 : Live (ga :: X) s''.heap := fun c hc => by
    rcases List.mem_cons.mp hc with rfl | hc
    · obtain ⟨o, _, _, e, _⟩ := hg; exact ⟨o, hk _ _ hgX (hgr _ _ e)⟩
    · exact hlv c hc
  obtain ⟨news, hkeys, N2⟩ := news_live (hG := s.heap) (L := L) hlv2 hGX
  have kk : ∀ {h₁ : Heap} {m' : Str → Option Value} {more : List (Addr × Obj)}, Fr s.heap L h₁ m' → News s.heap L h₁ (more ++ news) → KP (Wg s.heap (ga :: X)) s''.heap h₁ := fun f n => kp_of (more := []) hkeys F2 N2 f n
  refine seg_func (seg_execs_cons (seg_stmt ?_))
  (try dsimp only)
  k_steps
  refine seg_execs_cons (sg_For (ld (by assumption) rfl ?_))
  rename_i h1 F1 N1
  have hl1 : h1.IsList l its := Heap.IsList.at hl fun o e => F1.keep _ o e
  refine wpAny_pyIter_list hl1 ?_
  intro pp
  have up : ∀ b o, h1.get? b = some o → (h1.push { cls := .type "list_iterator", data := .fields #[.ref l, .int 0 0] }).get? b = some o := fun b o e => Heap.get?_push_of_some _ e
  have hIL : h1.objs.size ≠ L := Ne.symm (Nat.ne_of_lt F1.ns.lt)
  have hI0 : s.heap.get? h1.objs.size = none := next_is_new F1
  have hnI : ∀ q ∈ news, q.1 ≠ h1.objs.size := fun q hq => Nat.ne_of_lt (Heap.lt_size (N1 q hq).1)
  have hIk : h1.objs.size ∉ ga :: X := fun hm => by
    rw [← hkeys] at hm
    obtain ⟨q, hq, e⟩ := List.mem_map.mp hm
    exact hnI q hq e
  have hit0 : (h1.push { cls := .type "list_iterator", data := .fields #[.ref l, .int 0 0] }).IsListIter h1.objs.size l 0 := ⟨_, Heap.get?_push_size _ rfl, rfl, rfl⟩
  have F3 := F1.keeps up
  have N3 : News s.heap L _ news := N1.grown up
  have hsame : Same (Wg s.heap (ga :: X)) s'' { s'' with heap := h1.push { cls := .type "list_iterator", data := .fields #[.ref l, .int 0 0] }, toks := s''.toks + 1 } := ⟨_, _, rfl, kk (more := []) F3 N3⟩
  generalize hI : h1.objs.size = I at hIL hI0 hnI hIk hit0 ⊢
  refine seg_loop 3 (fun i s₀ s₁ => (∃ m, Fr s.heap L s₁.heap m ∧ m (Str.ofString "last_interval") = some (if i = 0 then .none else its.getD (i - 1) .none)) ∧ s₁.heap.IsListIter I l i ∧ Live (ga :: X) s₁.heap ∧ Same (Wg s.heap (ga :: X)) s₀ s₁) ?turn _ _ ⟨⟨_, F3, rfl⟩, hit0, ?lv, hsame⟩
  case lv =>
    intro c hc
    rw [← hkeys] at hc
    obtain ⟨q, hq, rfl⟩ := List.mem_map.mp hc
    exact ⟨_, (N3 q hq).1⟩
  clear kk F3 N3 hsame F1 N1 hlv2 hkeys hnI hit0 up hl1
  rintro i s₀ s₁ hi ⟨⟨m, F1, hm⟩, hit, hlv1, hsame⟩ ih
  obtain ⟨news, hkeys, N1⟩ := news_live (hG := s.heap) (L := L) hlv1 hGX
  have hl1 : s₁.heap.IsList l its := Heap.IsList.at hl fun o e => F1.keep _ o e
  have hII : ∀ q ∈ news, q.1 ≠ I := fun q hq e => hIk (by rw [← hkeys, ← e]; exact List.mem_map_of_mem hq)
  refine sg_forLoop ?_
  by_cases hi3 : i < 3
  case pos =>
    obtain ⟨kv, tv, hv, hk2, hk4⟩ := hint i hi3
    refine wpAny_pyNext_list_item hit hl1 hv fun h₁ hit₁ hs₁ => ?_
    obtain ⟨oI, heI, hoI⟩ := hit₁
    have F3 : Fr s.heap L h₁ m := F1.change hs₁ hIL hI0
    have N3 : News s.heap L h₁ ((I, oI) :: news) := fun q hq => by
      rcases List.mem_cons.mp hq with rfl | hq
      · exact ⟨heI, hIL, hI0⟩
      · exact ⟨hs₁.extBut _ _ (hII q hq) (N1 q hq).1, (N1 q hq).2⟩
    have kk : ∀ {h₁ : Heap} {m' : Str → Option Value} {more : List (Addr × Obj)}, Fr s.heap L h₁ m' → News s.heap L h₁ (more ++ news) → KP (Wg s.heap (ga :: X)) s₁.heap h₁ := fun f n => kp_of (more := []) hkeys F1 N1 f n
    refine wpAny_of_eq rfl ?_
    clear hit F1 hl1
    (try dsimp only)
    k_steps
    obtain ⟨q, hq1, hq2⟩ : ∃ q, n - i = q + 1 ∧ n - (i + 1) = q := ⟨n - (i + 1), nsub3 (Nat.lt_of_lt_of_le hi3 (by rcases hend with ⟨rfl, _⟩ | ⟨rfl, _⟩ | ⟨rfl, _⟩ <;> decide)), rfl⟩
    rw [hq1]
    rw [hq2] at ih
    refine seg_execs_cons (seg_stmt ?_)
    k_steps
    all_goals (try (exfalso; omega))
    (try dsimp only)
    refine seg_execs_cons (sg_If ?_)
    k_steps
    all_goals (try (exfalso; omega))
    rw [if_neg (by simp only [beq_iff_eq, decide_eq_true_eq]; omega)]
    refine seg_execs_nil ?_
    (try dsimp only)
    refine seg_execs_cons (seg_Expr_Yield rfl rfl rfl (ld (by assumption) rfl ?_))
    rename_i h3 F4 N4 hne127
    intro kap hkap
    have hval : n - 1 - q = i := nsub1 hq1
    obtain ⟨h₀', tk₀', e₀, kp₀⟩ := hsame
    refine ⟨?_, ⟨h3, _, by rw [e₀], fun b o hb e => kk (more := [(I, oI)]) F4 N4 b o hb (by rw [e₀] at *; exact kp₀ b o hb e)⟩, fun _ s2 hkb hlv2 => hkap .none s2 ?_⟩
    · rw [hval]
      simp only [hi3, if_true]
      rw [Array.getD_eq_getD_getElem?, hv]
      rfl
    show Seg _ _ _ _ q s2 _ _ _ s2
    clear hkap kk
    have F5 : Fr s.heap L s2.heap _ := fr_kb F4 hkb hLX hXs
    have hIX : I ∉ X := fun q => hIk (List.mem_cons_of_mem _ q)
    have heI2 : s2.heap.get? I = some oI := hkb _ _ hIX (N4 (I, oI) List.mem_cons_self).1
    have hlv3 : Live (ga :: X) s2.heap := fun c hc => by
      rcases List.mem_cons.mp hc with rfl | hc
      · rw [← List.mem_cons_self (a := c) (l := X) |> fun h => (rfl : c = c)]
        have hm : c ∈ List.map (·.1) news := by rw [hkeys]; exact List.mem_cons_self
        obtain ⟨z, hz, hz1⟩ := List.mem_map.mp hm
        exact ⟨z.2, hkb _ _ hgX (hz1 ▸ (N4 z (List.mem_cons_of_mem _ hz)).1)⟩
      · exact hlv2 c hc
    clear N4 F4
    obtain ⟨news2, hkeys2, N5⟩ := news_live (hG := s.heap) (L := L) hlv3 hGX
    have N6 : News s.heap L s2.heap ((I, oI) :: news2) := fun z hz => by
      rcases List.mem_cons.mp hz with rfl | hz
      · exact ⟨heI2, hIL, hI0⟩
      · exact N5 z hz
    have kk2 : ∀ {h₁ : Heap} {m' : Str → Option Value} {more : List (Addr × Obj)}, Fr s.heap L h₁ m' → News s.heap L h₁ (more ++ news2) → KP (Wg s.heap (ga :: X)) s2.heap h₁ := fun f n => kp_of (more := []) hkeys2 F5 N5 f n
    clear N5
    refine seg_execs_cons (seg_stmt ?_)
    (try dsimp only)
    k_steps
    refine seg_execs_nil ?_
    rename_i h6 F6 N7
    refine seg_again rfl (ih s2 _ hi3 ⟨⟨_, F6, ?_⟩, ⟨oI, (N7 (I, oI) List.mem_cons_self).1, hoI⟩, ?_, ⟨_, _, rfl, kk2 (more := [(I, oI)]) F6 N7⟩⟩)
    · rw [if_neg (Nat.succ_ne_zero i), Nat.add_sub_cancel, Array.getD_eq_getD_getElem?, hv]
      simp
    · intro c hc
      rw [← hkeys2] at hc
      obtain ⟨z, hz, rfl⟩ := List.mem_map.mp hc
      exact ⟨z.2, (N7 z (List.mem_cons_of_mem _ hz)).1⟩
  case neg =>
    obtain rfl : i = 3 := by omega
    have kk : ∀ {h₁ : Heap} {m' : Str → Option Value} {more : List (Addr × Obj)}, Fr s.heap L h₁ m' → News s.heap L h₁ (more ++ news) → KP (Wg s.heap (ga :: X)) s₁.heap h₁ := fun f n => kp_of (more := []) hkeys F1 N1 f n
    have step : ∀ h₁, h₁.IsListIter I l 4 → Heap.SameBut I s₁.heap h₁ → ∃ oI, Fr s.heap L h₁ m ∧ News s.heap L h₁ ((I, oI) :: news) := fun h₁ hit₁ hs₁ => by
      obtain ⟨oI, heI, hoI⟩ := hit₁
      refine ⟨oI, F1.change hs₁ hIL hI0, fun q hq => ?_⟩
      rcases List.mem_cons.mp hq with rfl | hq
      · exact ⟨heI, hIL, hI0⟩
      · exact ⟨hs₁.extBut _ _ (hII q hq) (N1 q hq).1, (N1 q hq).2⟩
    rcases hend with ⟨rfl, hsz3⟩ | ⟨rfl, t3, hv⟩ | ⟨rfl, t3, hv⟩
    · refine wpAny_pyNext_list_end hh hit hl1 (by simp [hsz3]) fun h₁ he₁ => ?_
      refine seg_again rfl (sg_block_nil (seg_leaf (.ok .next) ?_))
      show Seg _ _ _ _ 0 _ _ _ [] _
      refine seg_end (.ok (.ret .none)) ⟨rfl, rfl, ?_⟩
      obtain ⟨h₀', tk₀', rfl, kp₀⟩ := hsame
      refine ⟨_, _, rfl, fun b o hb e => he₁ b o (fun q => ?_) (kp₀ b o hb e)⟩
      exact hb ⟨by rw [q]; exact hI0, by rw [q]; exact hIk⟩
    · refine wpAny_pyNext_list_item hit hl1 hv fun h₁ hit₁ hs₁ => ?_
      obtain ⟨oI, F3, N3⟩ := step h₁ hit₁ hs₁
      refine wpAny_of_eq rfl ?_
      clear hit F1 hl1 N1
      (try dsimp only)
      k_steps
      refine seg_execs_cons (seg_stmt ?_)
      k_steps
      all_goals (try (exfalso; omega))
      rename_i h4 F4 N4
      obtain ⟨h₀', tk₀', rfl, kp₀⟩ := hsame
      exact seg_leaf (.ok (.ret .none)) (seg_end (.ok (.ret .none)) ⟨rfl, rfl, ⟨h4, _, rfl, fun b o hb e => kk (more := [(I, oI)]) F4 N4 b o hb (kp₀ b o hb e)⟩⟩)
    · refine wpAny_pyNext_list_item hit hl1 hv fun h₁ hit₁ hs₁ => ?_
      obtain ⟨oI, F3, N3⟩ := step h₁ hit₁ hs₁
      refine wpAny_of_eq rfl ?_
      clear hit F1 hl1 N1
      (try dsimp only)
      k_steps
      refine seg_execs_cons (seg_stmt ?_)
      k_steps
      all_goals (try (exfalso; omega))
      (try dsimp only)
      refine seg_execs_cons (sg_If ?_)
      k_steps
      rw [if_pos (by simp only [beq_iff_eq, decide_eq_true_eq])]
      obtain ⟨kv, tv, hv2, hk2, hk4⟩ := hint 2 (by omega)
      have hm2 : m (Str.ofString "last_interval") = some (.int kv tv) := by
        rw [hm, if_neg (by decide)]
        show some (its.getD 2 .none) = _
        rw [Array.getD_eq_getD_getElem?, hv2]; rfl
      refine seg_execs_cons (seg_stmt ?_)
      k_steps
      (try dsimp only)
      refine seg_execs_cons (seg_While ?_)
      intro pw
      rename_i h4 F4 N4 _
      refine seg_wloop (fun s₀ s₁ => (∃ m, Fr s.heap L s₁.heap m ∧ m (Str.ofString "last_interval") = some (.int kv tv)) ∧ Live (ga :: X) s₁.heap ∧ Same (Wg s.heap (ga :: X)) s₀ s₁) ?turn2 _ _ ⟨⟨_, F4, hm2⟩, ?lv2, ?sm2⟩
      case lv2 =>
        intro c hc
        rw [← hkeys] at hc
        obtain ⟨z, hz, rfl⟩ := List.mem_map.mp hc
        exact ⟨z.2, (N4 z (List.mem_cons_of_mem _ hz)).1⟩
      case sm2 =>
        obtain ⟨h₀', tk₀', rfl, kp₀⟩ := hsame
        exact ⟨h4, _, rfl, fun b o hb e => kk (more := [(I, oI)]) F4 N4 b o hb (kp₀ b o hb e)⟩
      clear kk F4 N4 hkeys hlv1 hsame ih hm hm2 hit₁ hs₁ step hII
      rintro q s₀ s₁ hq ⟨⟨m, F1, hm⟩, hlv1, hsame⟩ ih
      obtain ⟨news, hkeys, N1⟩ := news_live (hG := s.heap) (L := L) hlv1 hGX
      have kk : ∀ {h₁ : Heap} {m' : Str → Option Value} {more : List (Addr × Obj)}, Fr s.heap L h₁ m' → News s.heap L h₁ (more ++ news) → KP (Wg s.heap (ga :: X)) s₁.heap h₁ := fun f n => kp_of (more := []) hkeys F1 N1 f n
      refine seg_whileLoop ?_
      k_steps
      refine seg_execs_cons (seg_Expr_Yield rfl rfl rfl (ld (by assumption) (by assumption) ?_))
      intro kap hkap
      refine ⟨?_, hsame, fun hq0 s2 hkb hlv2 => hkap .none s2 ?_⟩
      · have e1 : (if 5 - 1 - q < 3 then 5 - 1 - q else 2) = 2 := by rw [if_neg (by omega)]
        show Value.int kv tv = its.getD (if 5 - 1 - q < 3 then 5 - 1 - q else 2) .none
        rw [e1, Array.getD_eq_getD_getElem?, hv2]
        rfl
      have F5 : Fr s.heap L s2.heap _ := fr_kb F1 hkb hLX hXs
      refine seg_again rfl (ih s2 s2 (by omega) ⟨⟨_, F5, hm⟩, ?_, ⟨s2.heap, s2.toks, rfl, fun _ _ _ e => e⟩⟩)
      intro c hc
      rcases List.mem_cons.mp hc with rfl | hc
      · have hmm : c ∈ List.map (·.1) news := by rw [hkeys]; exact List.mem_cons_self
        obtain ⟨z, hz, hz1⟩ := List.mem_map.mp hmm
        exact ⟨z.2, hkb _ _ hgX (hz1 ▸ (N1 z hz).1)⟩
      · exact hlv2 c hc
end
section
theorem told_go {prog : Program} {w : World} {A : Around} {env : Env} {h₀ hc h7 : Heap} {L ga : Nat} {m : Str → Option Value} {news : List (Addr × Obj)} {s8 : Shared} {nz g n : Nat} {val : Nat → Value} {y : Str} {Q : Flow → Shared → Prop}
    {st sz : Str} {p1 p2 p3 tp : Pos} {kk : Nat} {iter : Expr} {scope cs : Scope} {cl : List (Str × Addr)} {pos : Pos}
    (hh : A.handled = none) (hroom : A.depth < recursionLimit) (hL : env.locals = L) (F : Fr h₀ L hc m) (N : News h₀ L hc news) (hlim : hc.NoLimit) (hgr : Grow hc h7) (hgr8 : Grow h7 s8.heap) (hnz : nz = h7.objs.size)
    (hz : IsZip s8.heap (nz + 3) (nz + 1) (nz + 2) .none) (hTI : IsPair s8.heap (nz + 1) (.ref nz) (.ref ga)) (hTO : IsPair s8.heap (nz + 2) .none .none) (hi1 : IsRangeIter s8.heap nz 0 5 1)
    (hga : hc.objs.size ≤ ga) (hgs : ga < h7.objs.size) (hsz : hc.objs.size ≤ h7.objs.size)
    (hst : ∀ (X : List Addr) s', (∀ c ∈ X, h7.objs.size ≤ c) → Grow h7 s'.heap → s'.gens = s8.gens → Live X s'.heap → GenSt prog w A.in1.in1 ga g X (Wg hc (ga :: X)) n val 0 s')
    (ha : cs.names.lookup st = some .local) (hb : cs.names.lookup sz = some .local) (hkind : cs.kind = .function) (hdb : (sz == ("__debug__" : Str)) = false)
    (k : ∀ h' gs' tk (D : Nat) c, @LT.lt Nat _ L D → Fr h₀ L h' (fun z => if z = y then some (.ref D) else m z) → News h₀ L h' ((D, { cls := .type "list", data := .seq ((List.range (cnt n)).map val).toArray c }) :: news) → s8.toks ≤ tk → (AllB s8.gens → AllB gs') → Q .next { s8 with heap := h', gens := gs', toks := tk })
    (D C : Nat) (h₁ : Heap) (mc : Str → Option Value) (tk : Nat) (hD : s8.heap.objs.size ≤ D) (hC : s8.heap.objs.size ≤ C) (hCD : C ≠ D) (hg : Grow s8.heap h₁) (hl : h₁.PlainList D #[]) (hn : h₁.Ns C mc) (htk : s8.toks ≤ tk) :
    codeAny (model prog w) A (.compLoop (.ListComp (.Name sz p1) [⟨.Tuple [.Name st p2, .Name sz p3] kk tp, iter, [], 0⟩] scope pos) 0 (.ref (nz + 3)) (.ref D) (compEnvC cs cl C env)) (FinX env y Q C D) { s8 with heap := h₁, toks := tk } := by
  subst hL
  have zlt : nz + 3 < s8.heap.objs.size := Heap.lt_size hz
  have hLlt : @LT.lt Nat _ env.locals hc.objs.size := F.ns.lt
  have hcs : @LT.lt Nat _ cStatics hc.objs.size := let ⟨_, hn, _⟩ := hlim; hn.lt
  have alive_hc : ∀ {b o}, hc.get? b = some o → ∀ X, ¬ Wg hc X b := fun e X q => by rw [q.1] at e; cases e
  have fresh : ∀ c ∈ [nz + 3, nz + 2, nz, C, D, nz + 1], h7.objs.size ≤ c := by
    intro c hcm
    simp only [List.mem_cons, List.not_mem_nil, or_false] at hcm
    rcases hcm with rfl | rfl | rfl | rfl | rfl | rfl <;> omega
  have notX : ∀ b, b < h7.objs.size → b ∉ [nz + 3, nz + 2, nz, C, D, nz + 1] := fun b hb hm => absurd (fresh b hm) (Nat.not_le.mpr hb)
  have hLX : env.locals ∉ [nz + 3, nz + 2, nz, C, D, nz + 1] := notX _ (Nat.lt_of_lt_of_le hLlt hsz)
  have G := GSrc.gen (prog := prog) (w := w) (A := A.in1) (n := n) (val := val) (a := ga) (g := g) (X := [nz + 3, nz + 2, nz, C, D, nz + 1]) (W := Wg hc (ga :: [nz + 3, nz + 2, nz, C, D, nz + 1])) hh (by exact hroom) (notX _ hgs) (notX _ (Nat.lt_of_lt_of_le hcs hsz))
    (fun q => q.2 List.mem_cons_self) (by obtain ⟨_, hn, _⟩ := hlim; obtain ⟨o, _, _, e, _⟩ := hn; exact alive_hc e _) (fun c hc q => q.2 (List.mem_cons_of_mem _ hc))
  have hXin : ∀ c ∈ [nz + 3, nz + 2, nz, C, D, nz + 1], ¬ Wg hc (ga :: [nz + 3, nz + 2, nz, C, D, nz + 1]) c := fun c hc q => q.2 (List.mem_cons_of_mem _ hc)
  have Z : ZA (nz + 3) (nz + 1) (nz + 2) nz ga (Wg hc (ga :: [nz + 3, nz + 2, nz, C, D, nz + 1])) := ⟨show (nz + 1 : Nat) ≠ nz + 3 by omega, show (nz + 2 : Nat) ≠ nz + 3 by omega, show (nz : Nat) ≠ nz + 3 by omega, show (nz + 1 : Nat) ≠ nz + 2 by omega, show (nz + 1 : Nat) ≠ nz by omega, show (nz + 2 : Nat) ≠ nz by omega, hXin _ (by simp), hXin _ (by simp), hXin _ (by simp), hXin _ (by simp)⟩
  have live : Live [nz + 3, nz + 2, nz, C, D, nz + 1] h₁ := by
    intro c hcm
    simp only [List.mem_cons, List.not_mem_nil, or_false] at hcm
    rcases hcm with rfl | rfl | rfl | rfl | rfl | rfl
    · exact ⟨_, hg _ _ hz⟩
    · exact ⟨_, hg _ _ hTO⟩
    · exact ⟨_, hg _ _ hi1⟩
    · obtain ⟨o, _, _, e, _⟩ := hn; exact ⟨o, e⟩
    · obtain ⟨_, e⟩ := hl; exact ⟨_, e⟩
    · exact ⟨_, hg _ _ hTI⟩
  refine compLoop_zg (A := A) (n := n) (val := val) hh G Z (fun c hc => ?_) hCD (fun q => ?_) (fun q => ?_) ha hb hkind hdb ⟨hg _ _ hz, hg _ _ hTI, ⟨_, _, hg _ _ hTO⟩, hg _ _ hi1, hst _ _ fresh (fun b o e => hg _ _ (hgr8 _ _ e)) rfl live⟩ hl hn ?_
  · simp only [List.mem_cons, List.not_mem_nil, or_false] at hc ⊢
    rcases hc with rfl | rfl | rfl | rfl | rfl <;> simp
  · rcases q with q | q
    · simp only [List.mem_cons, List.not_mem_nil, or_false] at q
      rcases q with q | q | q | q <;> (have q' : @Eq Nat _ _ := q) <;> omega
    · exact hXin _ (by simp) q
  · rcases q with q | q
    · simp only [List.mem_cons, List.not_mem_nil, or_false] at q
      rcases q with q | q | q | q <;> (have q' : @Eq Nat _ _ := q) <;> omega
    · exact hXin _ (by simp) q
  · intro s' m' hm hpl hnC hts
    have keep : ∀ b o, hc.get? b = some o → s'.heap.get? b = some o := fun b o e => hm.kb b o (fun q => by
      rcases q with q | q
      · have hb : @LT.lt Nat _ b hc.objs.size := Heap.lt_size e
        simp only [List.mem_cons, List.not_mem_nil, or_false] at q
        rcases q with q | q | q | q | q <;> (have q' : @Eq Nat _ _ := q) <;> omega
      · exact alive_hc e _ q) (hg _ _ (hgr8 _ _ (hgr _ _ e)))
    have F' : Fr h₀ env.locals s'.heap m := F.keeps keep
    refine ⟨rfl, m', m, hnC, (show ¬ @Eq Nat C env.locals by omega), F'.ns, fun h₃ tk₃ htk₃ hn₃ hkb => ?_⟩
    refine hide fun G9 bk9 => ?_
    obtain ⟨⟨h', gs', tk', rfl⟩, _, hbare⟩ := hm
    refine bk9 ?_
    clear bk9 G9
    have keep3 : ∀ b o, b ≠ env.locals → hc.get? b = some o → h₃.get? b = some o := fun b o hb e => hkb b o (fun q => by
      have hb' : @LT.lt Nat _ b hc.objs.size := Heap.lt_size e
      simp only [List.mem_cons, List.not_mem_nil, or_false] at q
      rcases q with q | q
      · exact hb q
      · have q' : @Eq Nat _ _ := q
        omega) (keep b o e)
    obtain ⟨c, hpl'⟩ := hpl
    refine k h₃ gs' tk₃ D c (show @LT.lt Nat _ env.locals D by omega) ⟨hn₃, fun b o e => keep3 b o (fun q => ?_) (F.keep b o e), F.above⟩ (fun q hq => ?_) (Nat.le_trans htk (Nat.le_trans hts htk₃)) hbare
    · rw [q] at e; exact absurd (Heap.lt_size e) (Nat.not_lt.mpr F.above)
    · rcases List.mem_cons.mp hq with rfl | hq
      · have hDL : D ≠ env.locals := (show ¬ @Eq Nat D env.locals by omega)
        refine ⟨hkb _ _ (fun q => ?_) hpl', hDL, ?_⟩
        · simp only [List.mem_cons, List.not_mem_nil, or_false] at q
          rcases q with q | q
          · exact hDL q
          · exact hCD q.symm
        · cases e : h₀.get? D with
          | none => rfl
          | some o => have hd : @LT.lt Nat _ D hc.objs.size := Heap.lt_size (F.keep _ _ e); omega
      · refine hide fun G9 bk9 => ?_
        obtain ⟨n1, n2, n3⟩ := N q hq
        refine bk9 ?_
        clear bk9 G9
        exact ⟨keep3 _ _ n2 n1, n2, n3⟩
end
section
noncomputable def OutG (s : Shared) (post : Shared → Shared → Value → Prop) (v : Value) (s' : Shared) : Prop :=
  ∃ h' gs' tk', s' = { s with heap := h', gens := gs', toks := tk' } ∧ Grow s.heap h' ∧ s.toks ≤ tk' ∧ (AllB s.gens → AllB gs') ∧ post s s' v
noncomputable def TellsG (w : World) (n : Nat) (f : Addr) (args : List Value) (pre : Shared → Prop) (post : Shared → Shared → Value → Prop) : Prop :=
  ∀ (dp un : Nat) (gd : Option (List Code)) (outer : List Env) (s : Shared), Fit w dp un gd outer s.heap → pre s → dp + n < recursionLimit → un + 8 * n < cLine →
    codeAny (model PySem.Challenge.rw_to0015_01.row.prog w) (spot dp un gd outer) (.call (.ref f) ⟨args, []⟩) (fun r s' => ∃ v, r = .ok (.ret v) ∧ OutG s post v s') s
theorem TellsG.use {w : World} {n : Nat} {f : Addr} {args : List Value} {pre : Shared → Prop} {post : Shared → Shared → Value → Prop} (C : TellsG w n f args pre post)
    {dp un : Nat} {gd : Option (List Code)} {outer : List Env} {env : Env} {base h₀ : Heap} {L : Addr} {m : Str → Option Value} {s : Shared} {p : Program} {loose : List Str} {mean : ExcName → Option Value} {mg mb : Str → Option Value}
    {Q E : Value → Shared → Prop} (B : Below (spot dp un gd outer) base outer h₀) (F : Fr h₀ L s.heap m) (X : (h39 w.params).In h₀) (T : Top p loose mean mg mb h₀) (hf : env.frame = some L) (hk : env.scope.kind = .function)
    (hp : pre s) (hd : dp + 1 + n < recursionLimit) (hu : un + 3 + 8 * n < cLine)
    (k : ∀ v h' gs' tk', Grow s.heap h' → s.toks ≤ tk' → (AllB s.gens → AllB gs') → post s { s with heap := h', gens := gs', toks := tk' } v → Q v { s with heap := h', gens := gs', toks := tk' }) :
    wpAny (model PySem.Challenge.rw_to0015_01.row.prog w) ((spot dp un gd outer).deeper env) (call (.ref f) args) Q E s := by
  refine wpAny_call (codeAny_mono (C (dp + 1) (un + 3) gd (env :: outer) s ⟨⟨base, ?_⟩, X.keeps F.keep, ⟨_, _, _, _, _, T.keeps F.keep⟩⟩ hp hd hu) fun r s' hr => ?_)
  · exact pushX B F hf hk
  · refine hide fun G9 bk9 => ?_
    obtain ⟨v, rfl, h', gs', tk', rfl, hg, ht, hb, hpost⟩ := hr
    refine bk9 ?_
    clear bk9 G9
    exact k v h' gs' tk' hg ht hb hpost
section
variable {w : World} {dp un : Nat} {gd : Option (List Code)} {outer : List Env} {s : Shared} {post : Shared → Shared → Value → Prop}
  {name qual : Str} {params : Arguments} {body : List Stmt} {scope : Scope} {dV kV doc pm cdv ct oc : Value} {an od : Option Addr} {osl : Array (Option Value)} {f : Addr} {args : List Value} {binds : List (Str × Value)}
theorem enter_cellsG (x : Fit w dp un gd outer s.heap) (ho : (h39 w.params).lookup f = some ⟨oc, od, .func (fnOf name qual params body scope dV kV doc pm an cdv ct), osl⟩) (hcd : codeIn (h39 w.params) cdv qual = true) (hroom : dp < recursionLimit)
    (hbind : BindsTo s (fnOf name qual params body scope dV kV doc pm an cdv ct) ⟨args, []⟩ binds) (hkind : (binds.all fun y => scope.names.lookup y.1 == some .local || scope.names.lookup y.1 == some .cell) = true)
    (hnd : ((cellsFrom 0 scope.names []).map (·.1)).Nodup)
    (h : ∀ p loose mean mg mb base L' h₁ tk cells, L' = s.heap.objs.size → s.toks ≤ tk → Below (spot dp un gd outer) base outer s.heap → Fr s.heap L' h₁ (bindL (envOfC qual scope L' f cdv).kindOf binds fun _ => none) → News s.heap L' h₁ cells →
      CellsAre (bindC (envOfC qual scope L' f cdv).kindOf binds fun _ => none) (cellsFrom (L' + 1) scope.names []) cells → (h39 w.params).In s.heap → Top p loose mean mg mb s.heap →
      wpAny (model PySem.Challenge.rw_to0015_01.row.prog w) ((spot dp un gd outer).deeper (envOfC qual scope L' f cdv)) (execs body (envOfC qual scope L' f cdv)) (fun fl s' => s.toks ≤ s'.toks → OutG s post (flowVal fl) s') (fun _ _ => False) { s with heap := h₁, toks := tk })
    (hco : scope.isCoroutine = false) (hgen : scope.isGenerator = false) (hk : scope.kind = .function) :
    codeAny (model PySem.Challenge.rw_to0015_01.row.prog w) (spot dp un gd outer) (.call (.ref f) ⟨args, []⟩) (fun r s' => ∃ v, r = .ok (.ret v) ∧ OutG s post v s') s := by
  refine hide fun G9 bk9 => ?_
  obtain ⟨⟨base, B⟩, X, ⟨p, loose, mean, mg, mb, T⟩⟩ := x
  refine bk9 ?_
  clear bk9 G9
  refine codeAny_with_toks (n := s.toks) (Nat.le_refl _) ?_
  refine codeAny_call_function hroom (X _ _ ho) rfl hco hgen rfl (codeRec_of X hcd) (hbind _ _ _ _ ?_)
  refine wpAny_mono (wpAny_toks_of (n := s.toks) (by first | exact Nat.le_refl _ | exact Nat.le_add_right _ _) (wpAny_newFunctionEnv_cells hk (kindsX hkind _) (Q := fun env' s' => env' = envOfC qual scope s.heap.objs.size f cdv ∧ s'.heap.NoLimit ∧ ∃ h₁ tk cells, s' = { s with heap := h₁, toks := tk } ∧ Fr s.heap s.heap.objs.size h₁ (bindL (envOfC qual scope s.heap.objs.size f cdv).kindOf binds fun _ => none) ∧ News s.heap s.heap.objs.size h₁ cells ∧ CellsAre (bindC (envOfC qual scope s.heap.objs.size f cdv).kindOf binds fun _ => none) (cellsFrom (s.heap.objs.size + 1) scope.names []) cells) fun env' he s' x => ?_)) (fun env' s' hq => ?_) fun _ _ e => e.2
  · subst he
    refine hide fun G9 bk9 => ?_
    obtain ⟨h₁, tk, rfl, _⟩ := x.done
    have hk₁ := x.toInCall.keep
    obtain ⟨cells, NC, Y⟩ := Cl.news (h₀ := s.heap) (Nat.le_refl _) fun n c hm => ⟨x.cell n c (lookup_of_mem_nodup (cellsFrom_names scope.names 0 (s.heap.objs.size + 1) [] [] rfl ▸ hnd) hm), x.above n c hm⟩
    refine bk9 ?_
    clear bk9 G9
    exact ⟨rfl, T.nolimit.keeps hk₁, h₁, tk, cells, rfl, ⟨x.toInCall.ns, hk₁, Nat.le_refl _⟩, NC, Y⟩
  · refine hide fun G9 bk9 => ?_
    obtain ⟨htk, rfl, hnl, h₁, tk, cells, rfl, F, NC, Y⟩ := hq
    refine bk9 ?_
    clear bk9 G9
    refine ⟨hnl, codeAny_func ?_⟩
    refine wpAny_mono (h p loose mean mg mb base s.heap.objs.size h₁ tk cells rfl htk B F NC Y X T) (fun fl s' hl => ?_) fun _ _ y => y.elim
    exact fun ht => ⟨_, rfl, by cases fl <;> exact hl ht⟩
end
end
section
theorem len_succ {α : Type} : ∀ {l : List α} {n : Nat}, l.length = n + 1 → ∃ a r, l = a :: r ∧ r.length = n
  | [], _, h => nomatch h
  | a :: r, _, h => ⟨a, r, rfl, Nat.succ.inj h⟩
section
variable {prog : Program} {w : World} {A : Around} {E : Value → Shared → Prop} {s : Shared} {h₀ hb : Heap} {L : Addr} {m : Str → Option Value} {news : List (Addr × Obj)} {Q : Value → Shared → Prop}
theorem slice_upG {value slice : PySem.Expr} {l : Addr} {its : Array Value} {zs : List Value} {n : Nat} {vl vu : Value} {lo hi : Option Int} (F : Fr h₀ L s.heap m) (N : News h₀ L s.heap news) (g : Grow hb s.heap) (hl : (l, ({ cls := .type "list", data := .seq its n } : Obj)) ∈ news) (pl : IsPart vl lo) (pu : IsPart vu hi) (e' : kms_pick its.toList lo hi = zs)
    (h : ∀ (D : Addr) h', Fr h₀ L h' m → News h₀ L h' ((D, { cls := .type "list", data := .seq zs.toArray }) :: news) → Grow hb h' → Q (.ref D) { s with heap := h' })
    (hs : subscripted slice false (.ref l) (.ref s.heap.objs.size) = operate [.ref s.heap.objs.size, .ref l] (getItem (.ref l) (.ref s.heap.objs.size))) (ht : ∀ r, letTemporaryGo value (.ref l) r = pure ()) (hz : its.size ≤ sizeLine) :
    wpAny (model prog w) A (subscriptTail value slice (.ref l) (.ref s.heap.objs.size)) Q E { s with heap := s.heap.push { cls := .type "slice", data := .fields #[vl, vu, .none] } } := by
  have e : (slicePick its lo hi none).toList = zs := by rw [kms_pick_eq, ← e']
  have up : Grow s.heap ((s.heap.push { cls := .type "slice", data := .fields #[vl, vu, .none] }).push { cls := .type "list", data := .seq (slicePick its lo hi none) }) := fun b o e => Heap.get?_push_of_some _ (Heap.get?_push_of_some _ e)
  have hD : ((s.heap.push { cls := .type "slice", data := .fields #[vl, vu, .none] }).push { cls := .type "list", data := .seq (slicePick its lo hi none) }).get? (s.heap.objs.size + 1) = some { cls := .type "list", data := .seq (slicePick its lo hi none) } := by
    have hsz := Heap.size_push (h := s.heap) (o := { cls := .type "slice", data := .fields #[vl, vu, .none] })
    rw [← hsz]; exact Heap.get?_push_size _ rfl
  refine slice_listK ⟨_, (N _ hl).1, rfl, n, rfl⟩ pl pu (h _ _ (F.keeps up) (fun q hq => ?_) (g.trans up)) hs ht hz
  rcases List.mem_cons.mp hq with rfl | hq
  · rw [← e, Array.toArray_toList]
    exact ⟨hD, Ne.symm (Nat.ne_of_lt (Nat.lt_succ_of_lt F.ns.lt)), Heap.get?_none_of_le (Nat.le_trans F.above (Nat.le_succ_of_le (Nat.le_of_lt F.ns.lt)))⟩
  · exact ⟨up _ _ (N q hq).1, (N q hq).2⟩
theorem add_upG {a b : Addr} {its its2 : Array Value} {zs : List Value} {n n2 : Nat} (F : Fr h₀ L s.heap m) (N : News h₀ L s.heap news) (g : Grow hb s.heap) (ha : (a, ({ cls := .type "list", data := .seq its n } : Obj)) ∈ news) (hb' : (b, ({ cls := .type "list", data := .seq its2 n2 } : Obj)) ∈ news) (e : its.toList ++ its2.toList = zs) (hz : its.toList.length + its2.toList.length ≤ sizeLine)
    (h : ∀ (D : Addr) h', Fr h₀ L h' m → News h₀ L h' ((D, { cls := .type "list", data := .seq zs.toArray }) :: news) → Grow hb h' → Q (.ref D) { s with heap := h' }) : wpAny (model prog w) A (binaryOp .Add (.ref a) (.ref b)) Q E s := by
  have up : ∀ ob, Grow s.heap (s.heap.push ob) := fun ob b o e => Heap.get?_push_of_some _ e
  refine P.add_list (N _ ha).1 (N _ hb').1 (h _ _ (F.keeps (up _)) (fun q hq => ?_) (g.trans (up _))) (by simpa using hz)
  rcases List.mem_cons.mp hq with rfl | hq
  · have e' : its ++ its2 = zs.toArray := by rw [← e]; simp
    rw [← e']
    exact ⟨Heap.get?_push_size _ rfl, Ne.symm (Nat.ne_of_lt F.ns.lt), next_is_new F⟩
  · exact ⟨up _ _ _ (N q hq).1, (N q hq).2⟩
theorem add_upL {a b : Addr} {its its2 : Array Value} {zs : List Value} {n n2 : Nat} (F : Fr h₀ L s.heap m) (N : News h₀ L s.heap news) (ha : (a, ({ cls := .type "list", data := .seq its n } : Obj)) ∈ news) (hb' : (b, ({ cls := .type "list", data := .seq its2 n2 } : Obj)) ∈ news) (e : its.toList ++ its2.toList = zs) (hz : its.toList.length + its2.toList.length ≤ sizeLine)
    (h : ∀ (D : Addr) h', Fr h₀ L h' m → News h₀ L h' ((D, { cls := .type "list", data := .seq zs.toArray }) :: news) → s.heap.objs.size ≤ D → Q (.ref D) { s with heap := h' }) : wpAny (model prog w) A (binaryOp .Add (.ref a) (.ref b)) Q E s := by
  have up : ∀ ob, Grow s.heap (s.heap.push ob) := fun ob b o e => Heap.get?_push_of_some _ e
  refine P.add_list (N _ ha).1 (N _ hb').1 (h _ _ (F.keeps (up _)) (fun q hq => ?_) (Nat.le_refl _)) (by simpa using hz)
  rcases List.mem_cons.mp hq with rfl | hq
  · have e' : its ++ its2 = zs.toArray := by rw [← e]; simp
    rw [← e']
    exact ⟨Heap.get?_push_size _ rfl, Ne.symm (Nat.ne_of_lt F.ns.lt), next_is_new F⟩
  · exact ⟨up _ _ _ (N q hq).1, (N q hq).2⟩
end
end
section
theorem fin_as_start {w : World} {env : Env} {Q : Flow → Shared → Prop} {h₀ h₂ : Heap} {m : Str → Option Value} {news : List (Addr × Obj)} {wr : List Addr} {n : Nat} {p : Nat → Bool} {F' : Nat → Value → Heap → Prop} {s : Shared} {y : Str}
    (F : Fr h₀ env.locals h₂ m) (N : News h₀ env.locals h₂ news) (ap : Apart h₀ env.locals news wr) (hi : ∀ i y h h', F' i y h → F' i y h')
    (k : ∀ D h' tk ys c, Fr h₀ env.locals h' (fun z => if z = y then some (.ref D) else m z) → News h₀ env.locals h' ((D, { cls := .type "list", data := .seq ys c }) :: news) → Vals p F' h' n ys.toList → s.toks ≤ tk → Q .next { s with heap := h', toks := tk }) :
    FinAs env y Q wr n p F' { s with heap := h₂ } := by
  refine ⟨m, F.ns, fun hm => (ap _ hm).2.1 rfl, hi, fun D h' tk ys hD0 hl hv hk hn htk => ?_⟩
  have hD : h₂.get? D = none := Heap.get?_none_of_le hD0
  have hDL : D ≠ env.locals := by
    rintro rfl
    refine hide fun G9 bk9 => ?_
    obtain ⟨o, es, ep, e1, _⟩ := F.ns
    refine bk9 ?_
    clear bk9 G9
    rw [hD] at e1; cases e1
  obtain ⟨c, e⟩ := hl
  have kp : ∀ b o, b ≠ env.locals → b ∉ wr → h₂.get? b = some o → h'.get? b = some o := fun b o h1 h2 e => hk b o (fun q => (List.mem_cons.mp q).elim h1 h2) e
  refine k D h' tk ys c ⟨hn, fun b o he => kp b o (fun q => ?_) (fun q => ?_) (F.keep b o he), F.above⟩ (fun q hq => ?_) hv htk
  · subst q
    exact absurd (Heap.lt_size he) (Nat.not_lt.mpr F.above)
  · have := (ap b q).1
    rw [this] at he; cases he
  · rcases List.mem_cons.mp hq with rfl | hq
    · refine ⟨e, hDL, ?_⟩
      cases h : h₀.get? D with
      | none => rfl
      | some o => have := F.keep _ _ h; rw [hD] at this; cases this
    · refine hide fun G9 bk9 => ?_
      obtain ⟨n1, n2, n3⟩ := N q hq
      refine bk9 ?_
      clear bk9 G9
      exact ⟨kp _ _ n2 (fun hm => (ap _ hm).2.2 q hq rfl) n1, n2, n3⟩
theorem fin_as_start2 {w : World} {env : Env} {Q : Flow → Shared → Prop} {h₀ h₂ : Heap} {m : Str → Option Value} {news : List (Addr × Obj)} {wr : List Addr} {n : Nat} {p : Nat → Bool} {F' : Nat → Value → Heap → Prop} {s : Shared} {y : Str}
    (F : Fr h₀ env.locals h₂ m) (N : News h₀ env.locals h₂ news) (ap : Apart h₀ env.locals news wr) (hi : ∀ i y h h', F' i y h → F' i y h')
    (k : ∀ (D : Addr) h' tk ys c, h₂.objs.size ≤ D → Fr h₀ env.locals h' (fun z => if z = y then some (.ref D) else m z) → News h₀ env.locals h' ((D, { cls := .type "list", data := .seq ys c }) :: news) → Vals p F' h' n ys.toList → s.toks ≤ tk → Q .next { s with heap := h', toks := tk }) :
    FinAs env y Q wr n p F' { s with heap := h₂ } := by
  refine ⟨m, F.ns, fun hm => (ap _ hm).2.1 rfl, hi, fun D h' tk ys hD0 hl hv hk hn htk => ?_⟩
  have hD : h₂.get? D = none := Heap.get?_none_of_le hD0
  have hDL : D ≠ env.locals := by
    rintro rfl
    refine hide fun G9 bk9 => ?_
    obtain ⟨o, es, ep, e1, _⟩ := F.ns
    refine bk9 ?_
    clear bk9 G9
    rw [hD] at e1; cases e1
  obtain ⟨c, e⟩ := hl
  have kp : ∀ b o, b ≠ env.locals → b ∉ wr → h₂.get? b = some o → h'.get? b = some o := fun b o h1 h2 e => hk b o (fun q => (List.mem_cons.mp q).elim h1 h2) e
  refine k D h' tk ys c hD0 ⟨hn, fun b o he => kp b o (fun q => ?_) (fun q => ?_) (F.keep b o he), F.above⟩ (fun q hq => ?_) hv htk
  · subst q
    exact absurd (Heap.lt_size he) (Nat.not_lt.mpr F.above)
  · have := (ap b q).1
    rw [this] at he; cases he
  · rcases List.mem_cons.mp hq with rfl | hq
    · refine ⟨e, hDL, ?_⟩
      cases h : h₀.get? D with
      | none => rfl
      | some o => have := F.keep _ _ h; rw [hD] at this; cases this
    · refine hide fun G9 bk9 => ?_
      obtain ⟨n1, n2, n3⟩ := N q hq
      refine bk9 ?_
      clear bk9 G9
      exact ⟨kp _ _ n2 (fun hm => (ap _ hm).2.2 q hq rfl) n1, n2, n3⟩
end
section
local macro_rules | `(tactic| walk_at "pyIter ref") => `(tactic| (k_here; refine halt ?_))
local macro_rules | `(tactic| walk_at "call ref") => `(tactic| (k_here; refine halt ?_))
local macro_rules | `(tactic| walk_at "call type zip ref") => `(tactic| (k_here; refine halt ?_))
local macro_rules | `(tactic| walk_at "exec Assign cons ListComp") => `(tactic| (k_here; refine halt ?_))
local macro_rules | `(tactic| walk_at "binaryOp FloorDiv int int") => `(tactic| (refine floordiv_int (Int.ne_of_gt (Int.pow_pos (by decide))) ?_ (Or.inl (PyProof.noPylong_small (by assumption)))))
section
variable {prog : Program} {w : World} {A : Around} {E : Value → Shared → Prop} {s : Shared} {h₀ : Heap} {L : Addr} {m : Str → Option Value} {news : List (Addr × Obj)} {Q : Value → Shared → Prop}
theorem range_news {n : Int} {t : Tok} (F : Fr h₀ L s.heap m) (N : News h₀ L s.heap news)
    (h : ∀ (r : Addr) h' tk k0 k1, Fr h₀ L h' m → News h₀ L h' ((r, { cls := .type "range", data := .fields #[.int 0 k0, .int n t, .int 1 k1] }) :: news) → s.toks ≤ tk → Q (.ref r) { s with heap := h', toks := tk }) :
    wpAny (model prog w) A (call (.type "range") [.int n t]) Q E s := by
  refine call_range_1 ?_
  have up : Grow s.heap (s.heap.push { cls := .type "range", data := .fields #[.int 0 s.toks, .int n t, .int 1 (s.toks + 1)] }) := fun b o e => Heap.get?_push_of_some _ e
  refine h _ _ _ s.toks (s.toks + 1) (F.keeps up) (fun q hq => ?_) (by omega)
  rcases List.mem_cons.mp hq with rfl | hq
  · exact ⟨Heap.get?_push_size _ rfl, Ne.symm (Nat.ne_of_lt F.ns.lt), next_is_new F⟩
  · exact ⟨up _ _ (N q hq).1, (N q hq).2⟩
end
local macro_rules | `(tactic| walk_at "call type:range") => `(tactic| (k_here; refine halt ?_))
theorem pow3 : ∀ i : Nat, i < 3 → ((3 : Int) ^ ((i : Int)).toNat).natAbs < 1073741824 := by decide +kernel
noncomputable def szOk (zs : Array Value) : Prop := (zs.size = 3 ∨ zs.size = 5) ∧ ∀ i, i < zs.size → ∃ k t, zs[i]? = some (.int k t) ∧ 2 ≤ k ∧ k ≤ 4
theorem szOk_3 {k0 k1 k2 : Int} {t0 t1 t2 : Tok} (a0 : 2 ≤ k0) (b0 : k0 ≤ 4) (a1 : 2 ≤ k1) (b1 : k1 ≤ 4) (a2 : 2 ≤ k2) (b2 : k2 ≤ 4) : szOk #[.int k0 t0, .int k1 t1, .int k2 t2] :=
  ⟨.inl rfl, fun i hi => by
    rcases lt3 hi with rfl | rfl | rfl
    · exact ⟨_, _, rfl, a0, b0⟩
    · exact ⟨_, _, rfl, a1, b1⟩
    · exact ⟨_, _, rfl, a2, b2⟩⟩
theorem szOk_5 {k0 k1 k2 : Int} {t0 t1 t2 : Tok} (a0 : 2 ≤ k0) (b0 : k0 ≤ 4) (a1 : 2 ≤ k1) (b1 : k1 ≤ 4) (a2 : 2 ≤ k2) (b2 : k2 ≤ 4) : szOk #[.int k0 t0, .int k1 t1, .int k2 t2, .int k2 t2, .int k2 t2] :=
  ⟨.inr rfl, fun i hi => by
    rcases lt5 hi with rfl | rfl | rfl | rfl | rfl
    · exact ⟨_, _, rfl, a0, b0⟩
    · exact ⟨_, _, rfl, a1, b1⟩
    · exact ⟨_, _, rfl, a2, b2⟩
    · exact ⟨_, _, rfl, a2, b2⟩
    · exact ⟨_, _, rfl, a2, b2⟩⟩
theorem allB_push {g : Array GenState} {x : GenState} (h : AllB g) (hx : x.bare = true) : AllB (g.push x) := fun y hy => by
  rcases Array.mem_push.mp hy with hy | rfl
  · exact h y hy
  · exact hx
theorem t_sizes (w : World) (n : Int) (t : Tok) (hn : 0 ≤ n ∧ n ≤ 5000000) : TellsG w 12 103 [.int n t] (fun s => True)
    (fun s s' v => ∃ (T a b : Addr) (zs : Array Value), v = .ref T ∧ IsTup s'.heap T #[.ref a, .ref b] ∧ NewList s s' a zs ∧ NewList s s' b zs ∧ szOk zs) := by
  intro dp un gd outer s fit hpre hd hu
  (have hX := fit.X; revert hX; k_fill; intro hX)
  have hpos := hpre
  k_dflt (refine enter_cellsG (binds := [(Str.ofString "total", .int n t)]) (by assumption) (by k_is) (by k_is) (by omega) (BindsTo.of_eq rfl) rfl (by decide +kernel) ?_ rfl rfl rfl; intro p loose mean mg mb base L' h₁ tk cells eL' htk0 B F' N' Y' X' T'; k_cells Y'; (try simp only [List.cons_append, List.nil_append] at N'); (try dsimp only); (try k_fold))
  k_steps
  refine unhalt ?_
  k_dflt (refine comp_assign (by with_unfolding_all rfl) (by with_unfolding_all rfl) (by decide) (by rfl) (by decide) (by rfl) (by rfl) ?_)
  k_steps
  refine unhalt ?_
  refine src_tuple rfl (by assumption) (by assumption) ⟨_, head_at (by assumption), rfl, _, rfl⟩ ?hsz (fun _ => true) (fun i y _ => ∃ t k, 2 ≤ k ∧ k ≤ 4 ∧ y = .int k t) ?tn ?fn
  case hsz => show 3 ≤ 16777216; omega
  case tn =>
    intro h₂ F2 N2 ap g2 C i v h₃ tk₃ mC E' hC hi hV hn' hk htk
    have hi2 : i < 3 := hi
    have hV' : ∃ t, v = .int (i : Int) t := by
      rcases lt3 hi2 with rfl | rfl | rfl
      · exact ⟨_, (Option.some.inj hV).symm⟩
      · exact ⟨_, (Option.some.inj hV).symm⟩
      · exact ⟨_, (Option.some.inj hV).symm⟩
    obtain ⟨tv, rfl⟩ := hV'
    refine turn_name F2 N2 ap hC hn' hk htk rfl rfl ?_
    intro h₄ oC mC' tk₄ F₄ N₄ hoC hx hkb gg htk₄
    have hn4 := hoC.ns (N₄ (C, oC) List.mem_cons_self).1
    have hq3 := pow3 i (by omega)
    refine tests0 ?_
    (try k_unmd)
    (try dsimp only)
    k_fold
    k_steps
    refine eout2 hkb (Grow.rfl' _) hn4 (fun _ _ _ => ⟨_, _, ?_, ?_, rfl⟩)
    · have := Int.fmod_nonneg_of_pos (n.fdiv (3 ^ (↑i : Int).toNat)) (b := 3) (by decide); omega
    · have := Int.fmod_lt_of_pos (n.fdiv (3 ^ (↑i : Int).toNat)) (b := 3) (by decide); omega
  case fn =>
    intro h₂ F2 N2 ap g2
    refine fin_as_start (w := w) F2 N2 ap (fun i y h h' x => x) ?_
    intro D h' tk zs c F3 N3 hv htk
    refine hide fun G9 bk9 => ?_
    obtain ⟨zs⟩ := zs
    obtain ⟨hlen, hall⟩ := hv.all
    have hlen : zs.length = 3 := hlen
    obtain ⟨z0, r1, rfl, hl1⟩ := len_succ hlen
    obtain ⟨z1, r2, rfl, hl2⟩ := len_succ hl1
    obtain ⟨z2, r3, rfl, hl3⟩ := len_succ hl2
    obtain rfl := List.eq_nil_of_length_eq_zero hl3
    obtain ⟨t0, k0, a0, b0, rfl⟩ := hall 0 z0 rfl
    obtain ⟨t1, k1, a1, b1, rfl⟩ := hall 1 z1 rfl
    obtain ⟨t2, k2, a2, b2, rfl⟩ := hall 2 z2 rfl
    refine bk9 ?_
    clear bk9 G9
    clear hall hlen hv
    (try dsimp only)
    (try k_fold)
    k_steps
    all_goals (refine unhalt ?_; k_dflt (refine comp_assignX (by with_unfolding_all rfl) (by with_unfolding_all rfl) (by decide) (by rfl) (by decide) (by rfl) (by rfl) ?_))
    all_goals (k_steps; refine unhalt ?_; (rename Fr _ _ _ _ => F9); (rename News _ _ _ _ => N9); (with_unfolding_all refine' range_news F9 N9 ?_); intro rR hR tkR kR0 kR1 FR NR htR; (try dsimp only); (try k_sweep); k_steps)
    all_goals refine unhalt ?_
    · (rename Fr _ _ _ _ => F6); (rename News _ _ _ _ => N6)
      refine use45 w rfl (by show dp + 1 + 4 < recursionLimit; omega) _ _ 5 (Frag.In.keeps (by assumption) (Fr.keep F6)) (Top.keeps T' (Fr.keep F6)) ⟨_, head_at N6, rfl, _, rfl⟩ (fun i hi => ?_) (Or.inr (Or.inr ⟨rfl, _, rfl⟩)) ?_
      · rcases lt3 hi with rfl | rfl | rfl
        · exact ⟨_, _, rfl, a0, b0⟩
        · exact ⟨_, _, rfl, a1, b1⟩
        · exact ⟨_, _, rfl, a2, b2⟩
      intro h7 tk7 Lg ga gs hgb hLg hga hne hLs hgs hgr htk7 hgen hst
      have F7 := Fr.keeps F6 hgr
      have N7 := News.grown N6 hgr
      (try dsimp only)
      k_steps
      refine call_zip_rg (News.get (by assumption) (List.mem_cons_of_mem _ List.mem_cons_self)) hgen ?_
      intro h8 nz hnz hz hTI hTO hi1 hgr8
      (try dsimp only)
      refine wpAny_pyIter_zip hz ?_
      refine ⟨_, rfl, fun h' tk Q E hg hq => wpAny_pyIter_zip (hg _ _ hz) hq, ?_⟩
      intro D0 C0 hA mA tkA hD0 hC0 hCD0 hg0 hl0 hn0 ht0
      refine told_go (L := L') (s8 := { s with heap := h8, gens := s.gens.push gs, toks := tk7 }) (n := 5) rfl (by show dp + 1 < recursionLimit; omega) rfl F6 N6 (T'.nolimit.keeps F6.keep) hgr hgr8 hnz hz hTI hTO hi1 hga hgs (Nat.le_of_lt (Nat.lt_of_le_of_lt hLg hLs)) hst (by rfl) (by rfl) (by rfl) (by decide) ?_ D0 C0 hA mA tkA hD0 hC0 hCD0 hg0 hl0 hn0 ht0
      clear hst hz hTI hTO hi1 hgr8 hgr F7 N7 F6 N6 hgen hnz hD0 hC0 hCD0 hg0 hl0 hn0 ht0
      intro h9 gs9 tk9 D9 c9 hLD9 F9 N9 ht9 hb9
      replace N9 : News s.heap L' h9 ((D9, { cls := .type "list", data := .seq #[Value.int k0 t0, Value.int k1 t1, Value.int k2 t2, Value.int k2 t2, Value.int k2 t2] c9 }) :: _) := N9
      (try dsimp only)
      (try k_fold)
      k_steps
      (rename Fr _ _ _ _ => Fz); (rename News _ _ _ _ => Nz)
      refine ⟨_, _, _, rfl, Fr.keep Fz, by assumption, fun hb => hb9 (allB_push hb hgb), ⟨_, _, _, #[Value.int k0 t0, Value.int k1 t1, Value.int k2 t2, Value.int k2 t2, Value.int k2 t2], rfl, ⟨_, head_at Nz, rfl, _, rfl⟩, NewList.of Nz (by repeat (first | exact List.mem_cons_self | apply List.mem_cons_of_mem)) (by omega), NewList.of Nz (by repeat (first | exact List.mem_cons_self | apply List.mem_cons_of_mem)) (by omega), ?_⟩⟩
      exact szOk_5 a0 b0 a1 b1 a2 b2

    · (rename Fr _ _ _ _ => F6); (rename News _ _ _ _ => N6)
      refine use45 w rfl (by show dp + 1 + 4 < recursionLimit; omega) _ _ 3 (Frag.In.keeps (by assumption) (Fr.keep F6)) (Top.keeps T' (Fr.keep F6)) ⟨_, head_at N6, rfl, _, rfl⟩ (fun i hi => ?_) (Or.inr (Or.inl ⟨rfl, _, rfl⟩)) ?_
      · rcases lt3 hi with rfl | rfl | rfl
        · exact ⟨_, _, rfl, a0, b0⟩
        · exact ⟨_, _, rfl, a1, b1⟩
        · exact ⟨_, _, rfl, a2, b2⟩
      intro h7 tk7 Lg ga gs hgb hLg hga hne hLs hgs hgr htk7 hgen hst
      have F7 := Fr.keeps F6 hgr
      have N7 := News.grown N6 hgr
      (try dsimp only)
      k_steps
      refine call_zip_rg (News.get (by assumption) (List.mem_cons_of_mem _ List.mem_cons_self)) hgen ?_
      intro h8 nz hnz hz hTI hTO hi1 hgr8
      (try dsimp only)
      refine wpAny_pyIter_zip hz ?_
      refine ⟨_, rfl, fun h' tk Q E hg hq => wpAny_pyIter_zip (hg _ _ hz) hq, ?_⟩
      intro D0 C0 hA mA tkA hD0 hC0 hCD0 hg0 hl0 hn0 ht0
      refine told_go (L := L') (s8 := { s with heap := h8, gens := s.gens.push gs, toks := tk7 }) (n := 3) rfl (by show dp + 1 < recursionLimit; omega) rfl F6 N6 (T'.nolimit.keeps F6.keep) hgr hgr8 hnz hz hTI hTO hi1 hga hgs (Nat.le_of_lt (Nat.lt_of_le_of_lt hLg hLs)) hst (by rfl) (by rfl) (by rfl) (by decide) ?_ D0 C0 hA mA tkA hD0 hC0 hCD0 hg0 hl0 hn0 ht0
      clear hst hz hTI hTO hi1 hgr8 hgr F7 N7 F6 N6 hgen hnz hD0 hC0 hCD0 hg0 hl0 hn0 ht0
      intro h9 gs9 tk9 D9 c9 hLD9 F9 N9 ht9 hb9
      replace N9 : News s.heap L' h9 ((D9, { cls := .type "list", data := .seq #[Value.int k0 t0, Value.int k1 t1, Value.int k2 t2] c9 }) :: _) := N9
      (try dsimp only)
      (try k_fold)
      k_steps
      (rename Fr _ _ _ _ => Fz); (rename News _ _ _ _ => Nz)
      refine ⟨_, _, _, rfl, Fr.keep Fz, by assumption, fun hb => hb9 (allB_push hb hgb), ⟨_, _, _, #[Value.int k0 t0, Value.int k1 t1, Value.int k2 t2], rfl, ⟨_, head_at Nz, rfl, _, rfl⟩, NewList.of Nz (by repeat (first | exact List.mem_cons_self | apply List.mem_cons_of_mem)) (by omega), NewList.of Nz (by repeat (first | exact List.mem_cons_self | apply List.mem_cons_of_mem)) (by omega), ?_⟩⟩
      exact szOk_3 a0 b0 a1 b1 a2 b2

    · (rename Fr _ _ _ _ => F6); (rename News _ _ _ _ => N6)
      refine use45 w rfl (by show dp + 1 + 4 < recursionLimit; omega) _ _ 3 (Frag.In.keeps (by assumption) (Fr.keep F6)) (Top.keeps T' (Fr.keep F6)) ⟨_, head_at N6, rfl, _, rfl⟩ (fun i hi => ?_) (Or.inl ⟨rfl, rfl⟩) ?_
      · rcases lt3 hi with rfl | rfl | rfl
        · exact ⟨_, _, rfl, a0, b0⟩
        · exact ⟨_, _, rfl, a1, b1⟩
        · exact ⟨_, _, rfl, a2, b2⟩
      intro h7 tk7 Lg ga gs hgb hLg hga hne hLs hgs hgr htk7 hgen hst
      have F7 := Fr.keeps F6 hgr
      have N7 := News.grown N6 hgr
      (try dsimp only)
      k_steps
      refine call_zip_rg (News.get (by assumption) (List.mem_cons_of_mem _ List.mem_cons_self)) hgen ?_
      intro h8 nz hnz hz hTI hTO hi1 hgr8
      (try dsimp only)
      refine wpAny_pyIter_zip hz ?_
      refine ⟨_, rfl, fun h' tk Q E hg hq => wpAny_pyIter_zip (hg _ _ hz) hq, ?_⟩
      intro D0 C0 hA mA tkA hD0 hC0 hCD0 hg0 hl0 hn0 ht0
      refine told_go (L := L') (s8 := { s with heap := h8, gens := s.gens.push gs, toks := tk7 }) (n := 3) rfl (by show dp + 1 < recursionLimit; omega) rfl F6 N6 (T'.nolimit.keeps F6.keep) hgr hgr8 hnz hz hTI hTO hi1 hga hgs (Nat.le_of_lt (Nat.lt_of_le_of_lt hLg hLs)) hst (by rfl) (by rfl) (by rfl) (by decide) ?_ D0 C0 hA mA tkA hD0 hC0 hCD0 hg0 hl0 hn0 ht0
      clear hst hz hTI hTO hi1 hgr8 hgr F7 N7 F6 N6 hgen hnz hD0 hC0 hCD0 hg0 hl0 hn0 ht0
      intro h9 gs9 tk9 D9 c9 hLD9 F9 N9 ht9 hb9
      replace N9 : News s.heap L' h9 ((D9, { cls := .type "list", data := .seq #[Value.int k0 t0, Value.int k1 t1, Value.int k2 t2] c9 }) :: _) := N9
      (try dsimp only)
      (try k_fold)
      k_steps
      (rename Fr _ _ _ _ => Fz); (rename News _ _ _ _ => Nz)
      refine ⟨_, _, _, rfl, Fr.keep Fz, by assumption, fun hb => hb9 (allB_push hb hgb), ⟨_, _, _, #[Value.int k0 t0, Value.int k1 t1, Value.int k2 t2], rfl, ⟨_, head_at Nz, rfl, _, rfl⟩, NewList.of Nz (by repeat (first | exact List.mem_cons_self | apply List.mem_cons_of_mem)) (by omega), NewList.of Nz (by repeat (first | exact List.mem_cons_self | apply List.mem_cons_of_mem)) (by omega), ?_⟩⟩
      exact szOk_3 a0 b0 a1 b1 a2 b2
end
section
section
variable {prog : Program} {w : World} {A : Around} {E E' : Value → Shared → Prop} {env : Env} {h₀ : Heap} {L : Addr} {m : Str → Option Value} {news : List (Addr × Obj)} {s : Shared} {scope : Scope} {cl : List (Str × Addr)} {elt target : Expr} {ifs : List Expr}
  {Fin : List Addr → Nat → (Nat → Bool) → (Nat → Value → Heap → Prop) → Shared → Prop}
theorem src_of {I : Addr} {fp wr : List Addr} {n : Nat} {V : Nat → Value → Heap → Prop} {St : Nat → Heap → Prop} {h₂ : Heap} {tk : Nat} (S : Src prog w A I fp wr n target V St) (F : Fr h₀ L s.heap m) (N : News h₀ L s.heap news) (hg : Grow s.heap h₂) (htk : s.toks ≤ tk)
    (hwr : ∀ b ∈ wr, s.heap.objs.size ≤ b) (hfp : ∀ b ∈ fp, b < h₂.objs.size) (hst : St 0 h₂) (hlive : ∀ i h, St i h → ∀ b ∈ wr, ∃ o, h.get? b = some o) (hsz : n ≤ sizeLine)
    (p : Nat → Bool) (F' : Nat → Value → Heap → Prop)
    (turn : ∀ h₂ wr tk, Fr h₀ L h₂ m → News h₀ L h₂ news → Apart h₀ L news wr → Grow s.heap h₂ → s.toks ≤ tk → Turns prog w A elt target ifs scope cl env wr n V p F' { s with heap := h₂, toks := tk })
    (fin : ∀ h₂ wr tk, Fr h₀ L h₂ m → News h₀ L h₂ news → Apart h₀ L news wr → Grow s.heap h₂ → s.toks ≤ tk → Fin wr n p F' { s with heap := h₂, toks := tk }) :
    SrcIt prog w A elt target ifs scope cl env Fin (.ref I) { s with heap := h₂, toks := tk } := by
  have ap : Apart h₀ L news wr := Apart.of_fresh F N hwr
  exact ⟨I, fp, wr, n, V, St, p, F', rfl, S, hsz, hlive, hst, hfp, turn _ _ _ (F.keeps hg) (N.grown hg) ap hg htk, fin _ _ _ (F.keeps hg) (N.grown hg) ap hg htk⟩
theorem src_enum {l : Addr} {its : Array Value} {elts : List Expr} {kk : Nat} {tp : Pos} (hh : A.handled = none) (F : Fr h₀ L s.heap m) (N : News h₀ L s.heap news) (hL : s.heap.IsList l its) (hsz : its.size ≤ sizeLine)
    (p : Nat → Bool) (F' : Nat → Value → Heap → Prop)
    (turn : ∀ h₂ wr tk, Fr h₀ L h₂ m → News h₀ L h₂ news → Apart h₀ L news wr → Grow s.heap h₂ → s.toks ≤ tk → Turns prog w A elt (.Tuple elts kk tp) ifs scope cl env wr its.size (fun i v h => ∃ T vals, v = .ref T ∧ (∃ t x, its[i]? = some x ∧ vals = #[.int i t, x]) ∧ h.IsTuple T vals) p F' { s with heap := h₂, toks := tk })
    (fin : ∀ h₂ wr tk, Fr h₀ L h₂ m → News h₀ L h₂ news → Apart h₀ L news wr → Grow s.heap h₂ → s.toks ≤ tk → Fin wr its.size p F' { s with heap := h₂, toks := tk }) :
    wpAny (model prog w) A (call (.type "enumerate") [.ref l]) (fun xv s₁ => wpAny (model prog w) A (pyIter xv) (SrcIt prog w A elt (.Tuple elts kk tp) ifs scope cl env Fin) E s₁) E' s := by
  have hlt : l < s.heap.objs.size := by obtain ⟨_, e, _⟩ := hL; exact Heap.lt_size e
  refine call_enumerate_list hL fun h' he hi hs2 hk => ?_
  have W := (WalksT.enumerate (prog := prog) (w := w) hh (s.heap.objs.size + 1) s.heap.objs.size l (Nat.succ_ne_self _) (Nat.ne_of_lt (Nat.lt_succ_of_lt hlt)) (Nat.ne_of_lt hlt) its).toU
  have hst : (∃ old, IsEnum h' (s.heap.objs.size + 1) s.heap.objs.size ((0 : Nat) : Int) old) ∧ h'.IsListIter s.heap.objs.size l 0 ∧ h'.IsList l its := ⟨⟨_, he⟩, hi, hL.at fun o e => hk _ o e⟩
  refine W.self 0 _ _ _ hst ?_
  refine src_of (Src.ofWalksU W elts kk tp) F N hk (Nat.le_refl _) (fun b hb => ?_) (fun b hb => ?_) hst (fun i h st b hb => ?_) hsz p F' turn fin
  · rcases List.mem_cons.mp hb with rfl | hb
    · exact Nat.le_succ _
    · rw [List.mem_singleton.mp hb]; exact Nat.le_refl _
  · rw [hs2]
    rcases List.mem_cons.mp hb with rfl | hb
    · exact Nat.lt_succ_self _
    · rcases List.mem_cons.mp hb with rfl | hb
      · exact Nat.lt_succ_of_lt (Nat.lt_succ_self _)
      · rw [List.mem_singleton.mp hb]; exact Nat.lt_succ_of_lt (Nat.lt_succ_of_lt hlt)
  · refine hide fun G9 bk9 => ?_
    obtain ⟨⟨_, h1⟩, ⟨o, h2, _⟩, _⟩ := st
    refine bk9 ?_
    clear bk9 G9
    rcases List.mem_cons.mp hb with rfl | hb
    · exact ⟨_, h1⟩
    · rw [List.mem_singleton.mp hb]; exact ⟨o, h2⟩
theorem src_zip2 {l1 l2 : Addr} {xs ys : Array Value} {elts : List Expr} {kk : Nat} {tp : Pos} (hh : A.handled = none) (F : Fr h₀ L s.heap m) (N : News h₀ L s.heap news) (hL1 : s.heap.IsList l1 xs) (hL2 : s.heap.IsList l2 ys) (hsz : min xs.size ys.size ≤ sizeLine)
    (p : Nat → Bool) (F' : Nat → Value → Heap → Prop)
    (turn : ∀ h₂ wr tk, Fr h₀ L h₂ m → News h₀ L h₂ news → Apart h₀ L news wr → Grow s.heap h₂ → s.toks ≤ tk → Turns prog w A elt (.Tuple elts kk tp) ifs scope cl env wr (min xs.size ys.size) (fun i v h => ∃ T vals, v = .ref T ∧ (∃ x y, xs[i]? = some x ∧ ys[i]? = some y ∧ vals = #[x, y]) ∧ h.IsTuple T vals) p F' { s with heap := h₂, toks := tk })
    (fin : ∀ h₂ wr tk, Fr h₀ L h₂ m → News h₀ L h₂ news → Apart h₀ L news wr → Grow s.heap h₂ → s.toks ≤ tk → Fin wr (min xs.size ys.size) p F' { s with heap := h₂, toks := tk }) :
    wpAny (model prog w) A (call (.type "zip") [.ref l1, .ref l2]) (fun xv s₁ => wpAny (model prog w) A (pyIter xv) (SrcIt prog w A elt (.Tuple elts kk tp) ifs scope cl env Fin) E s₁) E' s := by
  have a1 : l1 < s.heap.objs.size := by obtain ⟨_, e, _⟩ := hL1; exact Heap.lt_size e
  have a2 : l2 < s.heap.objs.size := by obtain ⟨_, e, _⟩ := hL2; exact Heap.lt_size e
  refine call_zip_2 hL1 hL2 fun h' hz hTI hTO hi1 hi2 hs5 hk => ?_
  have D := zipApart_new (n := s.heap.objs.size) a1 a2
  have W := (WalksT.zip2 (prog := prog) (w := w) hh _ _ _ _ _ l1 l2 D xs ys).toU
  have hst : IsZip h' (s.heap.objs.size + 4) (s.heap.objs.size + 2) (s.heap.objs.size + 3) .none ∧ IsPair h' (s.heap.objs.size + 2) (.ref s.heap.objs.size) (.ref (s.heap.objs.size + 1)) ∧ (∃ a b, IsPair h' (s.heap.objs.size + 3) a b) ∧ h'.IsListIter s.heap.objs.size l1 0 ∧ h'.IsListIter (s.heap.objs.size + 1) l2 0 ∧ h'.IsList l1 xs ∧ h'.IsList l2 ys :=
    ⟨hz, hTI, ⟨_, _, hTO⟩, hi1, hi2, hL1.at fun o e => hk _ o e, hL2.at fun o e => hk _ o e⟩
  refine W.self 0 _ _ _ hst ?_
  refine src_of (Src.ofWalksU W elts kk tp) F N hk (Nat.le_refl _) (fun b hb => ?_) (fun b hb => ?_) hst (fun i h st b hb => ?_) hsz p F' turn fin
  · simp only [List.mem_cons, List.not_mem_nil, or_false] at hb
    rcases hb with rfl | rfl | rfl | rfl
    · exact Nat.le_add_right _ _
    · exact Nat.le_add_right _ _
    · exact Nat.le_refl _
    · exact Nat.le_add_right _ _
  · have hb5 : ∀ k, k < 5 → s.heap.objs.size + k < h'.objs.size := fun k hk => by rw [hs5]; exact Nat.add_lt_add_left hk _
    simp only [List.mem_cons, List.not_mem_nil, or_false] at hb
    rcases hb with rfl | rfl | rfl | rfl | rfl | rfl | rfl
    · exact hb5 4 (by omega)
    · exact hb5 2 (by omega)
    · exact hb5 3 (by omega)
    · exact hb5 0 (by omega)
    · exact hb5 1 (by omega)
    · exact Nat.lt_trans a1 (hb5 0 (by omega))
    · exact Nat.lt_trans a2 (hb5 0 (by omega))
  · refine hide fun G9 bk9 => ?_
    obtain ⟨h1, _, ⟨_, _, h2⟩, ⟨_, h3, _⟩, ⟨_, h4, _⟩, _⟩ := st
    refine bk9 ?_
    clear bk9 G9
    simp only [List.mem_cons, List.not_mem_nil, or_false] at hb
    rcases hb with rfl | rfl | rfl | rfl
    · exact ⟨_, h1⟩
    · exact ⟨_, h2⟩
    · exact ⟨_, h3⟩
    · exact ⟨_, h4⟩
theorem src_pairs {ax : Addr} {its : Array Value} {elts : List Expr} {kk : Nat} {tp : Pos} (hh : A.handled = none) (F : Fr h₀ L s.heap m) (N : News h₀ L s.heap news) (hl : s.heap.IsList ax its) (href : ∀ (i : Nat) (v : Value), its[i]? = some v → ∃ T, v = Value.ref T) (hsz : its.size ≤ sizeLine)
    (p : Nat → Bool) (F' : Nat → Value → Heap → Prop)
    (turn : ∀ h₂ wr tk, Fr h₀ L h₂ m → News h₀ L h₂ news → Apart h₀ L news wr → Grow s.heap h₂ → s.toks ≤ tk → Turns prog w A elt (.Tuple elts kk tp) ifs scope cl env wr its.size (fun i v _ => its[i]? = some v) p F' { s with heap := h₂, toks := tk })
    (fin : ∀ h₂ wr tk, Fr h₀ L h₂ m → News h₀ L h₂ news → Apart h₀ L news wr → Grow s.heap h₂ → s.toks ≤ tk → Fin wr its.size p F' { s with heap := h₂, toks := tk }) :
    wpAny (model prog w) A (pyIter (.ref ax)) (SrcIt prog w A elt (.Tuple elts kk tp) ifs scope cl env Fin) E s := by
  have hlt : ax < s.heap.objs.size := by obtain ⟨_, e, _⟩ := hl; exact Heap.lt_size e
  refine wpAny_pyIter_list hl ?_
  have up : Grow s.heap (s.heap.push { cls := .type "list_iterator", data := .fields #[.ref ax, .int 0 0] }) := fun b o e => Heap.get?_push_of_some _ e
  have W := Walks.list (prog := prog) (w := w) hh s.heap.objs.size ax (Nat.ne_of_lt hlt) its
  refine src_of (fp := [s.heap.objs.size, ax]) (wr := [s.heap.objs.size]) (St := fun i h => h.IsListIter s.heap.objs.size ax i ∧ h.IsList ax its) (tk := s.toks) ⟨W.sub, W.frame, fun i s' K E hi st hK => ?_, fun s' Q E st hQ => W.done s' Q E st fun h' tk hk => hQ h' tk fun b o hb e => hk b o hb e, W.self⟩
    F N up (Nat.le_refl _) (fun b hb => ?_) (fun b hb => ?_) ⟨⟨_, Heap.get?_push_size _ rfl, rfl, rfl⟩, hl.push _⟩ (fun i h st b hb => ?_) hsz p F' turn fin
  · refine wpAny_pyNext_list_item st.1 st.2 (x := its[i]) (by simp [hi]) fun h' hit' hs' => ?_
    obtain ⟨T, hT⟩ := href i its[i] (by simp [hi])
    have hgo := hK its[i] h' s'.toks (by simp [hi]) ⟨hit', st.2.extBut hs'.extBut (Nat.ne_of_lt hlt)⟩ (fun b o hb e => hs'.extBut b o (fun h => hb (by simp [h])) e)
    rw [hT] at hgo
    show wpAny _ _ (letOwnedTupleGo _ _ its[i]) (fun _ s₂ => K its[i] s₂) _ _
    rw [hT]
    exact wpAny_letOwnedTupleGo_listiter hit' hgo
  · rw [List.mem_singleton.mp hb]; exact Nat.le_refl _
  · show b < (s.heap.push _).objs.size
    rw [Heap.size_push]
    rcases List.mem_cons.mp hb with rfl | hb
    · exact Nat.lt_succ_self _
    · rw [List.mem_singleton.mp hb]; exact Nat.lt_succ_of_lt hlt
  · rw [List.mem_singleton.mp hb]
    obtain ⟨o, e, _⟩ := st.1; exact ⟨o, e⟩
end
end
section
local macro_rules | `(tactic| walk_at "eval Name") => `(tactic| (k_here; (with_reducible show wpAny _ _ (eval (PySem.Expr.Name _ _) (envOfC _ _ _ _ _)) _ _ _); k_dflt (refine' ldC ?k1 ?k2 ?_; (case k1 => with_reducible assumption); (case k2 => first | with_reducible assumption | ((try dsimp only); (repeat (refine (if_neg (by decide +kernel)).trans ?_)); with_reducible assumption)))))
local macro_rules | `(tactic| walk_at "eval ListComp") => `(tactic| (k_here; k_dflt (refine comp_eval (by with_unfolding_all rfl) (by decide) (by rfl) (by decide) ?_)))
local macro_rules | `(tactic| walk_at "pyIter ref") => `(tactic| (k_here; refine halt ?_))
local macro_rules | `(tactic| walk_at "call type:enumerate") => `(tactic| (k_here; refine halt ?_))
local macro_rules | `(tactic| walk_at "exec For Tuple List cons nil") => `(tactic| (k_here; refine halt ?_))
local macro_rules | `(tactic| walk_at "subscriptTail Name Name ref int") => `(tactic| (k_here; (with_reducible show wpAny _ _ (subscriptTail _ _ (Value.ref _) (Value.int _ _)) _ _ _); (with_unfolding_all refine' my_item ?k1 ?k2 ?k3 ?k4 ?_ ?k6; (case k1 => is_list); (case k2 => first | with_reducible assumption | decide | exact Int.natCast_nonneg _ | omega); (case k3 => first | with_reducible assumption | decide | exact lt63 (by with_reducible assumption) | omega); (case k4 => first | assumption | rfl); (case k6 => with_unfolding_all rfl); k_whole)))
local macro_rules | `(tactic| walk_at "subscriptTail Name Constant ref int") => `(tactic| (k_here; (with_reducible show wpAny _ _ (subscriptTail _ _ (Value.ref _) (Value.int _ _)) _ _ _); (with_unfolding_all refine' my_item ?k1 ?k2 ?k3 ?k4 ?_ ?k6; (case k1 => is_list); (case k2 => first | with_reducible assumption | decide | exact Int.natCast_nonneg _ | omega); (case k3 => first | with_reducible assumption | decide | exact lt63 (by with_reducible assumption) | omega); (case k4 => first | assumption | rfl); (case k6 => with_unfolding_all rfl); k_whole)))
theorem tuple_up {M : Model} {A : Around} {E : Value → Shared → Prop} {s : Shared} {h₀ : Heap} {L : Addr} {m : Str → Option Value} {news : List (Addr × Obj)} {vs : List Value} {Q : Value → Shared → Prop} (F : Fr h₀ L s.heap m) (N : News h₀ L s.heap news) (hsz : vs.length ≤ sizeLine)
    (h : ∀ (D : Addr) h', Fr h₀ L h' m → News h₀ L h' ((D, { cls := .type "tuple", data := .seq vs.toArray }) :: news) → Grow s.heap h' → Q (.ref D) { s with heap := h' }) : wpAny M A (newTuple vs) Q E s := by
  refine wpAny_newTuple (h _ _ (F.keeps fun b o e => Heap.get?_push_of_some _ e) (fun q hq => ?_) (fun b o e => Heap.get?_push_of_some _ e)) hsz
  rcases List.mem_cons.mp hq with rfl | hq
  · exact ⟨Heap.get?_push_size _ rfl, Ne.symm (Nat.ne_of_lt F.ns.lt), next_is_new F⟩
  · exact ⟨Heap.get?_push_of_some _ (N q hq).1, (N q hq).2⟩
local macro_rules | `(tactic| walk_at "newTuple") => `(tactic| (k_here; (rename Grow _ _ => gg9); (with_unfolding_all refine' tuple_up (by assumption) (by assumption) (Nat.le_of_ble_eq_true rfl) ?_); intro D9 h9 F9 N9 g9; (have gg8 := Grow.trans gg9 g9); (try dsimp only); (try k_sweep)))
theorem gen_t {α : Type} {M : Model} {A : Around} {t : Sem α} {Q : α → Shared → Prop} {E : Value → Shared → Prop} {h : Heap} {g : Array GenState} {d : Drawn} {n : Nat} {o : OsState} (k : ∀ tk, wpAny M A t Q E ⟨h, g, d, tk, o⟩) : wpAny M A t Q E ⟨h, g, d, n, o⟩ := k n
theorem forN_t {prog : Program} {w : World} {A : Around} {env : Env} {h₀ : Heap} {L : Addr} {target : Expr} {body : List Stmt} {Q : Flow → Shared → Prop} {xv : Value} {h : Heap} {g : Array GenState} {d : Drawn} {n : Nat} {o : OsState} (k : ∀ tk, ForAtN prog w A env h₀ L target body Q xv ⟨h, g, d, tk, o⟩) : ForAtN prog w A env h₀ L target body Q xv ⟨h, g, d, n, o⟩ := k n
local macro_rules | `(tactic| walk_at "execs cons") => `(tactic| (k_here; refine wpAny_execs_cons ?_; (try dsimp only); refine gen_t ?_; intro tk9))
noncomputable def BdM (z : Int) : Prop := -2000000 ≤ z ∧ z ≤ 2000000
theorem BdM.mul {a b : Int} (h : BdM b) : IntMulOk a b := by
  obtain ⟨h1, h2⟩ := h
  exact IntMulOk.of_right (intBits_le_64 (by omega) (by omega))
theorem BdM.one {b : Int} (h : -1000 ≤ b ∧ b ≤ 1000) : BdM b := by unfold BdM; omega
theorem BdM.two {a b c d : Int} (h : -1000 ≤ a ∧ a ≤ 1000) (h2 : -1000 ≤ b ∧ b ≤ 1000) (h3 : -1000 ≤ c ∧ c ≤ 1000) (h4 : -1000 ≤ d ∧ d ≤ 1000) : BdM (a * b - c * d) := by
  have y1 := prod_bd h h2
  have y2 := prod_bd h3 h4
  unfold BdM; omega
local macro_rules | `(tactic| walk_at "binaryOp Mult int int") => `(tactic| (k_here; with_unfolding_all refine' mul_int ?_ ?hm; (case hm => exact BdM.mul (by assumption))))
structure Four (h : Heap) (t : Addr) (M : Nat → Nat → Int) : Prop where
  ex : ∃ rows : Array Value, h.IsList t rows ∧ rows.size = 4 ∧ ∀ i, i < 4 → ∃ (R : Addr) (items : Array Value), rows[i]? = some (Value.ref R) ∧ h.IsList R items ∧ ∀ j, j < 4 → ∃ tk, items[j]? = some (Value.int (M i j) tk)
  bd : ∀ i j, -1000 ≤ M i j ∧ M i j ≤ 1000
noncomputable def prt (M : Nat → Nat → Int) (a b c d : Nat) : Int := (M a 0 * M b 1 - M a 1 * M b 0) * (M c 2 * M d 3 - M c 3 * M d 2)
noncomputable def accF (M : Nat → Nat → Int) : Nat → Int
  | 0 => 0
  | 1 => 0 + prt M 0 1 2 3
  | 2 => 0 + prt M 0 1 2 3 - prt M 0 2 1 3
  | 3 => 0 + prt M 0 1 2 3 - prt M 0 2 1 3 + prt M 0 3 1 2
  | 4 => 0 + prt M 0 1 2 3 - prt M 0 2 1 3 + prt M 0 3 1 2 + prt M 1 2 0 3
  | 5 => 0 + prt M 0 1 2 3 - prt M 0 2 1 3 + prt M 0 3 1 2 + prt M 1 2 0 3 - prt M 1 3 0 2
  | _ => 0 + prt M 0 1 2 3 - prt M 0 2 1 3 + prt M 0 3 1 2 + prt M 1 2 0 3 - prt M 1 3 0 2 + prt M 2 3 0 1
noncomputable def tup2 (a b : Int) (t u : Tok) : Obj := { cls := .type "tuple", data := .seq #[.int a t, .int b u] }
theorem Vals.sel {p : Nat → Bool} {F : Nat → Value → Heap → Prop} {h : Heap} {f : Nat → Value} (hF : ∀ i y, F i y h → y = f i) : ∀ {n : Nat} {ys : List Value}, Vals p F h n ys → ys = ((List.range n).filter p).map f
  | _, _, .nil => rfl
  | _, _, .yes x hp hf => by rw [List.range_succ, List.filter_append, List.map_append, ← Vals.sel hF x, hF _ _ hf, List.filter_cons_of_pos hp]; rfl
  | _, _, .no x hp => by rw [List.range_succ, List.filter_append, List.map_append, ← Vals.sel hF x, List.filter_cons_of_neg (by simp [hp])]; exact (List.append_nil _).symm
noncomputable def P6 (M : Nat → Nat → Int) (i lo hi ca da : Nat) : Prop := lo < 4 ∧ hi < 4 ∧ ca < 4 ∧ da < 4 ∧ (List.range 4).filter (fun (j : Nat) => !(([(lo : Int), (hi : Int)] : List Int).any fun x => x == (j : Int))) = [ca, da] ∧
  accF M (i + 1) = if ((lo : Int) + (hi : Int)).fmod 2 = 1 then accF M i + prt M lo hi ca da else accF M i - prt M lo hi ca da
noncomputable def At6 (M : Nat → Nat → Int) (T : List (Addr × Obj)) (its : Array Value) : Prop := ∀ (i : Nat) (v : Value), its[i]? = some v → ∃ (d : Addr) (lo hi ca da : Nat) (a b : Tok), v = .ref d ∧ (d, tup2 lo hi a b) ∈ T ∧ P6 M i lo hi ca da
theorem at6 {M : Nat → Nat → Int} {d0 d1 d2 d3 d4 d5 : Addr} {a0 b0 a1 b1 a2 b2 a3 b3 a4 b4 a5 b5 : Tok} {T : List (Addr × Obj)} (h0 : (d0, tup2 2 3 a0 b0) ∈ T) (h1 : (d1, tup2 1 3 a1 b1) ∈ T) (h2 : (d2, tup2 1 2 a2 b2) ∈ T) (h3 : (d3, tup2 0 3 a3 b3) ∈ T) (h4 : (d4, tup2 0 2 a4 b4) ∈ T) (h5 : (d5, tup2 0 1 a5 b5) ∈ T) : At6 M T #[.ref d5, .ref d4, .ref d3, .ref d2, .ref d1, .ref d0] := by
  intro i v e
  rcases i with _ | _ | _ | _ | _ | _ | i
  · exact ⟨d5, 0, 1, 2, 3, a5, b5, (Option.some.inj e).symm, h5, by decide, by decide, by decide, by decide, rfl, rfl⟩
  · exact ⟨d4, 0, 2, 1, 3, a4, b4, (Option.some.inj e).symm, h4, by decide, by decide, by decide, by decide, rfl, rfl⟩
  · exact ⟨d3, 0, 3, 1, 2, a3, b3, (Option.some.inj e).symm, h3, by decide, by decide, by decide, by decide, rfl, rfl⟩
  · exact ⟨d2, 1, 2, 0, 3, a2, b2, (Option.some.inj e).symm, h2, by decide, by decide, by decide, by decide, rfl, rfl⟩
  · exact ⟨d1, 1, 3, 0, 2, a1, b1, (Option.some.inj e).symm, h1, by decide, by decide, by decide, by decide, rfl, rfl⟩
  · exact ⟨d0, 2, 3, 0, 1, a0, b0, (Option.some.inj e).symm, h0, by decide, by decide, by decide, by decide, rfl, rfl⟩
  · cases e
theorem mem_rot {α : Type} {q a b : α} {T : List α} (h : q ∈ a :: b :: T) : q ∈ T ++ [a, b] := by
  rcases List.mem_cons.mp h with rfl | h
  · exact List.mem_append_right _ List.mem_cons_self
  rcases List.mem_cons.mp h with rfl | h
  · exact List.mem_append_right _ (List.mem_cons_of_mem _ List.mem_cons_self)
  · exact List.mem_append_left _ h
noncomputable def JF (L' : Nat) (l : Addr) (M : Nat → Nat → Int) (T : List (Addr × Obj)) (i : Nat) (m : Str → Option Value) (news : List (Addr × Obj)) : Prop :=
  m (Str.ofString "rows") = some (.ref l) ∧ (∃ t, m (Str.ofString "total") = some (.int (accF M i) t)) ∧ ∃ (oH oL : Obj) (vH vL : Option Value), news = (L' + 1 + 1, oH) :: (L' + 1, oL) :: T ∧ oH.data = .cell vH ∧ oL.data = .cell vL
local macro_rules | `(tactic| k_all) => `(tactic| assumption)
theorem t_four (w : World) (l : Addr) (M : Nat → Nat → Int) : Tells w 8 137 [.ref l] (fun s => Four s.heap l M)
    (fun _ s' v => ∃ tk, v = .int (accF M 6) tk) := by
  intro dp un gd outer s fit hpre hd hu
  (have hX := fit.X; revert hX; k_fill; intro hX)
  refine hide fun G9 bk9 => ?_
  obtain ⟨⟨rows, hrl, hrs, hri⟩, hbd⟩ := hpre
  refine bk9 ?_
  clear bk9 G9
  k_dflt (refine enter_cells (binds := [(Str.ofString "rows", .ref l)]) (by assumption) (by k_is) (by k_is) (by omega) (BindsTo.of_eq rfl) rfl (by decide +kernel) ?_ rfl rfl rfl; intro p loose mean mg mb base L' h₁ tk cells eL' B F' N' Y' X' T'; k_cells Y'; (try simp only [List.cons_append, List.nil_append] at N'); (try dsimp only); (try k_fold))
  k_steps
  refine unhalt ?_
  refine for_list_N (h₀ := s.heap) (L := L') ?hh ?h ?hs
  case hs => exact fun _ => rfl
  case hh => rfl
  k_steps
  (try dsimp only)
  rename_i oH oL cH cL _ _ _ d5 _ _ d4 _ _ d3 _ _ d2 _ _ d1 _ _ d0 _ _ ll h0 F0 N0 _
  refine hide fun G9 bk9 => ?_
  obtain ⟨T, its, hsz, N1, hll, hat, ha1, ha2⟩ : ∃ (T : List (Addr × Obj)) (its : Array Value), its.size = 6 ∧ News s.heap L' h0 ((L' + 1 + 1, oH) :: (L' + 1, oL) :: T) ∧ (ll, listOf its 0) ∈ T ∧ At6 M T its ∧ (∀ q ∈ T, q.1 ≠ L' + 1) ∧ (∀ q ∈ T, q.1 ≠ L' + 1 + 1) :=
    ⟨[(ll, listOf #[.ref d5, .ref d4, .ref d3, .ref d2, .ref d1, .ref d0] 0), (d0, tup2 2 3 _ _), (d1, tup2 1 3 _ _), (d2, tup2 1 2 _ _), (d3, tup2 0 3 _ _), (d4, tup2 0 2 _ _), (d5, tup2 0 1 _ _)], _, rfl, fun q hq => N0 q (mem_rot hq), List.mem_cons_self,
      at6 (.tail _ (.head _)) (.tail _ (.tail _ (.head _))) (.tail _ (.tail _ (.tail _ (.head _)))) (.tail _ (.tail _ (.tail _ (.tail _ (.head _))))) (.tail _ (.tail _ (.tail _ (.tail _ (.tail _ (.head _)))))) (.tail _ (.tail _ (.tail _ (.tail _ (.tail _ (.tail _ (.head _))))))), by k_all, by k_all⟩
  refine bk9 ?_
  clear bk9 G9
  clear N0
  refine forN_t fun tk8 => ?_
  refine ⟨ll, its, JF L' l M T, _, _, rfl, ?hlet, F0, N1, ?src, ⟨rfl, ⟨_, rfl⟩, _, _, _, _, rfl, cH, cL⟩, ?turn, ?done⟩
  case hlet =>
    intro I ax i v s' Q' E' hv hit hq
    refine hide fun G9 bk9 => ?_
    obtain ⟨j, hj⟩ := Array.mem_iff_getElem?.mp hv
    obtain ⟨d, _, _, _, _, _, _, rfl, _⟩ := hat j v hj
    refine bk9 ?_
    clear bk9 G9
    exact wpAny_letOwnedTupleGo_listiter hit hq
  case src =>
    rintro i m news ⟨_, _, oH, oL, vH, vL, rfl, _, _⟩
    exact .inr ⟨_, .tail _ (.tail _ hll), rfl, _, rfl⟩
  case done =>
    rintro m news h tk ⟨ja, ⟨t, jb⟩, _⟩ F N htk
    rw [hsz] at jb
    k_steps
    all_goals exact out_of (by assumption) (by assumption) ⟨_, rfl⟩
  case turn =>
    rintro i v I oI m news h tk E' hv ⟨ja, ⟨tt, jb⟩, oH, oL, vH, vL, rfl, hdH, hdL⟩ F N hnI htk
    clear F0 N1
    have hIa : @Ne Nat (L' + 1) I := hnI (L' + 1, oL) (.tail _ (.head _))
    have hIb : @Ne Nat (L' + 1 + 1) I := hnI (L' + 1 + 1, oH) (.head _)
    have hK : ∀ a ∈ T.map (·.1), a ≠ I := fun a ha => by
      refine hide fun G9 bk9 => ?_
      obtain ⟨q, hq, rfl⟩ := List.mem_map.mp ha
      refine bk9 ?_
      clear bk9 G9
      exact hnI q (.tail _ (.tail _ hq))
    refine hide fun G9 bk9 => ?_
    obtain ⟨d, lo, hi, ca, da, ta, tb, rfl, hdT, b1, b2, b3, b4, hflt, hacc⟩ := hat i v hv
    refine bk9 ?_
    clear bk9 G9
    clear hat hv
    refine hide fun G9 bk9 => ?_
    obtain ⟨R0, its0, hr0, hl0, hi0⟩ := hri lo b1
    obtain ⟨R1, its1, hr1, hl1, hi1⟩ := hri hi b2
    obtain ⟨R2, its2, hr2, hl2, hi2⟩ := hri ca b3
    obtain ⟨R3, its3, hr3, hl3, hi3⟩ := hri da b4
    refine bk9 ?_
    clear bk9 G9
    clear hri
    refine hide fun G9 bk9 => ?_
    obtain ⟨k00, q00⟩ := hi0 0 (by decide)
    obtain ⟨k01, q01⟩ := hi0 1 (by decide)
    obtain ⟨k10, q10⟩ := hi1 0 (by decide)
    obtain ⟨k11, q11⟩ := hi1 1 (by decide)
    obtain ⟨k22, q22⟩ := hi2 2 (by decide)
    obtain ⟨k23, q23⟩ := hi2 3 (by decide)
    obtain ⟨k32, q32⟩ := hi3 2 (by decide)
    obtain ⟨k33, q33⟩ := hi3 3 (by decide)
    refine bk9 ?_
    clear bk9 G9
    clear hi0 hi1 hi2 hi3
    have hr0' : rows[(((lo : Nat) : Int)).toNat]? = some (Value.ref R0) := hr0
    have hr1' : rows[(((hi : Nat) : Int)).toNat]? = some (Value.ref R1) := hr1
    have p0 : (0 : Int) ≤ (lo : Int) := Int.natCast_nonneg _
    have p1 : (0 : Int) ≤ (hi : Int) := Int.natCast_nonneg _
    have p2 : (lo : Int) < 2 ^ 63 := by omega
    have p3 : (hi : Int) < 2 ^ 63 := by omega
    have hT : IsTup h d #[.int lo ta, .int hi tb] := ⟨_, News.get N (.tail _ (.tail _ (.tail _ hdT))), rfl, _, rfl⟩
    have y1 := BdM.one (hbd hi 1)
    have y2 := BdM.one (hbd hi 0)
    have y3 := BdM.one (hbd da 3)
    have y4 := BdM.one (hbd da 2)
    have y5 := BdM.two (hbd ca 2) (hbd da 3) (hbd ca 3) (hbd da 2)
    (try k_unmd)
    (try k_fold)
    refine unpackN_ F N hT rfl rfl rfl ?_
    intro h2 F2 N2
    k_steps
    refine unhalt ?_
    refine src_enum (its := rows) (h₀ := s.heap) (L := L') ?hh5 (by assumption) (by assumption) ?hL5 ?hsz5 (fun i => !(([(lo : Int), (hi : Int)] : List Int).any fun x => x == (i : Int))) (fun i y _ => rows[i]? = some y) ?tn5 ?fn5
    case hh5 => rfl
    case hL5 => is_list
    case hsz5 => show rows.size ≤ 16777216; omega
    case tn5 =>
      intro h₂ wr tk2 F2 N2 ap g2 htk2 C i v h₃ tk₃ mC E' hC hi hV hn hk htk3
      refine hide fun G9 bk9 => ?_
      obtain ⟨T2, vals, rfl, ⟨t, x, hx, rfl⟩, hTT⟩ := hV
      refine bk9 ?_
      clear bk9 G9
      refine turn_pair rfl hTT F2 N2 ap hC hn hk htk3 rfl rfl (by decide) rfl ?_
      intro h₄ oC mC' tk₄ F₄ N₄ hoC hxa hxb hkb gg htk₄
      have hn4 := hoC.ns (N₄ (C, oC) List.mem_cons_self).1
      clear y1 y2 y3 y4 y5 hl0 hr0 hr0' hl1 hr1 hr1' hl2 hr2 hl3 hr3 q00 q01 q10 q11 q22 q23 q32 q33
      refine tests1 ?_
      (try k_unmd)
      (try dsimp only)
      k_fold
      k_steps
      all_goals first
        | exact eout2 hkb (by assumption) hn4 fun _ _ _ => hx
        | exact nout2 hkb (by assumption) hn4
        | exact congrArg (fun b => !b) (by assumption)
    case fn5 =>
      intro h₂ wr tk2 F2 N2 ap g2 htk2 D h' tk ys hD hl hv hk htk
      refine hide fun G9 bk9 => ?_
      obtain ⟨n, F3, N3⟩ := fin_start F2 N2 ap hk hD hl
      obtain ⟨ys⟩ := ys
      refine bk9 ?_
      clear bk9 G9
      obtain rfl : ys = [.ref R2, .ref R3] := by
        have e := Vals.sel (f := fun i => (rows[i]?).getD .none) (fun i y e => by rw [e]; rfl) hv
        rw [hrs, hflt] at e
        refine Eq.trans e ?_
        show [(rows[ca]?).getD .none, (rows[da]?).getD .none] = _
        rw [hr2, hr3]; rfl
      clear hv hk hl hflt
      (try k_sweep)
      (try dsimp only)
      k_fold
      k_steps
      all_goals
        (rename News _ _ _ _ => Nz)
        refine ⟨_, _, _, _, rfl, rfl, by assumption, fun q hq => Nz q (List.mem_cons_of_mem _ (List.mem_cons_of_mem _ (List.mem_cons_of_mem _ hq))), News.get Nz (.tail _ (.tail _ (.head _))), fun q hq => ?_, ⟨?_, ?_, _, _, _, _, rfl, by assumption, by assumption⟩⟩
        · rcases List.mem_cons.mp hq with rfl | hq
          · exact hIb
          rcases List.mem_cons.mp hq with rfl | hq
          · exact hIa
          · exact hK q.1 (List.mem_map_of_mem hq)
        · (try dsimp only)
          repeat (refine (if_neg (by decide +kernel)).trans ?_)
          exact ja
        · (try dsimp only)
          first
            | rw [if_pos (by assumption)] at hacc
            | rw [if_neg (by assumption)] at hacc
          rw [hacc]
          exact ⟨_, (if_pos rfl).trans rfl⟩
end
section
/-- what a turn hands back -/
noncomputable def EOutT (C : Addr) (wr : List Addr) (h₂ : Heap) (s₃ : Shared) (F : Value → Heap → Nat → Prop) (y : Value) (s₆ : Shared) : Prop :=
  ∃ h' tk m', s₆ = { s₃ with heap := h', toks := tk } ∧ h'.Ns C m' ∧ KB [C] s₃.heap h' ∧
    s₃.toks ≤ tk ∧ ∀ h'' T, tk ≤ T → KB wr h₂ h'' → (∀ b o, s₃.heap.get? b = none → h'.get? b = some o → h''.get? b = some o) → F y h'' T
noncomputable def NOutT (C : Addr) (s₃ s₅ : Shared) : Prop := ∃ h' tk m', s₅ = { s₃ with heap := h', toks := tk } ∧ h'.Ns C m' ∧ KB [C] s₃.heap h' ∧ s₃.toks ≤ tk
noncomputable def TurnsT (prog : Program) (w : World) (A : Around) (elt target : Expr) (ifs : List Expr) (scope : Scope) (cl : List (Str × Addr)) (env : Env) (wr : List Addr) (n : Nat) (V : Nat → Value → Heap → Prop) (p : Nat → Bool) (F : Nat → Value → Heap → Nat → Prop) (s₂ : Shared) : Prop :=
  ∀ C i v (h₃ : Heap) (tk₃ : Nat) (m : Str → Option Value) (E' : Value → Shared → Prop), s₂.heap.objs.size ≤ C → i < n → V i v h₃ → h₃.Ns C m → KB wr s₂.heap h₃ → s₂.toks ≤ tk₃ →
      wpAny (model prog w) A (assign target (compEnvC scope cl C env) v) (fun _ s₄ => wpAny (model prog w) A (testsOf ifs (compEnvC scope cl C env)) (fun ok s₅ =>
        if ok = true then wpAny (model prog w) A (eval elt (compEnvC scope cl C env)) (fun y s₆ => p i = true ∧ EOutT C wr s₂.heap { s₂ with heap := h₃, toks := tk₃ } (F i) y s₆) E' s₅ else p i = false ∧ NOutT C { s₂ with heap := h₃, toks := tk₃ } s₅) E' s₄) E' { s₂ with heap := h₃, toks := tk₃ }

section
variable {prog : Program} {w : World} {A : Around} {E : Value → Shared → Prop} {env : Env}
theorem comp_blockT {elt target iter : Expr} {ifs : List Expr} {scope : Scope} {cl : List (Str × Addr)} {pos : Pos} {s₂ : Shared} {I : Addr} {fp wr : List Addr} {n : Nat} {V : Nat → Value → Heap → Prop} {St : Nat → Heap → Prop}
    (S : Src prog w A I fp wr n target V St) (hsz : n ≤ sizeLine) (p : Nat → Bool) (F : Nat → Value → Heap → Nat → Prop) {RR : Value → Addr → Result → Shared → Prop}
    (hlive : ∀ i h, St i h → ∀ b ∈ wr, ∃ o, h.get? b = some o)
    (hcell : ∀ y ∈ scope.names, y.2 ≠ .cell) (hkind : scope.kind = .function) (hst : St 0 s₂.heap) (hfp : ∀ b ∈ fp, b < s₂.heap.objs.size)
    (turn : TurnsT prog w A elt target ifs scope cl env wr n V p F s₂)
    (hRR : ∀ (D C : Addr) h' tk m' ys, s₂.heap.objs.size ≤ D → s₂.heap.get? C = none → D ≠ C → h'.Ns C m' → h'.PlainList D ys → (∀ h'', KB wr s₂.heap h'' → KB (D :: C :: wr) h' h'' → Vals p (fun i y h => F i y h tk) h'' n ys.toList) → KB wr s₂.heap h' → s₂.toks ≤ tk → RR (.ref D) C (.ok .next) { s₂ with heap := h', toks := tk }) :
    wpAny (model prog w) A (newList []) (fun acc s₃ => wpAny (model prog w) A (newFunctionEnv scope env.globals cl [] env.qual none .none (some env)) (fun cenv s₄ =>
      codeAny (model prog w) A (.compStart (.ListComp elt [⟨target, iter, ifs, 0⟩] scope pos) 0 (.ref I) acc { cenv with scope := relabel scope env }) (RR acc cenv.locals) s₄) E s₃) E s₂ := by
  refine wpAny_newObj_type (wpAny_newFunctionEnv hcell (by intro y hy; simp at hy) (fun h₁ hns₁ hsb₁ => ?_) hkind)
  dsimp only at hns₁ hsb₁ ⊢
  generalize hH2 : s₂.heap.push { cls := .type "list", dict := none, data := .seq ([] : List Value).toArray } = H2 at hns₁ hsb₁ ⊢
  have hC : H2.objs.size = s₂.heap.objs.size + 1 := by rw [← hH2, Heap.size_push]
  have hDC : s₂.heap.objs.size ≠ H2.objs.size := by rw [hC]; exact Nat.ne_of_lt (Nat.lt_succ_self _)
  have hCle : s₂.heap.objs.size ≤ H2.objs.size := by rw [hC]; exact Nat.le_succ _
  have below : ∀ b, b < s₂.heap.objs.size → b ≠ H2.objs.size ∧ b ≠ s₂.heap.objs.size := fun b hb => ⟨by rw [hC]; exact Nat.ne_of_lt (Nat.lt_succ_of_lt hb), Nat.ne_of_lt hb⟩
  have hDf : s₂.heap.objs.size ∉ fp := fun hm => Nat.lt_irrefl _ (hfp _ hm)
  have hCf : H2.objs.size ∉ fp := fun hm => by have := hfp _ hm; rw [hC] at this; exact Nat.lt_irrefl _ (Nat.lt_of_succ_lt this)
  have old : ∀ b o, s₂.heap.get? b = some o → h₁.get? b = some o := fun b o e => hsb₁.extBut b o (below b (Heap.lt_size e)).1 (Heap.get?_push_of_some _ (hH2 ▸ Heap.get?_push_of_some _ e))
  have hacc : h₁.PlainList s₂.heap.objs.size #[] := ⟨_, hsb₁.extBut _ _ hDC (Heap.get?_push_of_some _ (hH2 ▸ Heap.get?_push_size _ rfl))⟩
  have hst₁ : St 0 h₁ := S.frame _ _ _ hst fun b _ o e => old b o e
  have fresh : ∀ a, s₂.heap.objs.size ≤ a → s₂.heap.get? a = none := fun a ha => by
    cases e : s₂.heap.get? a with
    | none => rfl
    | some o' => exact absurd (Heap.lt_size e) (Nat.not_lt.mpr ha)
  have toWr : ∀ h', KB (s₂.heap.objs.size :: H2.objs.size :: ([] ++ wr)) s₂.heap h' → KB wr s₂.heap h' := fun h' k b o hb e => k b o (fun q => by
    rcases List.mem_cons.mp q with rfl | q
    · exact (below _ (Heap.lt_size e)).2 rfl
    · rcases List.mem_cons.mp q with rfl | q
      · exact (below _ (Heap.lt_size e)).1 rfl
      · exact hb (by simpa using q)) e
  have loop : ∀ s₃ : Shared, s₃ = { s₂ with heap := h₁, toks := s₂.toks + ([] : List (Str × Value)).length } →
      codeAny (model prog w) A (.compLoop (.ListComp elt [⟨target, iter, ifs, 0⟩] scope pos) 0 (.ref I) (.ref s₂.heap.objs.size) (compEnvC scope cl H2.objs.size env))
        (RR (.ref s₂.heap.objs.size) H2.objs.size) s₃ := by
    rintro s₃ rfl
    refine comp_loopT (h₂ := s₂.heap) (oc := []) (cenv := compEnvC scope cl H2.objs.size env) (fun _ => True) S hsz p F (fun _ _ _ _ => trivial) hDC hDf hCf (by simp) (by simp) hlive (by simp) (KB.grow old) hst₁ hacc hns₁ trivial ?_ ?_
    · intro i v s₃ m E' hi hV hn _ hk htk hs
      refine hide fun G9 bk9 => ?_
      obtain ⟨h₃, tk₃, rfl⟩ := hs
      refine bk9 ?_
      clear bk9 G9
      refine wpAny_mono (turn H2.objs.size i v h₃ tk₃ m E' hCle hi hV hn (toWr _ hk) htk) (fun _ s₄ h₄ => wpAny_mono h₄ (fun ok s₅ h₅ => ?_) fun _ _ e => e) fun _ _ e => e
      cases ok with
      | false =>
        simp only [Bool.false_eq_true, if_false] at h₅ ⊢
        refine hide fun G9 bk9 => ?_
        obtain ⟨hp, h', tk, m', e, hn', hk', ht'⟩ := h₅
        refine bk9 ?_
        clear bk9 G9
        exact ⟨hp, h', tk, m', e, hn', trivial, hk', ht'⟩
      | true =>
        simp only [if_true] at h₅ ⊢
        refine wpAny_mono h₅ (fun y s₆ h₆ => ?_) fun _ _ e => e
        refine hide fun G9 bk9 => ?_
        obtain ⟨hp, h', tk, m', e, hn', hk', ht', hF⟩ := h₆
        refine bk9 ?_
        clear bk9 G9
        exact ⟨hp, h', tk, m', e, hn', trivial, hk', ht', fun h'' T t a b => hF h'' T t (toWr _ a) b⟩
    · intro h' tk m' ys hn _ hl hv hk htk
      exact hRR _ _ h' tk m' ys (Nat.le_refl _) (fresh _ (by rw [hC]; exact Nat.le_succ _)) hDC hn hl (fun h'' a b => hv h'' (KB.mono a fun b hb => List.mem_cons_of_mem _ (List.mem_cons_of_mem _ (by simpa using hb))) (KB.mono b fun b hb => by show b ∈ s₂.heap.objs.size :: H2.objs.size :: ([] ++ wr); simpa using hb)) (toWr _ hk) htk
  exact codeAny_compStart_list (loop _ rfl) (S.self 0 _ _ _ hst₁ (loop _ rfl))

/-- what the iterable hands to the block -/
noncomputable def SrcItT (prog : Program) (w : World) (A : Around) (elt target : Expr) (ifs : List Expr) (scope : Scope) (cl : List (Str × Addr)) (env : Env) (Fin : List Addr → Nat → (Nat → Bool) → (Nat → Value → Heap → Nat → Prop) → Shared → Prop) (it : Value) (s₂ : Shared) : Prop :=
  ∃ I fp wr n V St p F, it = .ref I ∧ Src prog w A I fp wr n target V St ∧ n ≤ sizeLine ∧ (∀ i h, St i h → ∀ b ∈ wr, ∃ o, h.get? b = some o) ∧ St 0 s₂.heap ∧ (∀ b ∈ fp, b < s₂.heap.objs.size) ∧
    TurnsT prog w A elt target ifs scope cl env wr n V p F s₂ ∧ Fin wr n p F s₂
noncomputable def FinEvT (Q : Value → Shared → Prop) (wr : List Addr) (n : Nat) (p : Nat → Bool) (F : Nat → Value → Heap → Nat → Prop) (s₂ : Shared) : Prop :=
  ∀ (D : Addr) h' tk ys, s₂.heap.objs.size ≤ D → h'.PlainList D ys → Vals p (fun i y h => F i y h tk) h' n ys.toList → KB wr s₂.heap h' → s₂.toks ≤ tk → Q (.ref D) { s₂ with heap := h', toks := tk }
theorem comp_evalT {s : Shared} {elt target iter : Expr} {ifs : List Expr} {scope : Scope} {cl : List (Str × Addr)} {pos : Pos} {Q : Value → Shared → Prop}
    (hclos : closureFor scope env = pure cl) (hcell : ∀ y ∈ scope.names, y.2 ≠ .cell) (hkind : scope.kind = .function) (hnames : ∀ y ∈ scope.names, y.2 = .local → scope.names.lookup y.1 = some .local)
    (h : wpAny (model prog w) A (eval iter env) (fun xv s₁ => wpAny (model prog w) A (pyIter xv) (SrcItT prog w A elt target ifs scope cl env (FinEvT Q)) E s₁) E s)
    (hs : ∀ x, foldedSetIterable iter env x = pure x := by intro _; rfl) :
    wpAny (model prog w) A (eval (.ListComp elt [⟨target, iter, ifs, 0⟩] scope pos) env) Q E s := by
  rw [eval_ListComp]
  refine wpAny_comprehension_free (use := none) rfl hs hclos hkind hnames (wpAny_mono h (fun xv s₁ h₁ => wpAny_mono h₁ (fun it s₂ h₂ => ?_) fun _ _ e => e) fun _ _ e => e)
  refine hide fun G9 bk9 => ?_
  obtain ⟨I, fp, wr, n, V, St, p, F, rfl, S, hsz, hlive, hst, hfp, turn, fin⟩ := h₂
  refine bk9 ?_
  clear bk9 G9
  refine comp_blockT (RR := fun acc C => compPost (model prog w) A E none Q acc C) S hsz p F hlive hcell hkind hst hfp turn ?_
  intro D C h' tk m' ys hD hC hDC hn hl hv hk htk
  refine ⟨m', hn, fun h'' hs'' => ?_⟩
  have k2 : KB wr s₂.heap h'' := fun b o hb e => hs''.extBut b o (fun q => by rw [q, hC] at e; cases e) (hk b o hb e)
  exact fin D h'' tk ys hD (hl.extBut hs''.extBut hDC) (hv h'' k2 fun b o hb e => hs''.extBut b o (fun q => hb (by rw [q]; exact List.mem_cons_of_mem _ List.mem_cons_self)) e) k2 htk
variable {h₀ : Heap} {L : Addr} {m : Str → Option Value} {news : List (Addr × Obj)} {s : Shared} {scope : Scope} {cl : List (Str × Addr)} {elt target : Expr} {ifs : List Expr}
  {Fin : List Addr → Nat → (Nat → Bool) → (Nat → Value → Heap → Nat → Prop) → Shared → Prop}
theorem src_listT {ax : Addr} {its : Array Value} {x : Str} {px : Pos} (hh : A.handled = none) (F : Fr h₀ L s.heap m) (N : News h₀ L s.heap news) (hl : s.heap.IsList ax its) (hsz : its.size ≤ sizeLine)
    (p : Nat → Bool) (F' : Nat → Value → Heap → Nat → Prop)
    (turn : ∀ h₂, Fr h₀ L h₂ m → News h₀ L h₂ news → Apart h₀ L news [s.heap.objs.size] → Grow s.heap h₂ → TurnsT prog w A elt (.Name x px) ifs scope cl env [s.heap.objs.size] its.size (fun i v _ => its[i]? = some v) p F' { s with heap := h₂ })
    (fin : ∀ h₂, Fr h₀ L h₂ m → News h₀ L h₂ news → Apart h₀ L news [s.heap.objs.size] → Grow s.heap h₂ → Fin [s.heap.objs.size] its.size p F' { s with heap := h₂ }) :
    wpAny (model prog w) A (pyIter (.ref ax)) (SrcItT prog w A elt (.Name x px) ifs scope cl env Fin) E s := by
  have hlt : ax < s.heap.objs.size := by obtain ⟨_, e, _⟩ := hl; exact Heap.lt_size e
  refine wpAny_pyIter_list hl ?_
  have up : Grow s.heap (s.heap.push { cls := .type "list_iterator", data := .fields #[.ref ax, .int 0 0] }) := fun b o e => Heap.get?_push_of_some _ e
  have ap : Apart h₀ L news [s.heap.objs.size] := Apart.of_fresh F N (by simp)
  refine ⟨_, [s.heap.objs.size, ax], _, its.size, fun i v _ => its[i]? = some v, fun i h => h.IsListIter s.heap.objs.size ax i ∧ h.IsList ax its, p, F', rfl, Src.ofWalks (Walks.list hh s.heap.objs.size ax (Nat.ne_of_lt hlt) its) x px, hsz, fun i h st b hb => ?_, ⟨⟨_, Heap.get?_push_size _ rfl, rfl, rfl⟩, hl.push _⟩, fun b hb => ?_, turn _ (F.keeps up) (N.grown up) ap up, fin _ (F.keeps up) (N.grown up) ap up⟩
  · rw [List.mem_singleton.mp hb]; obtain ⟨o, e, _⟩ := st.1; exact ⟨o, e⟩
  · show b < (s.heap.push _).objs.size
    rw [Heap.size_push]
    rcases List.mem_cons.mp hb with rfl | hb
    · exact Nat.lt_succ_self _
    · rw [List.mem_singleton.mp hb]; exact Nat.lt_succ_of_lt hlt
theorem eoutT {C : Addr} {wr : List Addr} {s₃ : Shared} {hb h₁ h' : Heap} {mC' : Str → Option Value} {tk : Nat} {F : Value → Heap → Nat → Prop} {y : Value} (hs : KB [C] s₃.heap h₁) (g : Grow h₁ h') (hn : h₁.Ns C mC') (ht : s₃.toks ≤ tk)
    (hF : ∀ h'' T, tk ≤ T → KB wr hb h'' → (∀ b o, s₃.heap.get? b = none → h'.get? b = some o → h''.get? b = some o) → F y h'' T) : EOutT C wr hb s₃ F y { s₃ with heap := h', toks := tk } :=
  ⟨h', tk, mC', rfl, hn.keeps g, fun b o hb e => g b o (hs b o hb e), ht, hF⟩
end
end
section
section
variable {prog : Program} {w : World} {A : Around} {E : Value → Shared → Prop} {R : Result → Shared → Prop} {s : Shared}
theorem compTurn2_in (elt t1 i1 t2 i2 : Expr) (scope : Scope) (pos : Pos) (it acc : Value) (env : Env) :
    compTurn (.ListComp elt [⟨t1, i1, [], 0⟩, ⟨t2, i2, [], 0⟩] scope pos) 1 it acc env = (do
      standAt i2.pos
      match ← pyNext it with
      | none => pure (.done .next)
      | some v =>
        letOwnedTupleGo t2 it v
        assign t2 env v
        (do let _ ← call (.builtin "list.append") [acc, ← eval elt env])
        again (.compLoop (.ListComp elt [⟨t1, i1, [], 0⟩, ⟨t2, i2, [], 0⟩] scope pos) 1 it acc env)) := by rfl
theorem compTurn2_out (elt t1 i1 t2 i2 : Expr) (scope : Scope) (pos : Pos) (it acc : Value) (env : Env) :
    compTurn (.ListComp elt [⟨t1, i1, [], 0⟩, ⟨t2, i2, [], 0⟩] scope pos) 0 it acc env = (do
      standAt i1.pos
      match ← pyNext it with
      | none => pure (.done .next)
      | some v =>
        letOwnedTupleGo t1 it v
        assign t1 env v
        let x ← eval i2 env
        standAt i2.pos
        let x ← foldedSetIterable i2 env x
        let _ ← runOwn (.compStart (.ListComp elt [⟨t1, i1, [], 0⟩, ⟨t2, i2, [], 0⟩] scope pos) 1 (← holding [x] (pyIter x)) acc env) env
        again (.compLoop (.ListComp elt [⟨t1, i1, [], 0⟩, ⟨t2, i2, [], 0⟩] scope pos) 0 it acc env)) := by rfl
noncomputable abbrev comp2 (elt t1 i1 t2 i2 : Expr) (scope : Scope) (pos : Pos) : Expr := .ListComp elt [⟨t1, i1, [], 0⟩, ⟨t2, i2, [], 0⟩] scope pos
theorem comp2_in {elt t1 i1 t2 i2 : Expr} {scope : Scope} {pos : Pos} {it acc : Value} {env : Env} (I : Nat → Shared → Prop)
    (turn : ∀ n s, I n s → wpAny (model prog w) A (pyNext it) (fun r s₁ => match r with
      | none => R (.ok .next) s₁
      | some v => wpAny (model prog w) A (letOwnedTupleGo t2 it v) (fun _ s₁' => wpAny (model prog w) A (assign t2 env v) (fun _ s₂ =>
          wpAny (model prog w) A (eval elt env) (fun x s₄ =>
              wpAny (model prog w) A (call (.builtin "list.append") [acc, x]) (fun _ s₅ => ∃ m, m < n ∧ I m s₅) (fun _ _ => False) s₄) (fun _ _ => False) s₂) (fun _ _ => False) s₁') (fun _ _ => False) s₁) (fun _ _ => False) s)
    (n : Nat) (h : I n s) :
    codeAny (model prog w) A (.compLoop (comp2 elt t1 i1 t2 i2 scope pos) 1 it acc env) R s := by
  refine codeAny_loop rfl I (fun n s hI => ?_) n h
  show wpAny _ A ((compTurn (comp2 elt t1 i1 t2 i2 scope pos) 1 it acc env).onRaise (fun x => do noteFrame x env; theTreesLotGoes x)) _ _ s
  refine wpAny_noted ?_
  rw [compTurn2_in]
  refine wpAny_bind (wpAny_standAt (wpAny_bind (wpAny_mono (turn n s hI) (fun r s₁ h₁ => ?_) fun _ _ h' => h'.elim)))
  cases r with
  | none => exact wpAny_pure h₁
  | some v =>
    refine wpAny_bind (wpAny_mono h₁ (fun _ s₁' h₁' => ?_) fun _ _ h' => h'.elim)
    refine wpAny_bind (wpAny_mono h₁' (fun _ s₂ h₂ => ?_) fun _ _ h' => h'.elim)
    exact wpAny_bind (wpAny_bind (wpAny_mono h₂ (fun x s₄ h₄ => wpAny_bind (wpAny_mono h₄ (fun _ s₅ h₅ => wpAny_pure (wpAny_pure ⟨rfl, h₅⟩)) fun _ _ h' => h'.elim)) fun _ _ h' => h'.elim))
theorem comp2_start {elt t1 i1 t2 i2 : Expr} {scope : Scope} {pos : Pos} {it acc : Value} {env : Env}
    (h0 : codeAny (model prog w) A (.compLoop (comp2 elt t1 i1 t2 i2 scope pos) 1 it acc env) R s)
    (h : wpAny (model prog w) A (pyIter it) (fun it' s' => codeAny (model prog w) A (.compLoop (comp2 elt t1 i1 t2 i2 scope pos) 1 it' acc env) R s') (fun _ _ => False) s) :
    codeAny (model prog w) A (.compStart (comp2 elt t1 i1 t2 i2 scope pos) 1 it acc env) R s := by
  refine codeAny_of_tree ?_
  show wpAny _ _ ((compStart (comp2 elt t1 i1 t2 i2 scope pos) 1 it acc env).onRaise (fun x => do noteFrame x env; standAt theWindowsPlace)) _ _ s
  refine wpAny_notedAt ?_
  unfold compStart
  show wpAny _ _ (ask >>= _) _ _ s
  refine wpAny_bind (wpAny_askSetting (wpAny_ite ?_))
  split
  · first
      | exact wpAny_bind (wpAny_pure (wpAny_pure (And.intro rfl h0)))
      | exact wpAny_pure (And.intro rfl h0)
  · first
      | exact wpAny_bind (wpAny_rule (wpAny_bind (wpAny_standAt (wpAny_bind (wpAny_mono h (fun it' s' h' => wpAny_pure (And.intro rfl h')) fun _ _ x => x.elim)))))
      | (refine wpAny_bind (wpAny_rule ?_); show wpAny _ _ (standAt i2.pos >>= _) _ _ s; exact wpAny_bind (wpAny_standAt (wpAny_bind (wpAny_mono h (fun it' s' h' => wpAny_pure (And.intro rfl h')) fun _ _ x => x.elim))))
theorem comp2_out {elt t1 i1 t2 i2 : Expr} {scope : Scope} {pos : Pos} {it acc : Value} {env : Env} (I : Nat → Shared → Prop) (hs : ∀ x, foldedSetIterable i2 env x = pure x)
    (turn : ∀ n s, I n s → wpAny (model prog w) A (pyNext it) (fun r s₁ => match r with
      | none => R (.ok .next) s₁
      | some v => wpAny (model prog w) A (letOwnedTupleGo t1 it v) (fun _ s₁' => wpAny (model prog w) A (assign t1 env v) (fun _ s₂ =>
          wpAny (model prog w) A (eval i2 env) (fun x s₃ => wpAny (model prog w) A (pyIter x) (fun it2 s₄ =>
            codeAny (model prog w) A (.compStart (comp2 elt t1 i1 t2 i2 scope pos) 1 it2 acc env) (fun r s₅ => (∃ f, r = .ok f) ∧ ∃ m, m < n ∧ I m s₅) s₄) (fun _ _ => False) s₃) (fun _ _ => False) s₂) (fun _ _ => False) s₁') (fun _ _ => False) s₁) (fun _ _ => False) s)
    (n : Nat) (h : I n s) :
    codeAny (model prog w) A (.compLoop (comp2 elt t1 i1 t2 i2 scope pos) 0 it acc env) R s := by
  refine codeAny_loop rfl I (fun n s hI => ?_) n h
  show wpAny _ A ((compTurn (comp2 elt t1 i1 t2 i2 scope pos) 0 it acc env).onRaise (fun x => do noteFrame x env; theTreesLotGoes x)) _ _ s
  refine wpAny_noted ?_
  rw [compTurn2_out]
  refine wpAny_bind (wpAny_standAt (wpAny_bind (wpAny_mono (turn n s hI) (fun r s₁ h₁ => ?_) fun _ _ h' => h'.elim)))
  cases r with
  | none => exact wpAny_pure h₁
  | some v =>
    refine wpAny_bind (wpAny_mono h₁ (fun _ s₁' h₁' => ?_) fun _ _ h' => h'.elim)
    refine wpAny_bind (wpAny_mono h₁' (fun _ s₂ h₂ => ?_) fun _ _ h' => h'.elim)
    refine wpAny_bind (wpAny_mono h₂ (fun x s₃ h₃ => ?_) fun _ _ h' => h'.elim)
    refine wpAny_bind (wpAny_standAt (wpAny_bind (wpAny_of_eq (hs x) (wpAny_bind (wpAny_holding (wpAny_mono h₃ (fun it2 s₄ h₄ => ?_) fun _ _ h' => h'.elim))))))
    refine wpAny_bind (wpAny_runOwn (codeAny_mono h₄ fun r s₅ h₅ => ?_))
    obtain ⟨⟨f, rfl⟩, hm⟩ := h₅
    exact wpAny_pure ⟨rfl, hm⟩
end
end
section
section
variable {prog : Program} {w : World} {A : Around} {E : Value → Shared → Prop} {s : Shared} {env : Env}
theorem comp2_block {elt t1 i1 t2 i2 : Expr} {scope : Scope} {cl : List (Str × Addr)} {pos : Pos} {s₂ : Shared} {I : Addr} {RR : Value → Addr → Result → Shared → Prop}
    (hcell : ∀ y ∈ scope.names, y.2 ≠ .cell) (hkind : scope.kind = .function)
    (hself : ∀ (h' : Heap) (tk : Nat) (Q : Value → Shared → Prop) (E : Value → Shared → Prop), Grow s₂.heap h' → Q (.ref I) { s₂ with heap := h', toks := tk } → wpAny (model prog w) A (pyIter (.ref I)) Q E { s₂ with heap := h', toks := tk })
    (loop : ∀ (D C : Addr) (h₁ : Heap) (m : Str → Option Value) tk, s₂.heap.objs.size ≤ D → s₂.heap.objs.size ≤ C → C ≠ D → Grow s₂.heap h₁ → h₁.PlainList D #[] → h₁.Ns C m → s₂.toks ≤ tk →
      codeAny (model prog w) A (.compLoop (comp2 elt t1 i1 t2 i2 scope pos) 0 (.ref I) (.ref D) (compEnvC scope cl C env)) (RR (.ref D) C) { s₂ with heap := h₁, toks := tk }) :
    wpAny (model prog w) A (newList []) (fun acc s₃ => wpAny (model prog w) A (newFunctionEnv scope env.globals cl [] env.qual none .none (some env)) (fun cenv s₄ =>
      codeAny (model prog w) A (.compStart (comp2 elt t1 i1 t2 i2 scope pos) 0 (.ref I) acc { cenv with scope := relabel scope env }) (RR acc cenv.locals) s₄) E s₃) E s₂ := by
  refine wpAny_newObj_type (wpAny_newFunctionEnv hcell (by intro y hy; simp at hy) (fun h₁ hns₁ hsb₁ => ?_) hkind)
  dsimp only at hns₁ hsb₁ ⊢
  generalize hH2 : s₂.heap.push { cls := .type "list", dict := none, data := .seq ([] : List Value).toArray } = H2 at hns₁ hsb₁ ⊢
  have hC : H2.objs.size = s₂.heap.objs.size + 1 := by rw [← hH2, Heap.size_push]
  have hDC : s₂.heap.objs.size ≠ H2.objs.size := by rw [hC]; exact Nat.ne_of_lt (Nat.lt_succ_self _)
  have below : ∀ b, b < s₂.heap.objs.size → b ≠ H2.objs.size ∧ b ≠ s₂.heap.objs.size := fun b hb => ⟨by rw [hC]; exact Nat.ne_of_lt (Nat.lt_succ_of_lt hb), Nat.ne_of_lt hb⟩
  have old : ∀ b o, s₂.heap.get? b = some o → h₁.get? b = some o := fun b o e => hsb₁.extBut b o (below b (Heap.lt_size e)).1 (Heap.get?_push_of_some _ (hH2 ▸ Heap.get?_push_of_some _ e))
  have hacc : h₁.PlainList s₂.heap.objs.size #[] := ⟨_, hsb₁.extBut _ _ hDC (Heap.get?_push_of_some _ (hH2 ▸ Heap.get?_push_size _ rfl))⟩
  have lp := loop s₂.heap.objs.size H2.objs.size h₁ _ (s₂.toks + ([] : List (Str × Value)).length) (Nat.le_refl _) (by rw [hC]; exact Nat.le_succ _) hDC.symm old hacc hns₁ (Nat.le_add_right _ _)
  exact codeAny_compStart_list lp (hself _ _ _ _ old lp)
theorem comp2_eval {elt t1 i1 t2 i2 : Expr} {scope : Scope} {cl : List (Str × Addr)} {pos : Pos} {Q : Value → Shared → Prop}
    (hclos : closureFor scope env = pure cl) (hcell : ∀ y ∈ scope.names, y.2 ≠ .cell) (hkind : scope.kind = .function) (hnames : ∀ y ∈ scope.names, y.2 = .local → scope.names.lookup y.1 = some .local)
    (h : wpAny (model prog w) A (eval i1 env) (fun xv s₁ => wpAny (model prog w) A (pyIter xv) (fun it s₂ => ∃ I, it = .ref I ∧
      (∀ (h' : Heap) (tk : Nat) (Q : Value → Shared → Prop) (E : Value → Shared → Prop), Grow s₂.heap h' → Q (.ref I) { s₂ with heap := h', toks := tk } → wpAny (model prog w) A (pyIter (.ref I)) Q E { s₂ with heap := h', toks := tk }) ∧
      ∀ (D C : Addr) (h₁ : Heap) (m : Str → Option Value) tk, s₂.heap.objs.size ≤ D → s₂.heap.objs.size ≤ C → C ≠ D → Grow s₂.heap h₁ → h₁.PlainList D #[] → h₁.Ns C m → s₂.toks ≤ tk →
      codeAny (model prog w) A (.compLoop (comp2 elt t1 i1 t2 i2 scope pos) 0 (.ref I) (.ref D) (compEnvC scope cl C env)) (fun r s' => r = .ok .next ∧ ∃ m', s'.heap.Ns C m' ∧
        ∀ h₃, Heap.SameBut C s'.heap h₃ → Q (.ref D) { s' with heap := h₃ }) { s₂ with heap := h₁, toks := tk }) E s₁) E s)
    (hs : ∀ x, foldedSetIterable i1 env x = pure x := by intro _; rfl) :
    wpAny (model prog w) A (eval (comp2 elt t1 i1 t2 i2 scope pos) env) Q E s := by
  rw [eval_ListComp]
  refine wpAny_comprehension_free (use := none) rfl hs hclos hkind hnames (wpAny_mono h (fun xv s₁ h₁ => wpAny_mono h₁ (fun it s₂ h₂ => ?_) fun _ _ e => e) fun _ _ e => e)
  obtain ⟨I, rfl, hself, loop⟩ := h₂
  refine comp2_block (RR := fun acc C => compPost (model prog w) A E none Q acc C) hcell hkind hself fun D C h₁ m tk hD hC hCD hg hl hn htk => ?_
  refine codeAny_mono (loop D C h₁ m tk hD hC hCD hg hl hn htk) fun r s' hr => ?_
  obtain ⟨rfl, m', hnC, fin⟩ := hr
  exact ⟨m', hnC, fun h'' hs'' => fin h'' hs''⟩
end
end
section
inductive Prs (F : Nat → Nat → Value → Heap → Prop) (h : Heap) : List (Nat × Nat) → List Value → Prop
  | nil : Prs F h [] []
  | snoc {ps : List (Nat × Nat)} {ys : List Value} {i j : Nat} {y : Value} : Prs F h ps ys → F i j y h → Prs F h (ps ++ [(i, j)]) (ys ++ [y])
theorem Prs.len {F : Nat → Nat → Value → Heap → Prop} {h : Heap} {ps : List (Nat × Nat)} {ys : List Value} (x : Prs F h ps ys) : ys.length = ps.length := by
  induction x with
  | nil => rfl
  | snoc _ _ ih => simp [ih]
theorem Prs.get {F : Nat → Nat → Value → Heap → Prop} {h : Heap} {ps : List (Nat × Nat)} {ys : List Value} (x : Prs F h ps ys) : ∀ (k i j : Nat), ps[k]? = some (i, j) → ∃ y, ys[k]? = some y ∧ F i j y h := by
  induction x with
  | nil => intro k i j e; simp at e
  | @snoc ps ys i0 j0 y0 x hf ih =>
    intro k i j e
    have hl := x.len
    rcases Nat.lt_trichotomy k ps.length with hk | hk | hk
    · rw [List.getElem?_append_left hk] at e
      refine hide fun G9 bk9 => ?_
      obtain ⟨y, h1, h2⟩ := ih k i j e
      refine bk9 ?_
      clear bk9 G9
      exact ⟨y, by rw [List.getElem?_append_left (by omega)]; exact h1, h2⟩
    · subst hk
      simp at e
      obtain ⟨rfl, rfl⟩ := e
      exact ⟨y0, by rw [← hl]; simp, hf⟩
    · rw [List.getElem?_eq_none (by simp; omega)] at e; cases e
noncomputable def prs (n : Nat) : List (Nat × Nat) := (List.range n).flatMap fun i => (List.range i).map fun j => (i, j)
noncomputable def prs2 (i j : Nat) : List (Nat × Nat) := prs i ++ (List.range j).map fun j => (i, j)
theorem prs_succ (i : Nat) : prs2 i i = prs (i + 1) := by simp [prs2, prs, List.range_succ]
theorem prs2_succ (i j : Nat) : prs2 i (j + 1) = prs2 i j ++ [(i, j)] := by simp [prs2, List.range_succ]
theorem prs2_zero (i : Nat) : prs2 i 0 = prs i := by simp [prs2]
theorem prs2_len : ∀ i : Nat, i < 5 → ∀ j : Nat, j < 5 → (prs2 i j).length ≤ 100 := by decide +kernel
theorem rng5 : ∀ b : Nat, b < 6 → Builtin.Range.small 0 (b : Int) 1 = true ∧ Builtin.Range.rangeSize 0 (b : Int) 1 = (b : Int) := by decide +kernel
inductive C2Inv (C D I : Addr) (F : Nat → Nat → Value → Heap → Prop) (s : Shared) (ps : List (Nat × Nat)) (W : List Addr) (P : Heap → (Str → Option Value) → Prop) (s' : Shared) : Prop
  | mk (h' : Heap) (tk : Nat) (m' : Str → Option Value) (ys : Array Value) (es : s' = { s with heap := h', toks := tk }) (pl : h'.PlainList D ys) (ns : h'.Ns C m') (hp : P h' m') (vs : ∀ h'', KB [I] s.heap h'' → KB (D :: C :: I :: W) h' h'' → Prs F h'' ps ys.toList) (kb : KB [I] s.heap h') (ht : s.toks ≤ tk) : C2Inv C D I F s ps W P s'
noncomputable def EOut2 (I : Addr) (h₂ : Heap) (s₃ : Shared) (F : Value → Heap → Prop) (y : Value) (s₆ : Shared) : Prop :=
  ∃ h' tk, s₆ = { s₃ with heap := h', toks := tk } ∧ Grow s₃.heap h' ∧ ∀ h'', KB [I] h₂ h'' → (∀ b o, s₃.heap.get? b = none → h'.get? b = some o → h''.get? b = some o) → F y h''
section
variable {prog : Program} {w : World} {A : Around} {E : Value → Shared → Prop} {env : Env}
noncomputable def RI (I : Addr) (n i : Nat) (h : Heap) : Prop := IsRangeIter h I (0 + (i : Nat) * 1) ((n : Int) - (i : Nat)) 1
noncomputable def Turn2 (prog : Program) (w : World) (A : Around) (elt : Expr) (scope : Scope) (cl : List (Str × Addr)) (env : Env) (I : Addr) (n : Nat) (x1 x2 : Str) (F : Nat → Nat → Value → Heap → Prop) (s₂ : Shared) : Prop :=
  ∀ (C : Addr) (i j : Nat) (t u : Tok) (s₃ : Shared) (m : Str → Option Value), s₂.heap.objs.size ≤ C → j < i → i < n → s₃.heap.Ns C m → m x1 = some (.int (i : Int) t) → m x2 = some (.int (j : Int) u) → KB [I] s₂.heap s₃.heap → s₂.toks ≤ s₃.toks → (∃ h tk, s₃ = { s₂ with heap := h, toks := tk }) →
    wpAny (model prog w) A (eval elt (compEnvC scope cl C env)) (fun y s₆ => EOut2 I s₂.heap s₃ (F i j) y s₆) (fun _ _ => False) s₃
noncomputable def Turn1 (prog : Program) (w : World) (A : Around) (i2 : Expr) (scope : Scope) (cl : List (Str × Addr)) (env : Env) (I : Addr) (n : Nat) (x1 : Str) (s₂ : Shared) : Prop :=
  ∀ (C : Addr) (i : Nat) (t : Tok) (s₃ : Shared) (m : Str → Option Value), s₂.heap.objs.size ≤ C → i < n → s₃.heap.Ns C m → m x1 = some (.int (i : Int) t) → KB [I] s₂.heap s₃.heap → s₂.toks ≤ s₃.toks → (∃ h tk, s₃ = { s₂ with heap := h, toks := tk }) →
    wpAny (model prog w) A (eval i2 (compEnvC scope cl C env)) (fun x s₄ => ∃ r h' tk t u v, x = .ref r ∧ s₄ = { s₃ with heap := h', toks := tk } ∧ Grow s₃.heap h' ∧ s₃.toks ≤ tk ∧ IsRange h' r 0 (i : Int) 1 t u v) (fun _ _ => False) s₃
theorem walksRI {I : Addr} (hh : A.handled = none) (n : Nat) (x : Str) (px : Pos) : Src prog w A I [I] [I] n (.Name x px) (fun i v _ => ∃ t, v = .int (0 + (i : Int)) t) (RI I n) :=
  Src.ofWalks (LCg.range_walks hh 0 n) x px
theorem comp2_loopI {elt t1 i1 i2 : Expr} {x1 x2 : Str} {p2 : Pos} {scope : Scope} {cl : List (Str × Addr)} {pos : Pos} {I I2 C D : Addr} {n i : Nat} {F : Nat → Nat → Value → Heap → Prop} {s₂ s : Shared} {tv : Tok} {m : Str → Option Value} {ys : Array Value} {R : Result → Shared → Prop}
    (hh : A.handled = none) (hx2 : scope.names.lookup x2 = some .local) (hkind : scope.kind = .function) (h12 : x1 ≠ x2) (hn5 : n ≤ 5) (hi : i < n)
    (hC : s₂.heap.objs.size ≤ C) (hD : s₂.heap.objs.size ≤ D) (hCD : C ≠ D) (hI2C : I2 ≠ C) (hI2D : I2 ≠ D) (hI2I : I2 ≠ I) (hIC : I ≠ C) (hID : I ≠ D) (hI2n : s₂.heap.objs.size ≤ I2)
    (hs : ∃ h tk, s = { s₂ with heap := h, toks := tk }) (htk : s₂.toks ≤ s.toks) (hl : s.heap.PlainList D ys) (hn : s.heap.Ns C m) (hm : m x1 = some (.int (i : Int) tv)) (hst1 : RI I n (i + 1) s.heap) (hst2 : RI I2 i 0 s.heap)
    (hv : ∀ h'', KB [I] s₂.heap h'' → KB [D, C, I, I2] s.heap h'' → Prs F h'' (prs i) ys.toList) (hk : KB [I] s₂.heap s.heap)
    (turn : Turn2 prog w A elt scope cl env I n x1 x2 F s₂)
    (hR : ∀ s', C2Inv C D I F s₂ (prs (i + 1)) [] (fun h _ => RI I n (i + 1) h) s' → R (.ok .next) s') :
    codeAny (model prog w) A (.compLoop (comp2 elt t1 i1 (.Name x2 p2) i2 scope pos) 1 (.ref I2) (.ref D) (compEnvC scope cl C env)) R s := by
  have S := walksRI (prog := prog) (w := w) (A := A) (I := I2) hh i x2 p2
  refine comp2_in (fun k s' => ∃ j, j ≤ i ∧ k = i + 1 - j ∧ C2Inv C D I F s₂ (prs2 i j) [I2] (fun h m => RI I n (i + 1) h ∧ RI I2 i j h ∧ ∃ t, m x1 = some (.int (i : Int) t)) s') ?_ (i + 1) ?_
  case refine_2 =>
    refine hide fun G9 bk9 => ?_
    obtain ⟨h, tk, rfl⟩ := hs
    refine bk9 ?_
    clear bk9 G9
    exact ⟨0, Nat.zero_le _, rfl, h, tk, m, ys, rfl, hl, hn, ⟨hst1, hst2, tv, hm⟩, by rw [prs2_zero]; exact hv, hk, htk⟩
  clear hl hn hm hst1 hst2 hv hk hs htk
  rintro k s' ⟨j, hj, rfl, H, tk, m', ys', rfl, hl', hn', ⟨hst1', hst2', t', hm'⟩, hv', hk', htk'⟩
  by_cases hlt : j < i
  · refine wpAny_mono (wpAny_toks_of (n := s₂.toks) htk' (S.item j _ (fun v s₃ => s₂.toks ≤ s₃.toks → wpAny (model prog w) A (assign (.Name x2 p2) (compEnvC scope cl C env) v) (fun _ s₂' =>
          wpAny (model prog w) A (eval elt (compEnvC scope cl C env)) (fun x s₄ =>
              wpAny (model prog w) A (call (.builtin "list.append") [.ref D, x]) (fun _ s₅ => ∃ m, m < i + 1 - j ∧ ∃ j, j ≤ i ∧ m = i + 1 - j ∧ C2Inv C D I F s₂ (prs2 i j) [I2] (fun h m => RI I n (i + 1) h ∧ RI I2 i j h ∧ ∃ t, m x1 = some (.int (i : Int) t)) s₅) (fun _ _ => False) s₄) (fun _ _ => False) s₂') (fun _ _ => False) s₃) (fun _ _ => False) hlt hst2' ?_)) ?_ fun _ _ e => e.2
    · intro v h₃ tk₃ hV hst₃ hk₃ htk₃
      obtain ⟨u, rfl⟩ := hV
      rw [Int.zero_add]
      have nI2 : ∀ b, b ≠ I2 → ∀ o, H.get? b = some o → h₃.get? b = some o := fun b hb o e => hk₃ b o (by simpa using hb) e
      have hn₃ : h₃.Ns C m' := hn'.at' fun o e => nI2 _ (Ne.symm hI2C) o e
      have hl₃ : h₃.PlainList D ys' := hl'.at fun o e => nI2 _ (Ne.symm hI2D) o e
      have hst1₃ : RI I n (i + 1) h₃ := nI2 _ (Ne.symm hI2I) _ hst1'
      have kH3 : KB [I2] H h₃ := hk₃
      have k23 : KB [I] s₂.heap h₃ := fun b o hb e => hk₃ b o (fun q => by
        rw [List.mem_singleton.mp q] at e; exact absurd (Heap.lt_size e) (Nat.not_lt.mpr hI2n)) (hk' b o hb e)
      refine wpAny_assign_Name (wpAny_storeName_local (env := compEnvC scope cl C env) (lookup_relabel_local hx2) hn₃ (fun h₄ hn₄ hs₄ => ?_) (by simp [compEnvC, relabel, hkind]))
      have nC : ∀ b, b ≠ C → ∀ o, h₃.get? b = some o → h₄.get? b = some o := fun b hb o e => hs₄.extBut b o hb e
      have hl₄ : h₄.PlainList D ys' := hl₃.at fun o e => nC _ (Ne.symm hCD) o e
      have hst1₄ : RI I n (i + 1) h₄ := nC _ hIC _ hst1₃
      have hst2₄ : RI I2 i (j + 1) h₄ := nC _ hI2C _ hst₃
      have k24 : KB [I] s₂.heap h₄ := fun b o hb e => nC b (fun q => by rw [q] at e; exact absurd (Heap.lt_size e) (Nat.not_lt.mpr hC)) o (k23 b o hb e)
      have htk₄ : s₂.toks ≤ tk₃ + 1 := Nat.le_succ_of_le htk₃
      have T := turn C i j t' u { s₂ with heap := h₄, toks := tk₃ + 1 } _ hC hlt hi hn₄ (by simp [h12]; exact hm') (by simp) k24 htk₄ ⟨_, _, rfl⟩
      refine wpAny_mono (wpAny_toks_of (n := s₂.toks) htk₄ T) (fun y s₆ h₆ => ?_) fun _ _ e => e.2
      refine hide fun G9 bk9 => ?_
      obtain ⟨ht₆, h', tk', rfl, hk₆, hFy⟩ := h₆
      refine bk9 ?_
      clear bk9 G9
      have n6 : ∀ b, b ≠ C → ∀ o, h₄.get? b = some o → h'.get? b = some o := fun b hb o e => hk₆ b o e
      have hn₆ := hn₄.keeps hk₆
      have hl₆ : h'.PlainList D ys' := hl₄.at fun o e => n6 _ (Ne.symm hCD) o e
      have kH6 : KB [D, C, I, I2] H h' := fun b o hb e => n6 b (fun q => hb (by rw [q]; simp)) o (nC b (fun q => hb (by rw [q]; simp)) o (nI2 b (fun q => hb (by rw [q]; simp)) o e))
      have hlen := (hv' H hk' (KB.refl _ _)).len
      have hys : ys'.size ≤ sizeLine := by
        have h1 := prs2_len i (by omega) j (by omega)
        have e4 : ys'.toList.length = ys'.size := by simp
        show ys'.size ≤ 16777216
        omega
      refine wpAny_list_append_plain (hsz := hys) hl₆ fun h₅ hl₅ hs₅ => ?_
      have n5 : ∀ b, b ≠ D → ∀ o, h'.get? b = some o → h₅.get? b = some o := fun b hb o e => hs₅.extBut b o hb e
      have k2D : ∀ b o, b ∉ [I] → s₂.heap.get? b = some o → b ≠ C ∧ b ≠ D := fun b o _ e => ⟨fun q => by rw [q] at e; exact absurd (Heap.lt_size e) (Nat.not_lt.mpr hC), fun q => by rw [q] at e; exact absurd (Heap.lt_size e) (Nat.not_lt.mpr hD)⟩
      have hst2₅ : RI I2 i (j + 1) h₅ := n5 _ hI2D _ (n6 _ hI2C _ hst2₄)
      refine ⟨i + 1 - (j + 1), slt hlt, j + 1, hlt, rfl, h₅, tk', _, ys'.push y, rfl, hl₅, hn₆.sameBut hs₅ hCD, ⟨n5 _ hID _ (n6 _ hIC _ hst1₄), hst2₅, ?mm⟩, fun h'' a b => ?vv, fun b o hb e => n5 b (k2D b o hb e).2 o (n6 b (k2D b o hb e).1 o (k24 b o hb e)), ht₆⟩
      case mm => exact ⟨t', by simp [h12]; exact hm'⟩
      case vv =>
        rw [Array.toList_push, prs2_succ]
        have k5 : KB [D, C, I, I2] h' h'' := fun b' o hb e => b b' o hb (n5 b' (fun q => hb (by rw [q]; simp)) o e)
        refine Prs.snoc (hv' h'' a (kH6.trans k5)) (hFy h'' a fun c o e1 e2 => k5 c o (fun q => ?_) e2)
        have q : c = D ∨ c = C ∨ c = I ∨ c = I2 := by simpa using q
        rcases q with rfl | rfl | rfl | rfl
        · obtain ⟨_, ho⟩ := hl₄; exact absurd (e1.symm.trans ho) (by simp)
        · obtain ⟨_, _, _, ho, _⟩ := hn₄; exact absurd (e1.symm.trans ho) (by simp)
        · exact absurd (e1.symm.trans hst1₄) (by simp)
        · exact absurd (e1.symm.trans hst2₄) (by simp)
    · intro r s₁ h₁
      obtain ⟨ht₁, h₁⟩ := h₁
      cases r with
      | none => exact h₁.elim
      | some v => exact wpAny_with_toks ht₁ (wpAny_mono h₁ (fun _ _ x => x) fun _ _ x _ => x)
  · obtain rfl : i = j := Nat.le_antisymm (Nat.not_lt.mp hlt) hj
    refine wpAny_with_toks (n := s₂.toks) htk' (S.done _ _ _ hst2' fun h₁ tk₁ hk₁ htk₁ => ?_)
    have nI2 : ∀ b, b ≠ I2 → ∀ o, H.get? b = some o → h₁.get? b = some o := fun b hb o e => hk₁ b o (by simpa using hb) e
    refine hR _ ⟨h₁, tk₁, m', ys', rfl, hl'.at fun o e => nI2 _ (Ne.symm hI2D) o e, hn'.at' fun o e => nI2 _ (Ne.symm hI2C) o e, nI2 _ (Ne.symm hI2I) _ hst1', fun h'' a b => ?_, fun b o hb e => nI2 b (fun q => by rw [q] at e; exact absurd (Heap.lt_size e) (Nat.not_lt.mpr hI2n)) o (hk' b o hb e), htk₁⟩
    rw [← prs_succ]
    exact hv' h'' a fun b' o hb e => b b' o (fun q => hb (by
      have q : b' = D ∨ b' = C ∨ b' = I := by simpa using q
      rcases q with q | q | q <;> simp [q])) (nI2 b' (fun q => hb (by simp [q])) o e)
end
end
section
section
variable {prog : Program} {w : World} {A : Around} {E : Value → Shared → Prop} {env : Env}
theorem comp2_loopO {elt i1 i2 : Expr} {x1 x2 : Str} {p1 p2 : Pos} {scope : Scope} {cl : List (Str × Addr)} {pos : Pos} {I C D : Addr} {n : Nat} {F : Nat → Nat → Value → Heap → Prop} {s₂ s : Shared} {m : Str → Option Value} {R : Result → Shared → Prop}
    (hh : A.handled = none) (hx1 : scope.names.lookup x1 = some .local) (hx2 : scope.names.lookup x2 = some .local) (hkind : scope.kind = .function) (h12 : x1 ≠ x2) (hn5 : n ≤ 5)
    (hfs : ∀ x, foldedSetIterable i2 (compEnvC scope cl C env) x = pure x)
    (hC : s₂.heap.objs.size ≤ C) (hD : s₂.heap.objs.size ≤ D) (hCD : C ≠ D) (hIC : I ≠ C) (hID : I ≠ D) 
    (hs : ∃ h tk, s = { s₂ with heap := h, toks := tk }) (htk : s₂.toks ≤ s.toks) (hl : s.heap.PlainList D #[]) (hn : s.heap.Ns C m) (hst1 : RI I n 0 s.heap) (hk : KB [I] s₂.heap s.heap)
    (turn1 : Turn1 prog w A i2 scope cl env I n x1 s₂)
    (turn : Turn2 prog w A elt scope cl env I n x1 x2 F s₂)
    (hR : ∀ s', C2Inv C D I F s₂ (prs n) [] (fun _ _ => True) s' → R (.ok .next) s') :
    codeAny (model prog w) A (.compLoop (comp2 elt (.Name x1 p1) i1 (.Name x2 p2) i2 scope pos) 0 (.ref I) (.ref D) (compEnvC scope cl C env)) R s := by
  have S := walksRI (prog := prog) (w := w) (A := A) (I := I) hh n x1 p1
  refine comp2_out (fun k s' => ∃ i, i ≤ n ∧ k = n + 1 - i ∧ C2Inv C D I F s₂ (prs i) [] (fun h _ => RI I n i h) s') hfs ?_ (n + 1) ?_
  case refine_2 =>
    refine hide fun G9 bk9 => ?_
    obtain ⟨h, tk, rfl⟩ := hs
    refine bk9 ?_
    clear bk9 G9
    exact ⟨0, Nat.zero_le _, rfl, h, tk, m, #[], rfl, hl, hn, hst1, fun _ _ _ => Prs.nil, hk, htk⟩
  clear hl hn hst1 hk hs htk
  rintro k s' ⟨i, hi, rfl, H, tk, m', ys', rfl, hl', hn', hst', hv', hk', htk'⟩
  by_cases hlt : i < n
  · refine wpAny_mono (wpAny_toks_of (n := s₂.toks) htk' (S.item i _ (fun v s₃ => s₂.toks ≤ s₃.toks → wpAny (model prog w) A (assign (.Name x1 p1) (compEnvC scope cl C env) v) (fun _ s₂' =>
          wpAny (model prog w) A (eval i2 (compEnvC scope cl C env)) (fun x s₃ => wpAny (model prog w) A (pyIter x) (fun it2 s₄ =>
            codeAny (model prog w) A (.compStart (comp2 elt (.Name x1 p1) i1 (.Name x2 p2) i2 scope pos) 1 it2 (.ref D) (compEnvC scope cl C env)) (fun r s₅ => (∃ f, r = .ok f) ∧ ∃ m, m < n + 1 - i ∧ ∃ i, i ≤ n ∧ m = n + 1 - i ∧ C2Inv C D I F s₂ (prs i) [] (fun h _ => RI I n i h) s₅) s₄) (fun _ _ => False) s₃) (fun _ _ => False) s₂') (fun _ _ => False) s₃) (fun _ _ => False) hlt hst' ?_)) ?_ fun _ _ e => e.2
    · intro v h₃ tk₃ hV hst₃ hk₃ htk₃
      obtain ⟨t, rfl⟩ := hV
      rw [Int.zero_add]
      have nI : ∀ b, b ≠ I → ∀ o, H.get? b = some o → h₃.get? b = some o := fun b hb o e => hk₃ b o (by simpa using hb) e
      have hn₃ : h₃.Ns C m' := hn'.at' fun o e => nI _ (Ne.symm hIC) o e
      have hl₃ : h₃.PlainList D ys' := hl'.at fun o e => nI _ (Ne.symm hID) o e
      have k23 : KB [I] s₂.heap h₃ := fun b o hb e => hk₃ b o hb (hk' b o hb e)
      refine wpAny_assign_Name (wpAny_storeName_local (env := compEnvC scope cl C env) (lookup_relabel_local hx1) hn₃ (fun h₄ hn₄ hs₄ => ?_) (by simp [compEnvC, relabel, hkind]))
      have nC : ∀ b, b ≠ C → ∀ o, h₃.get? b = some o → h₄.get? b = some o := fun b hb o e => hs₄.extBut b o hb e
      have hl₄ : h₄.PlainList D ys' := hl₃.at fun o e => nC _ (Ne.symm hCD) o e
      have hst₄ : RI I n (i + 1) h₄ := nC _ hIC _ hst₃
      have k24 : KB [I] s₂.heap h₄ := fun b o hb e => nC b (fun q => by rw [q] at e; exact absurd (Heap.lt_size e) (Nat.not_lt.mpr hC)) o (k23 b o hb e)
      have htk₄ : s₂.toks ≤ tk₃ + 1 := Nat.le_succ_of_le htk₃
      have T := turn1 C i t { s₂ with heap := h₄, toks := tk₃ + 1 } _ hC hlt hn₄ (by simp) k24 htk₄ ⟨_, _, rfl⟩
      refine wpAny_mono T (fun y s₆ h₆ => ?_) fun _ _ e => e
      refine hide fun G9 bk9 => ?_
      obtain ⟨r, h', tk', t1, t2, t3, rfl, rfl, hk₆, ht₆, hr⟩ := h₆
      refine bk9 ?_
      clear bk9 G9
      have hr5 := rng5 i (by omega)
      refine wpAny_pyIter_range hr hr5.1 ?_
      rw [hr5.2]
      have lC : C < h'.objs.size := (hn₄.keeps hk₆).lt
      have lD : D < h'.objs.size := by obtain ⟨_, ho⟩ := hl₄; exact Heap.lt_size (hk₆ _ _ ho)
      have lI : I < h'.objs.size := Heap.lt_size (hk₆ _ _ hst₄)
      have l2 : s₂.heap.objs.size ≤ h'.objs.size := Nat.le_of_lt (Nat.lt_of_le_of_lt hC lC)
      have st2 : ∀ X, h'.push { cls := .type "range_iterator", data := .fields #[rawInt 0, rawInt (i : Int), rawInt 1] } = X → RI h'.objs.size i 0 X := fun X e => by
        subst e
        show IsRangeIter _ _ _ _ _
        simpa using Heap.get?_push_size _ rfl
      have up : ∀ X, h'.push { cls := .type "range_iterator", data := .fields #[rawInt 0, rawInt (i : Int), rawInt 1] } = X → Grow h' X := fun X e => by subst e; exact fun b o e => Heap.get?_push_of_some _ e
      generalize h'.push { cls := .type "range_iterator", data := .fields #[rawInt 0, rawInt (i : Int), rawInt 1] } = X at st2 up ⊢
      have st2 := st2 X rfl
      have up := hk₆.trans (up X rfl)
      have kHX : KB [D, C, I] H X := fun b o hb e => up b o (nC b (fun q => hb (by rw [q]; simp)) o (nI b (fun q => hb (by rw [q]; simp)) o e))
      have loop : codeAny (model prog w) A (.compLoop (comp2 elt (.Name x1 p1) i1 (.Name x2 p2) i2 scope pos) 1 (.ref h'.objs.size) (.ref D) (compEnvC scope cl C env)) (fun r s₅ => (∃ f, r = .ok f) ∧ ∃ m, m < n + 1 - i ∧ ∃ i, i ≤ n ∧ m = n + 1 - i ∧ C2Inv C D I F s₂ (prs i) [] (fun h _ => RI I n i h) s₅) { s₂ with heap := X, toks := tk' } := by
        refine comp2_loopI (s₂ := s₂) (i := i) (n := n) hh hx2 hkind h12 hn5 hlt hC hD hCD (Ne.symm (Nat.ne_of_lt lC)) (Ne.symm (Nat.ne_of_lt lD)) (Ne.symm (Nat.ne_of_lt lI)) hIC hID l2 ⟨_, _, rfl⟩ (Nat.le_trans htk₄ ht₆) (hl₄.at fun o e => up _ o e) (hn₄.keeps up) (tv := t) (by simp) (up _ _ hst₄) st2 ?_ (fun b o hb e => up b o (k24 b o hb e)) turn ?_
        · intro h'' a b
          refine hv' h'' a fun b' o hb e => ?_
          by_cases q : b' = h'.objs.size
          · exfalso
            have hbs : b' ∉ [D, C, I] := hb
            have e2 := hk₆ b' o (nC b' (fun q => hb (by rw [q]; simp)) o (nI b' (fun q => hb (by rw [q]; simp)) o e))
            exact Nat.lt_irrefl _ (q ▸ Heap.lt_size e2)
          · exact b b' o (fun hm => by
              have hm : b' = D ∨ b' = C ∨ b' = I ∨ b' = h'.objs.size := by simpa using hm
              rcases hm with hm | hm | hm | hm
              · exact hb (by rw [hm]; simp)
              · exact hb (by rw [hm]; simp)
              · exact hb (by rw [hm]; simp)
              · exact q hm) (kHX b' o hb e)
        · intro s' hc
          exact ⟨⟨_, rfl⟩, n + 1 - (i + 1), slt hlt, i + 1, hlt, rfl, hc⟩
      exact comp2_start loop ((walksRI (prog := prog) (w := w) (A := A) (I := h'.objs.size) hh i x2 p2).self 0 _ _ _ st2 loop)
    · intro r s₁ h₁
      obtain ⟨ht₁, h₁⟩ := h₁
      cases r with
      | none => exact h₁.elim
      | some v => exact wpAny_with_toks ht₁ (wpAny_mono h₁ (fun _ _ x => x) fun _ _ x _ => x)
  · obtain rfl : n = i := Nat.le_antisymm (Nat.not_lt.mp hlt) hi
    refine wpAny_with_toks (n := s₂.toks) htk' (S.done _ _ _ hst' fun h₁ tk₁ hk₁ htk₁ => ?_)
    have nI : ∀ b, b ≠ I → ∀ o, H.get? b = some o → h₁.get? b = some o := fun b hb o e => hk₁ b o (by simpa using hb) e
    refine hR _ ⟨h₁, tk₁, m', ys', rfl, hl'.at fun o e => nI _ (Ne.symm hID) o e, hn'.at' fun o e => nI _ (Ne.symm hIC) o e, trivial, fun h'' a b => ?_, fun b o hb e => hk₁ b o hb (hk' b o hb e), htk₁⟩
    exact hv' h'' a fun b' o hb e => b b' o hb (nI b' (fun q => hb (by simp [q])) o e)
/-- what the iterable hands to the block -/
noncomputable def Src2 (prog : Program) (w : World) (A : Around) (elt i1 i2 : Expr) (x1 x2 : Str) (p1 p2 : Pos) (scope : Scope) (cl : List (Str × Addr)) (pos : Pos) (env : Env) (Q : Value → Shared → Prop) (it : Value) (s₂ : Shared) : Prop :=
  ∃ I, it = .ref I ∧
      (∀ (h' : Heap) (tk : Nat) (Q : Value → Shared → Prop) (E : Value → Shared → Prop), Grow s₂.heap h' → Q (.ref I) { s₂ with heap := h', toks := tk } → wpAny (model prog w) A (pyIter (.ref I)) Q E { s₂ with heap := h', toks := tk }) ∧
      ∀ (D C : Addr) (h₁ : Heap) (m : Str → Option Value) tk, s₂.heap.objs.size ≤ D → s₂.heap.objs.size ≤ C → C ≠ D → Grow s₂.heap h₁ → h₁.PlainList D #[] → h₁.Ns C m → s₂.toks ≤ tk →
      codeAny (model prog w) A (.compLoop (comp2 elt (.Name x1 p1) i1 (.Name x2 p2) i2 scope pos) 0 (.ref I) (.ref D) (compEnvC scope cl C env)) (fun r s' => r = .ok .next ∧ ∃ m', s'.heap.Ns C m' ∧
        ∀ h₃, Heap.SameBut C s'.heap h₃ → Q (.ref D) { s' with heap := h₃ }) { s₂ with heap := h₁, toks := tk }
variable {h₀ : Heap} {L : Addr} {m : Str → Option Value} {news : List (Addr × Obj)} {s : Shared} {scope : Scope} {cl : List (Str × Addr)} {elt i1 i2 : Expr} {x1 x2 : Str} {p1 p2 : Pos} {pos : Pos} {Q : Value → Shared → Prop}
theorem src2_range {r : Addr} {t u v : Tok} {n : Nat} (hh : A.handled = none) (F : Fr h₀ L s.heap m) (N : News h₀ L s.heap news) (hr : IsRange s.heap r 0 (n : Int) 1 t u v) (hn5 : n ≤ 5)
    (hx1 : scope.names.lookup x1 = some .local) (hx2 : scope.names.lookup x2 = some .local) (hkind : scope.kind = .function) (h12 : x1 ≠ x2)
    (hfs : ∀ C x, foldedSetIterable i2 (compEnvC scope cl C env) x = pure x) (F' : Nat → Nat → Value → Heap → Prop)
    (turn1 : ∀ h₂, Fr h₀ L h₂ m → News h₀ L h₂ news → Apart h₀ L news [s.heap.objs.size] → Grow s.heap h₂ → Turn1 prog w A i2 scope cl env s.heap.objs.size n x1 { s with heap := h₂ })
    (turn2 : ∀ h₂, Fr h₀ L h₂ m → News h₀ L h₂ news → Apart h₀ L news [s.heap.objs.size] → Grow s.heap h₂ → Turn2 prog w A elt scope cl env s.heap.objs.size n x1 x2 F' { s with heap := h₂ })
    (fin : ∀ h₂, Fr h₀ L h₂ m → News h₀ L h₂ news → Apart h₀ L news [s.heap.objs.size] → Grow s.heap h₂ → ∀ (D : Addr) h' tk ys, h₂.objs.size ≤ D → h'.PlainList D ys → Prs F' h' (prs n) ys.toList → KB [s.heap.objs.size] h₂ h' → s.toks ≤ tk → Q (.ref D) { s with heap := h', toks := tk }) :
    wpAny (model prog w) A (pyIter (.ref r)) (Src2 prog w A elt i1 i2 x1 x2 p1 p2 scope cl pos env Q) E s := by
  have hr5 := rng5 n (by omega)
  refine wpAny_pyIter_range hr hr5.1 ?_
  rw [hr5.2]
  have up : Grow s.heap (s.heap.push { cls := .type "range_iterator", data := .fields #[rawInt 0, rawInt (n : Int), rawInt 1] }) := fun b o e => Heap.get?_push_of_some _ e
  have ap : Apart h₀ L news [s.heap.objs.size] := Apart.of_fresh F N (by simp)
  have st : RI s.heap.objs.size n 0 (s.heap.push { cls := .type "range_iterator", data := .fields #[rawInt 0, rawInt (n : Int), rawInt 1] }) := by
    show IsRangeIter _ _ _ _ _
    simpa using Heap.get?_push_size _ rfl
  have T1 := turn1 _ (F.keeps up) (N.grown up) ap up
  have T2 := turn2 _ (F.keeps up) (N.grown up) ap up
  have T3 := fin _ (F.keeps up) (N.grown up) ap up
  have hlt : s.heap.objs.size < (s.heap.push { cls := .type "range_iterator", data := .fields #[rawInt 0, rawInt (n : Int), rawInt 1] }).objs.size := Heap.lt_size st
  generalize s.heap.push { cls := .type "range_iterator", data := .fields #[rawInt 0, rawInt (n : Int), rawInt 1] } = X at *
  refine ⟨_, rfl, fun h' tk Q E g q => (walksRI (prog := prog) (w := w) (A := A) (I := s.heap.objs.size) hh n x1 p1).self 0 _ _ _ (g _ _ st) q, fun D C h₁ m₁ tk hD hC hCD g hl hn htk => ?_⟩
  have nD : s.heap.objs.size ≠ D := Nat.ne_of_lt (Nat.lt_of_lt_of_le hlt hD)
  have nC : s.heap.objs.size ≠ C := Nat.ne_of_lt (Nat.lt_of_lt_of_le hlt hC)
  refine comp2_loopO (s₂ := { s with heap := X }) (F := F') hh hx1 hx2 hkind h12 hn5 (hfs C) hC hD hCD nC nD ⟨_, _, rfl⟩ htk hl hn (g _ _ st) (fun b o _ e => g b o e) T1 T2 ?_
  rintro s' ⟨h', tk', m', ys, rfl, hl', hn', _, hv, hk, htk'⟩
  refine ⟨rfl, m', hn', fun h₃ hs₃ => ?_⟩
  have n3 : ∀ b, b ≠ C → ∀ o, h'.get? b = some o → h₃.get? b = some o := fun b hb o e => hs₃.extBut b o hb e
  have k3 : KB [s.heap.objs.size] X h₃ := fun b o hb e => n3 b (fun q => by rw [q] at e; exact absurd (Heap.lt_size e) (Nat.not_lt.mpr hC)) o (hk b o hb e)
  exact T3 D h₃ tk' ys hD (hl'.at fun o e => n3 _ (Ne.symm hCD) o e) (hv h₃ k3 fun b o hb e => n3 b (fun q => hb (by rw [q]; simp)) o e) k3 htk'
theorem comp2_evalR {E : Value → Shared → Prop}
    (hclos : closureFor scope env = pure cl) (hcell : ∀ y ∈ scope.names, y.2 ≠ .cell) (hkind : scope.kind = .function) (hnames : ∀ y ∈ scope.names, y.2 = .local → scope.names.lookup y.1 = some .local)
    (h : wpAny (model prog w) A (eval i1 env) (fun xv s₁ => wpAny (model prog w) A (pyIter xv) (Src2 prog w A elt i1 i2 x1 x2 p1 p2 scope cl pos env Q) E s₁) E s)
    (hs : ∀ x, foldedSetIterable i1 env x = pure x := by intro _; rfl) :
    wpAny (model prog w) A (eval (comp2 elt (.Name x1 p1) i1 (.Name x2 p2) i2 scope pos) env) Q E s :=
  comp2_eval hclos hcell hkind hnames h hs
end
end
section
section
variable {prog : Program} {w : World} {A : Around} {E : Value → Shared → Prop} {env : Env}
theorem newEnv_cell1 {M : Model} {s : Shared} {scope : Scope} {globals : Addr} {cl : List (Str × Addr)} {qual : Str} {xc : Str} {Q : Env → Shared → Prop}
    (hcf : ∀ n acc, cellsFrom n scope.names acc = (xc, n) :: acc) (hpc : ∀ h, pushCells h scope.names = h.push { cls := .type "cell", data := .cell none })
    (hQ : Q { scope := scope, locals := s.heap.objs.size, globals := globals, cells := (xc, s.heap.objs.size + 1) :: cl, qual := qual, func := none, code := env.code, frame := env.frame, builtins := env.builtins }
      { s with heap := (s.heap.push { cls := .type "dict", data := .dict #[] }).push { cls := .type "cell", data := .cell none } }) :
    wpAny M A (newFunctionEnv scope globals cl [] qual none .none (some env)) Q E s := by
  simp only [newFunctionEnv, Option.isSome_some, if_true]
  refine wpAny_bind (wpAny_alloc ?_)
  refine wpAny_bind (wpAny_layCells _ (fun name kind cells => by cases hkc : kind == NameKind.cell <;> simp [hkc]) _ _ _ _ ?_)
  rw [hcf, hpc]
  rw [show ({ s with heap := s.heap.push { cls := .type "dict", data := .dict #[] } } : Shared).heap.objs.size = s.heap.objs.size + 1 from Heap.size_push ..]
  refine wpAny_bind ?_
  rw [List.forIn_nil]
  exact wpAny_pure (wpAny_pure hQ)
noncomputable def EOutC (C K : Addr) (wr : List Addr) (h₂ : Heap) (s₃ : Shared) (F : Value → Heap → Prop) (y : Value) (s₆ : Shared) : Prop :=
  ∃ h' tk m', s₆ = { s₃ with heap := h', toks := tk } ∧ h'.Ns C m' ∧ (∃ v, h'.IsCell K v) ∧ KB [C, K] s₃.heap h' ∧
    ∀ h'', KB wr h₂ h'' → (∀ b o, s₃.heap.get? b = none → h'.get? b = some o → h''.get? b = some o) → F y h''
noncomputable def NOutC (C K : Addr) (s₃ s₅ : Shared) : Prop := ∃ h' tk m', s₅ = { s₃ with heap := h', toks := tk } ∧ h'.Ns C m' ∧ (∃ v, h'.IsCell K v) ∧ KB [C, K] s₃.heap h'
noncomputable def TurnsC (prog : Program) (w : World) (A : Around) (elt target : Expr) (ifs : List Expr) (scope : Scope) (xc : Str) (cl : List (Str × Addr)) (env : Env) (wr : List Addr) (n : Nat) (V : Nat → Value → Heap → Prop) (p : Nat → Bool) (F : Nat → Value → Heap → Prop) (s₂ : Shared) : Prop :=
  ∀ (C K : Addr) i v (h₃ : Heap) (tk₃ : Nat) (m : Str → Option Value) (E' : Value → Shared → Prop), s₂.heap.objs.size ≤ C → s₂.heap.objs.size ≤ K → K ≠ C → i < n → V i v h₃ → h₃.Ns C m → (∃ v, h₃.IsCell K v) → KB wr s₂.heap h₃ → s₂.toks ≤ tk₃ →
      wpAny (model prog w) A (assign target (compEnvC scope ((xc, K) :: cl) C env) v) (fun _ s₄ => wpAny (model prog w) A (testsOf ifs (compEnvC scope ((xc, K) :: cl) C env)) (fun ok s₅ =>
        if ok = true then wpAny (model prog w) A (eval elt (compEnvC scope ((xc, K) :: cl) C env)) (fun y s₆ => p i = true ∧ EOutC C K wr s₂.heap { s₂ with heap := h₃, toks := tk₃ } (F i) y s₆) E' s₅ else p i = false ∧ NOutC C K { s₂ with heap := h₃, toks := tk₃ } s₅) E' s₄) E' { s₂ with heap := h₃, toks := tk₃ }
theorem comp_blockC {elt target iter : Expr} {ifs : List Expr} {scope : Scope} {xc : Str} {cl : List (Str × Addr)} {pos : Pos} {s₂ : Shared} {I : Addr} {fp wr : List Addr} {n : Nat} {V : Nat → Value → Heap → Prop} {St : Nat → Heap → Prop}
    (S : Src prog w A I fp wr n target V St) (hsz : n ≤ sizeLine) (p : Nat → Bool) (F : Nat → Value → Heap → Prop) {RR : Value → Addr → Result → Shared → Prop}
    (hlive : ∀ i h, St i h → ∀ b ∈ wr, ∃ o, h.get? b = some o)
    (hcf : ∀ n acc, cellsFrom n scope.names acc = (xc, n) :: acc) (hpc : ∀ h, pushCells h scope.names = h.push { cls := .type "cell", data := .cell none }) (hst : St 0 s₂.heap) (hfp : ∀ b ∈ fp, b < s₂.heap.objs.size)
    (turn : TurnsC prog w A elt target ifs scope xc cl env wr n V p F s₂)
    (hRR : ∀ (D C K : Addr) h' tk m' ys, s₂.heap.objs.size ≤ D → s₂.heap.get? C = none → D ≠ C → h'.Ns C m' → h'.PlainList D ys → (∀ h'', KB wr s₂.heap h'' → KB (D :: C :: K :: wr) h' h'' → Vals p F h'' n ys.toList) → KB wr s₂.heap h' → s₂.toks ≤ tk → RR (.ref D) C (.ok .next) { s₂ with heap := h', toks := tk }) :
    wpAny (model prog w) A (newList []) (fun acc s₃ => wpAny (model prog w) A (newFunctionEnv scope env.globals cl [] env.qual none .none (some env)) (fun cenv s₄ =>
      codeAny (model prog w) A (.compStart (.ListComp elt [⟨target, iter, ifs, 0⟩] scope pos) 0 (.ref I) acc { cenv with scope := relabel scope env }) (RR acc cenv.locals) s₄) E s₃) E s₂ := by
  refine wpAny_newObj_type (newEnv_cell1 hcf hpc ?_)
  dsimp only
  generalize hH2 : s₂.heap.push { cls := .type "list", dict := none, data := .seq ([] : List Value).toArray } = H2
  have hC : H2.objs.size = s₂.heap.objs.size + 1 := by rw [← hH2, Heap.size_push]
  have hns0 := (Heap.Ns.new H2 (.type "dict")).push (o := { cls := .type "cell", data := .cell none })
  generalize hH3 : H2.push { cls := .type "dict", data := .dict #[] } = H3 at hns0 ⊢
  have hK : H3.objs.size = s₂.heap.objs.size + 2 := by rw [← hH3, Heap.size_push, hC]
  have hK' : H2.objs.size + 1 = H3.objs.size := by rw [hK, hC]
  rw [hK']
  generalize hH4 : H3.push { cls := .type "cell", data := .cell none } = h₁ at hns0 ⊢
  have old : ∀ b o, s₂.heap.get? b = some o → h₁.get? b = some o := fun b o e => by
    rw [← hH4, ← hH3, ← hH2]
    exact Heap.get?_push_of_some _ (Heap.get?_push_of_some _ (Heap.get?_push_of_some _ e))
  have hacc : h₁.PlainList s₂.heap.objs.size #[] := ⟨_, by rw [← hH4, ← hH3, ← hH2]; exact Heap.get?_push_of_some _ (Heap.get?_push_of_some _ (Heap.get?_push_size _ rfl))⟩
  have hcell : h₁.IsCell H3.objs.size none := ⟨_, by rw [← hH4]; exact Heap.get?_push_size _ rfl, rfl⟩
  have hst₁ : St 0 h₁ := S.frame _ _ _ hst fun b _ o e => old b o e
  have lt2 : ∀ b, b < s₂.heap.objs.size → b ≠ s₂.heap.objs.size ∧ b ≠ H2.objs.size ∧ b ≠ H3.objs.size := fun b hb =>
    ⟨Nat.ne_of_lt hb, by rw [hC]; exact Nat.ne_of_lt (Nat.lt_succ_of_lt hb), by rw [hK]; exact Nat.ne_of_lt (Nat.lt_succ_of_lt (Nat.lt_succ_of_lt hb))⟩
  have hDC : s₂.heap.objs.size ≠ H2.objs.size := by rw [hC]; exact Nat.ne_of_lt (Nat.lt_succ_self _)
  have hDK : s₂.heap.objs.size ≠ H3.objs.size := by rw [hK]; exact Nat.ne_of_lt (Nat.lt_succ_of_lt (Nat.lt_succ_self _))
  have hKC : H3.objs.size ≠ H2.objs.size := by rw [hK, hC]; exact Nat.ne_of_gt (Nat.lt_succ_self _)
  have hDf : s₂.heap.objs.size ∉ fp := fun hm => Nat.lt_irrefl _ (hfp _ hm)
  have hCf : H2.objs.size ∉ fp := fun hm => (lt2 _ (hfp _ hm)).2.1 rfl
  have hKf : H3.objs.size ∉ fp := fun hm => (lt2 _ (hfp _ hm)).2.2 rfl
  have fresh : ∀ a, s₂.heap.objs.size ≤ a → s₂.heap.get? a = none := fun a ha => Heap.get?_none_of_le ha
  have hCle : s₂.heap.objs.size ≤ H2.objs.size := by rw [hC]; exact Nat.le_succ _
  have hKle : s₂.heap.objs.size ≤ H3.objs.size := by rw [hK]; exact Nat.le_add_right _ _
  have toWr : ∀ h', KB (s₂.heap.objs.size :: H2.objs.size :: ([H3.objs.size] ++ wr)) s₂.heap h' → KB wr s₂.heap h' := fun h' k b o hb e => k b o (fun q => by
    have hl := lt2 b (Heap.lt_size e)
    rcases List.mem_cons.mp q with q | q
    · exact hl.1 q
    · rcases List.mem_cons.mp q with q | q
      · exact hl.2.1 q
      · rcases List.mem_append.mp q with q | q
        · exact hl.2.2 (List.mem_singleton.mp q)
        · exact hb q) e
  have loop : ∀ s₃ : Shared, s₃ = { s₂ with heap := h₁, toks := s₂.toks } →
      codeAny (model prog w) A (.compLoop (.ListComp elt [⟨target, iter, ifs, 0⟩] scope pos) 0 (.ref I) (.ref s₂.heap.objs.size) (compEnvC scope ((xc, H3.objs.size) :: cl) H2.objs.size env))
        (RR (.ref s₂.heap.objs.size) H2.objs.size) s₃ := by
    rintro s₃ rfl
    refine comp_loop (h₂ := s₂.heap) (oc := [H3.objs.size]) (cenv := compEnvC scope ((xc, H3.objs.size) :: cl) H2.objs.size env) (fun h => ∃ v, h.IsCell H3.objs.size v) S hsz p F (fun h h' x k => ?_) hDC hDf hCf (by simpa using hDK) (fun b hb => by rw [List.mem_singleton.mp hb]; exact hKf) hlive (fun h x b hb => ?_) (KB.grow old) hst₁ hacc hns0 ⟨_, hcell⟩ ?_ ?_
    · refine hide fun G9 bk9 => ?_
      obtain ⟨v, o, ho, hd⟩ := x
      refine bk9 ?_
      clear bk9 G9
      exact ⟨v, o, k _ List.mem_cons_self _ ho, hd⟩
    · refine hide fun G9 bk9 => ?_
      obtain ⟨v, o, ho, _⟩ := x
      refine bk9 ?_
      clear bk9 G9
      rw [List.mem_singleton.mp hb]; exact ⟨o, ho⟩
    · intro i v s₃ m E' hi hV hn hOC hk htk hs
      refine hide fun G9 bk9 => ?_
      obtain ⟨h₃, tk₃, rfl⟩ := hs
      refine bk9 ?_
      clear bk9 G9
      refine wpAny_mono (turn H2.objs.size H3.objs.size i v h₃ tk₃ m E' hCle hKle hKC hi hV hn hOC (toWr _ hk) htk) (fun _ s₄ h₄ => wpAny_mono h₄ (fun ok s₅ h₅ => ?_) fun _ _ e => e) fun _ _ e => e
      cases ok with
      | false =>
        simp only [Bool.false_eq_true, if_false] at h₅ ⊢
        refine hide fun G9 bk9 => ?_
        obtain ⟨hp, h', tk, m', e, hn', hoc', hk'⟩ := h₅
        refine bk9 ?_
        clear bk9 G9
        exact ⟨hp, h', tk, m', e, hn', hoc', hk'⟩
      | true =>
        simp only [if_true] at h₅ ⊢
        refine wpAny_mono h₅ (fun y s₆ h₆ => ?_) fun _ _ e => e
        refine hide fun G9 bk9 => ?_
        obtain ⟨hp, h', tk, m', e, hn', hoc', hk', hF⟩ := h₆
        refine bk9 ?_
        clear bk9 G9
        exact ⟨hp, h', tk, m', e, hn', hoc', hk', fun h'' a b => hF h'' (toWr _ a) b⟩
    · intro h' tk m' ys hn _ hl hv hk htk
      refine hRR _ _ H3.objs.size h' tk m' ys (Nat.le_refl _) (fresh _ hCle) hDC hn hl (fun h'' a b => ?_) (toWr _ hk) htk
      exact hv h'' (KB.mono a fun b hb => List.mem_cons_of_mem _ (List.mem_cons_of_mem _ (List.mem_append_right _ hb))) (KB.mono b fun b hb => by show b ∈ s₂.heap.objs.size :: H2.objs.size :: ([H3.objs.size] ++ wr); simpa using hb)
  exact codeAny_compStart_list (loop _ rfl) (S.self 0 _ _ _ hst₁ (loop _ rfl))
noncomputable def SrcItC (prog : Program) (w : World) (A : Around) (elt target : Expr) (ifs : List Expr) (scope : Scope) (xc : Str) (cl : List (Str × Addr)) (env : Env) (Fin : List Addr → Nat → (Nat → Bool) → (Nat → Value → Heap → Prop) → Shared → Prop) (it : Value) (s₂ : Shared) : Prop :=
  ∃ I fp wr n V St p F, it = .ref I ∧ Src prog w A I fp wr n target V St ∧ n ≤ sizeLine ∧ (∀ i h, St i h → ∀ b ∈ wr, ∃ o, h.get? b = some o) ∧ St 0 s₂.heap ∧ (∀ b ∈ fp, b < s₂.heap.objs.size) ∧
    TurnsC prog w A elt target ifs scope xc cl env wr n V p F s₂ ∧ Fin wr n p F s₂
theorem comp_evalC {s : Shared} {elt target iter : Expr} {ifs : List Expr} {scope : Scope} {xc : Str} {cl : List (Str × Addr)} {pos : Pos} {Q : Value → Shared → Prop}
    (hclos : closureFor scope env = pure cl) (hcf : ∀ n acc, cellsFrom n scope.names acc = (xc, n) :: acc) (hpc : ∀ h, pushCells h scope.names = h.push { cls := .type "cell", data := .cell none }) (hkind : scope.kind = .function) (hnames : ∀ y ∈ scope.names, y.2 = .local → scope.names.lookup y.1 = some .local)
    (h : wpAny (model prog w) A (eval iter env) (fun xv s₁ => wpAny (model prog w) A (pyIter xv) (SrcItC prog w A elt target ifs scope xc cl env (FinEv Q)) E s₁) E s)
    (hs : ∀ x, foldedSetIterable iter env x = pure x := by intro _; rfl) :
    wpAny (model prog w) A (eval (.ListComp elt [⟨target, iter, ifs, 0⟩] scope pos) env) Q E s := by
  rw [eval_ListComp]
  refine wpAny_comprehension_free (use := none) rfl hs hclos hkind hnames (wpAny_mono h (fun xv s₁ h₁ => wpAny_mono h₁ (fun it s₂ h₂ => ?_) fun _ _ e => e) fun _ _ e => e)
  refine hide fun G9 bk9 => ?_
  obtain ⟨I, fp, wr, n, V, St, p, F, rfl, S, hsz, hlive, hst, hfp, turn, fin⟩ := h₂
  refine bk9 ?_
  clear bk9 G9
  refine comp_blockC (RR := fun acc C => compPost (model prog w) A E none Q acc C) S hsz p F hlive hcf hpc hst hfp turn ?_
  intro D C K h' tk m' ys hD hC hDC hn hl hv hk htk
  refine ⟨m', hn, fun h'' hs'' => ?_⟩
  have k2 : KB wr s₂.heap h'' := fun b o hb e => hs''.extBut b o (fun q => by rw [q, hC] at e; cases e) (hk b o hb e)
  exact fin D h'' tk ys hD (hl.extBut hs''.extBut hDC) (hv h'' k2 fun b o hb e => hs''.extBut b o (fun q => hb (by rw [q]; exact List.mem_cons_of_mem _ List.mem_cons_self)) e) k2 htk
variable {h₀ : Heap} {L : Addr} {m : Str → Option Value} {news : List (Addr × Obj)} {s : Shared} {scope : Scope} {xc : Str} {cl : List (Str × Addr)} {elt target : Expr} {ifs : List Expr}
  {Fin : List Addr → Nat → (Nat → Bool) → (Nat → Value → Heap → Prop) → Shared → Prop}
theorem src_listC {ax : Addr} {its : Array Value} {x : Str} {px : Pos} (hh : A.handled = none) (F : Fr h₀ L s.heap m) (N : News h₀ L s.heap news) (hl : s.heap.IsList ax its) (hsz : its.size ≤ sizeLine)
    (p : Nat → Bool) (F' : Nat → Value → Heap → Prop)
    (turn : ∀ h₂, Fr h₀ L h₂ m → News h₀ L h₂ news → Apart h₀ L news [s.heap.objs.size] → Grow s.heap h₂ → TurnsC prog w A elt (.Name x px) ifs scope xc cl env [s.heap.objs.size] its.size (fun i v _ => its[i]? = some v) p F' { s with heap := h₂ })
    (fin : ∀ h₂, Fr h₀ L h₂ m → News h₀ L h₂ news → Apart h₀ L news [s.heap.objs.size] → Grow s.heap h₂ → Fin [s.heap.objs.size] its.size p F' { s with heap := h₂ }) :
    wpAny (model prog w) A (pyIter (.ref ax)) (SrcItC prog w A elt (.Name x px) ifs scope xc cl env Fin) E s := by
  have hlt : ax < s.heap.objs.size := by obtain ⟨_, e, _⟩ := hl; exact Heap.lt_size e
  refine wpAny_pyIter_list hl ?_
  have up : Grow s.heap (s.heap.push { cls := .type "list_iterator", data := .fields #[.ref ax, .int 0 0] }) := fun b o e => Heap.get?_push_of_some _ e
  have ap : Apart h₀ L news [s.heap.objs.size] := Apart.of_fresh F N (by simp)
  refine ⟨_, [s.heap.objs.size, ax], _, its.size, fun i v _ => its[i]? = some v, fun i h => h.IsListIter s.heap.objs.size ax i ∧ h.IsList ax its, p, F', rfl, Src.ofWalks (Walks.list hh s.heap.objs.size ax (Nat.ne_of_lt hlt) its) x px, hsz, fun i h st b hb => ?_, ⟨⟨_, Heap.get?_push_size _ rfl, rfl, rfl⟩, hl.push _⟩, fun b hb => ?_, turn _ (F.keeps up) (N.grown up) ap up, fin _ (F.keeps up) (N.grown up) ap up⟩
  · rw [List.mem_singleton.mp hb]; obtain ⟨o, e, _⟩ := st.1; exact ⟨o, e⟩
  · show b < (s.heap.push _).objs.size
    rw [Heap.size_push]
    rcases List.mem_cons.mp hb with rfl | hb
    · exact Nat.lt_succ_self _
    · rw [List.mem_singleton.mp hb]; exact Nat.lt_succ_of_lt hlt
/-- the item goes into the comprehension's own cell -/
theorem turn_cell {C K : Addr} {mC : Str → Option Value} {s₂ s₃ : Shared} {wr : List Addr} {px : Pos} {v : Value} {Q : Unit → Shared → Prop} (F : Fr h₀ L s₂.heap m) (N : News h₀ L s₂.heap news) (ap : Apart h₀ L news wr) (hC : s₂.heap.objs.size ≤ C) (hK : s₂.heap.objs.size ≤ K) (hKC : K ≠ C) (hn : s₃.heap.Ns C mC) (hc : ∃ v, s₃.heap.IsCell K v) (hk : KB wr s₂.heap s₃.heap) (htk : s₂.toks ≤ s₃.toks)
    (hx : (compEnvC scope ((xc, K) :: cl) C env).kindOf xc = some .cell) (hkind : scope.kind = .function)
    (k : ∀ h₁ oC oK tk, Fr h₀ L h₁ m → News h₀ L h₁ ((K, oK) :: (C, oC) :: news) → LCg.NsObj oC mC → oK.data = .cell (some v) → KB [C, K] s₃.heap h₁ → Grow h₁ h₁ → s₂.toks ≤ tk → Q () { s₃ with heap := h₁, toks := tk }) :
    wpAny (model prog w) A (assign (.Name xc px) (compEnvC scope ((xc, K) :: cl) C env) v) Q E s₃ := by
  obtain ⟨v0, hc⟩ := hc
  refine wpAny_assign_Name (wpAny_storeName_cell (env := compEnvC scope ((xc, K) :: cl) C env) (by simp [compEnvC, relabel, hkind]) hx (c := K) (by simp [compEnvC]) hc (fun h₁ hc₁ hs₁ => ?_))
  have fresh : ∀ b, s₂.heap.objs.size ≤ b → h₀.get? b = none ∧ b ≠ L := fun b hb => ⟨by
    cases e : h₀.get? b with
    | none => rfl
    | some o => exact absurd (Heap.lt_size (F.keep b o e)) (Nat.not_lt.mpr hb), Ne.symm (Nat.ne_of_lt (Nat.lt_of_lt_of_le F.ns.lt hb))⟩
  have F₃ : Fr h₀ L s₃.heap m := fr_kb F hk (fun q => (ap L q).2.1 rfl) fun b hb => (ap b hb).1
  have N₃ : News h₀ L s₃.heap news := news_kb N hk fun p hp q => (ap _ q).2.2 p hp rfl
  have hs : KB [K] s₃.heap h₁ := fun b o hb e => hs₁.extBut b o (fun q => hb (by rw [q]; exact List.mem_singleton.mpr rfl)) e
  have F₁ : Fr h₀ L h₁ m := fr_kb F₃ hs (by simpa using (fresh K hK).2.symm) (by simpa using (fresh K hK).1)
  have N₁ : News h₀ L h₁ news := news_kb N₃ hs fun p hp q => by
    have := List.mem_singleton.mp q
    exact absurd (Heap.lt_size (N p hp).1) (Nat.not_lt.mpr (by rw [this]; exact hK))
  refine hide fun G9 bk9 => ?_
  obtain ⟨oC, heC, hoC⟩ := LCg.ns_obj (hn.sameBut hs₁ (Ne.symm hKC))
  obtain ⟨oK, heK, hdK⟩ := hc₁
  refine bk9 ?_
  clear bk9 G9
  refine k h₁ oC oK _ F₁ (fun p hp => ?_) hoC hdK (hs.mono fun b hb => by rw [List.mem_singleton.mp hb]; simp) (Grow.rfl' _) htk
  rcases List.mem_cons.mp hp with rfl | hp
  · exact ⟨heK, (fresh K hK).2, (fresh K hK).1⟩
  · rcases List.mem_cons.mp hp with rfl | hp
    · exact ⟨heC, (fresh C hC).2, (fresh C hC).1⟩
    · exact N₁ p hp
theorem eoutC {C K : Addr} {wr : List Addr} {s₃ : Shared} {hb h₁ h' : Heap} {mC' : Str → Option Value} {oK : Obj} {vK : Option Value} {tk : Nat} {F : Value → Heap → Prop} {y : Value} (hs : KB [C, K] s₃.heap h₁) (g : Grow h₁ h') (hn : h₁.Ns C mC') (hK : h₁.get? K = some oK) (hd : oK.data = .cell vK)
    (hF : ∀ h'', KB wr hb h'' → (∀ b o, s₃.heap.get? b = none → h'.get? b = some o → h''.get? b = some o) → F y h'') : EOutC C K wr hb s₃ F y { s₃ with heap := h', toks := tk } :=
  ⟨h', tk, mC', rfl, hn.keeps g, ⟨vK, oK, g _ _ hK, hd⟩, fun b o hb e => g b o (hs b o hb e), hF⟩
end
end
section
theorem clip_eq (n : Nat) (a : Nat) : max 0 (min (a : Int) n) = max 0 (min ((min a n : Nat) : Int) n) := by omega
theorem idx_clip (p q n : Nat) : Builtin.Str.strSliceIndices (some (p : Int)) (some (q : Int)) 1 n = Builtin.Str.strSliceIndices (some ((min p n : Nat) : Int)) (some ((min q n : Nat) : Int)) 1 n := by
  have h : ∀ a : Nat, ¬ ((a : Int) < 0) := fun a => Int.not_lt.mpr (Int.natCast_nonneg a)
  unfold Builtin.Str.strSliceIndices
  simp only [h, if_false, show (1 : Int) > 0 from by decide, if_true]
  rw [clip_eq n p, clip_eq n q]
theorem cut_eq0 (a : Str) (p k : Nat) : (cut a p k).cps.toList = (a.cps.toList.drop p).take k := by
  have hn : a.length = a.cps.toList.length := by simp [Str.length]
  have e : cut a p k = StrLaws.sliceText a (some ((min p a.length : Nat) : Int)) (some ((min (p + k) a.length : Nat) : Int)) := by
    unfold StrLaws.sliceText
    rw [← idx_clip]
    rfl
  rw [e, StrLaws.sliceText_nat a (Nat.le_min.mpr ⟨Nat.le_trans (Nat.min_le_left _ _) (Nat.le_add_right _ _), Nat.min_le_right _ _⟩) (Nat.min_le_right _ _), hn]
  show (a.cps.toList.drop _).take _ = _
  generalize a.cps.toList = l
  rcases Nat.le_total p l.length with h | h
  · rw [Nat.min_eq_left h, List.take_eq_take_iff, List.length_drop]
    omega
  · rw [Nat.min_eq_right h, List.drop_eq_nil_of_le h, List.drop_eq_nil_of_le (Nat.le_refl _), List.take_nil, List.take_nil]
end
section
theorem slot_resub : Slot "re.Pattern" "sub" "re.Pattern.sub" :=
  .of (owner := "re.Pattern") (n := "sub") (by rw [typeLookup_type, builtinLookup_eq_fast]; kernel_rfl) (by decide +kernel) (by decide +kernel) (by decide +kernel)
    (by first | exact .inl (by decide +kernel) | exact .inr (by decide +kernel)) (by rw [isSubtype_type]; kernel_rfl)
theorem type_resub : typeOf (.builtin "re.Pattern.sub") = pure (.type "method_descriptor") := by show builtinType _ = _; rw [builtinType_eq_fast]; kernel_rfl
theorem entry_resub : entryFor table "re.Pattern.sub" = some Builtin.«re.Pattern.sub» := entryFor_of_tree (by kernel_rfl)
theorem entry_resubl : entryFor table "re.Pattern.sub.loop" = some Builtin.«re.Pattern.sub.loop» := entryFor_of_tree (by kernel_rfl)
theorem args_resub (a b c : Value) : argsOk "re.Pattern.sub" ⟨[a, b, c], []⟩ := by unfold argsOk; kernel_rfl
theorem plain_re : PlainAttrs "re.Pattern" := ⟨⟨"object.__getattribute__", by rw [typeLookup_type, builtinLookup_eq_fast]; kernel_rfl, by decide +kernel⟩, by rw [typeLookup_type, builtinLookup_eq_fast]; kernel_rfl⟩
theorem plain_resub : plainId "re.Pattern.sub" = true := by decide +kernel
theorem plain_resubl : plainId "re.Pattern.sub.loop" = true := by decide +kernel
theorem nocall_str : typeLookup (.type "str") "__call__" = pure none := by rw [typeLookup_type, builtinLookup_eq_fast]; kernel_rfl
end
section
noncomputable abbrev SM := PySem.Sre.M
noncomputable abbrev SF := PySem.Sre.Frame
noncomputable def mk (code text : Array Nat) (lim start lastStart pc pos handed : Nat) (o : Bool) (fr : List SF) (w : Nat) (ans : Option Bool) (seen : PySem.Sre.Seen) : SM :=
  { code, text, lim, start, lastStart, pc, pos, handed, outermost := o, marks := #[], frames := fr, weight := w, answer := ans, seen }
theorem runFor_add (a : Nat) : ∀ (b : Nat) (m : SM), m.runFor (b + a) = (m.runFor b).runFor a
  | 0, m => by rw [Nat.zero_add]; rfl
  | b + 1, m => by
    rw [show b + 1 + a = (b + a) + 1 by omega]
    show (if m.outcome.isSome = true then m else m.step.runFor (b + a)) = (if m.outcome.isSome = true then m else m.step.runFor b).runFor a
    by_cases h : m.outcome.isSome = true
    · rw [if_pos h, if_pos h]
      cases a with
      | zero => rfl
      | succ a => show m = (if m.outcome.isSome = true then m else _); rw [if_pos h]
    · rw [if_neg h, if_neg h]; exact runFor_add a b m.step
theorem runFor_done {m : SM} (h : m.outcome.isSome = true) : ∀ n, m.runFor n = m
  | 0 => rfl
  | n + 1 => by show (if m.outcome.isSome = true then m else _) = m; rw [if_pos h]
noncomputable def Steps (k : Nat) (m m' : SM) : Prop := m.runFor k = m'
theorem Steps.trans {a b : Nat} {m m' m'' : SM} (x : Steps a m m') (y : Steps b m' m'') : Steps (a + b) m m'' := by
  unfold Steps at *; rw [runFor_add b a m, x, y]
theorem Steps.one {m : SM} (h : m.outcome = none) : Steps 1 m m.step := by
  show (if m.outcome.isSome = true then m else m.step.runFor 0) = m.step
  rw [h]; rfl
section
variable {code text : Array Nat} {lim start lastStart pc pos handed : Nat} {o : Bool} {fr : List SF} {w : Nat} {seen : PySem.Sre.Seen}
open PySem.Sre (ops)
theorem ops_at : ops[0]? = some .FAILURE ∧ ops[1]? = some .SUCCESS ∧ ops[5]? = some .ASSERT_NOT ∧ ops[6]? = some .AT ∧ ops[7]? = some .BRANCH ∧ ops[14]? = some .INFO ∧ ops[15]? = some .JUMP ∧ ops[16]? = some .LITERAL := by
  refine ⟨rfl, rfl, rfl, rfl, rfl, rfl, rfl, rfl⟩
theorem st_lit_yes {c : Nat} (hp : pc < code.size) (h0 : code.getD pc 0 = 16) (h1 : code.getD (pc + 1) 0 = c) (hl : pos < lim) (ht : text.getD pos 0 = c) :
    ∃ seen', (mk code text lim start lastStart pc pos handed o fr w none seen).step = (mk code text lim start lastStart (pc + 2) (pos + 1) handed o fr w none seen') := by
  have hw : code.getD (pc + 0) 0 = 16 := h0
  have e : PySem.Sre.accepts code pc (text.getD pos 0) = fun sn => .ok (true, sn) := by
    funext sn
    unfold PySem.Sre.accepts
    rw [h0, ops_at.2.2.2.2.2.2.2, h1, ht]
    simp
  have e2 : PySem.Sre.itemWidth code pc = 2 := by
    unfold PySem.Sre.itemWidth
    rw [h0, ops_at.2.2.2.2.2.2.2]
  simp only [PySem.Sre.M.step, mk, Option.isSome_none, Bool.false_eq_true, if_false, hp, if_true, PySem.Sre.M.exec, PySem.Sre.M.word, hw, ops_at, Nat.not_le.mpr hl, ge_iff_le, e, e2]
  exact ⟨_, rfl⟩
theorem st_lit_no {c : Nat} (hp : pc < code.size) (h0 : code.getD pc 0 = 16) (h1 : code.getD (pc + 1) 0 = c) (ht : lim ≤ pos ∨ text.getD pos 0 ≠ c) :
    ∃ seen', (mk code text lim start lastStart pc pos handed o fr w none seen).step = (mk code text lim start lastStart pc pos handed o fr w (some false) seen') := by
  have hw : code.getD (pc + 0) 0 = 16 := h0
  by_cases hl : lim ≤ pos
  · simp only [PySem.Sre.M.step, mk, Option.isSome_none, Bool.false_eq_true, if_false, hp, if_true, PySem.Sre.M.exec, PySem.Sre.M.word, hw, ops_at, ge_iff_le, hl, PySem.Sre.M.say]
    exact ⟨_, rfl⟩
  · have ht' := ht.resolve_left hl
    have e : PySem.Sre.accepts code pc (text.getD pos 0) = fun sn => .ok (false, sn) := by
      funext sn
      unfold PySem.Sre.accepts
      rw [h0, ops_at.2.2.2.2.2.2.2, h1]
      have : (text.getD pos 0 == c) = false := by simpa using ht'
      simp only [this]
    simp only [PySem.Sre.M.step, mk, Option.isSome_none, Bool.false_eq_true, if_false, hp, if_true, PySem.Sre.M.exec, PySem.Sre.M.word, hw, ops_at, ge_iff_le, hl, PySem.Sre.M.say, e]
    exact ⟨_, rfl⟩
theorem st_jump {k : Nat} (hp : pc < code.size) (h0 : code.getD pc 0 = 15) (h1 : code.getD (pc + 1) 0 = k) :
    ∃ seen', (mk code text lim start lastStart pc pos handed o fr w none seen).step = (mk code text lim start lastStart (pc + 1 + k) pos handed o fr w none seen') := by
  have hw : code.getD (pc + 0) 0 = 15 := h0
  simp only [PySem.Sre.M.step, mk, Option.isSome_none, Bool.false_eq_true, if_false, hp, if_true, PySem.Sre.M.exec, PySem.Sre.M.word, hw, ops_at, h1]
  exact ⟨_, rfl⟩
theorem st_success (hp : pc < code.size) (h0 : code.getD pc 0 = 1) :
    ∃ seen', (mk code text lim start lastStart pc pos handed o fr w none seen).step = (mk code text lim start lastStart pc pos pos o fr w (some true) seen') := by
  have hw : code.getD (pc + 0) 0 = 1 := h0
  simp only [PySem.Sre.M.step, mk, Option.isSome_none, Bool.false_eq_true, if_false, hp, if_true, PySem.Sre.M.exec, PySem.Sre.M.word, hw, ops_at, Bool.false_and, Bool.and_false, Bool.or_false, PySem.Sre.M.say]
  exact ⟨_, rfl⟩
theorem is_at1 (m : PySem.Sre.M) : m.isAt 1 = .ok (m.pos == 0 || m.text.getD (m.pos - 1) 0 == 10) := rfl
theorem st_at {b : Bool} (hp : pc < code.size) (h0 : code.getD pc 0 = 6) (h1 : code.getD (pc + 1) 0 = 1) (hb : (pos == 0 || text.getD (pos - 1) 0 == 10) = b) :
    ∃ seen', (mk code text lim start lastStart pc pos handed o fr w none seen).step = (if b then mk code text lim start lastStart (pc + 2) pos handed o fr w none seen' else mk code text lim start lastStart pc pos handed o fr w (some false) seen') := by
  have hw : code.getD (pc + 0) 0 = 6 := h0
  simp only [PySem.Sre.M.step, mk, Option.isSome_none, Bool.false_eq_true, if_false, hp, if_true, PySem.Sre.M.exec, PySem.Sre.M.word, hw, ops_at, h1, is_at1, hb]
  cases b
  · exact ⟨_, rfl⟩
  · exact ⟨_, rfl⟩
noncomputable def brf (pc pos : Nat) (o : Bool) : SF := { wait := .nextBranch, pc, pos, outermost := o, kept := { lastmark := -1, lastindex := -1, whole := false, marks := #[] } }
noncomputable def lnf (pc pos : Nat) (o : Bool) : SF := { wait := .lookNot, pc, pos, outermost := o, kept := { lastmark := -1, lastindex := -1, whole := false, marks := #[] } }
noncomputable def nsf (pc pos : Nat) (o : Bool) : SF := { wait := .nextStart, pc, pos, outermost := o }
theorem st_branch {k : Nat} (hp : pc < code.size) (h0 : code.getD pc 0 = 7) (h1 : code.getD (pc + 1) 0 = k) (hk : k ≠ 0) (hw : w < 1000) :
    ∃ seen', (mk code text lim start lastStart pc pos handed o fr w none seen).step = (mk code text lim start lastStart (pc + 2) pos pos o (brf (pc + 1) pos o :: fr) (w + 1) none seen') := by
  have hw0 : code.getD (pc + 0) 0 = 7 := h0
  have hk' : (k == 0) = false := by simpa using hk
  have hb : ¬ (w + 1 + 0 > 16777216) := by omega
  simp only [PySem.Sre.M.step, mk, Option.isSome_none, Bool.false_eq_true, if_false, hp, if_true, PySem.Sre.M.exec, PySem.Sre.M.word, hw0, ops_at, PySem.Sre.M.alternative, PySem.Sre.M.keep, h1, hk', PySem.Sre.M.attempt, PySem.Sre.M.frame, Array.size_empty, hb]
  exact ⟨_, rfl⟩
theorem st_assertNot (hp : pc < code.size) (h0 : code.getD pc 0 = 5) (h2 : code.getD (pc + 2) 0 = 0) (hw : w < 1000) :
    ∃ seen', (mk code text lim start lastStart pc pos handed o fr w none seen).step = (mk code text lim start lastStart (pc + 3) pos pos false (lnf pc pos o :: fr) (w + 1) none seen') := by
  have hw0 : code.getD (pc + 0) 0 = 5 := h0
  have hb : ¬ (w + 1 + 0 > 16777216) := by omega
  simp only [PySem.Sre.M.step, mk, Option.isSome_none, Bool.false_eq_true, if_false, hp, if_true, PySem.Sre.M.exec, PySem.Sre.M.word, hw0, ops_at, h2, Nat.not_lt_zero, PySem.Sre.M.keep, PySem.Sre.M.attempt, PySem.Sre.M.frame, Array.size_empty, hb, Bool.and_false, Bool.true_and, Nat.sub_zero]
  exact ⟨_, rfl⟩
theorem re_branch_yes {pc' pos' : Nat} {o' : Bool} : (mk code text lim start lastStart pc pos handed o (brf pc' pos' o' :: fr) (w + 1) (some true) seen).step = (mk code text lim start lastStart pc' pos' handed o' fr w (some true) seen) := rfl
theorem re_branch_no {pc' pos' k j : Nat} {o' : Bool} (h1 : code.getD pc' 0 = k) (h2 : code.getD (pc' + k) 0 = j) (hj : j ≠ 0) (hw : w < 1000) :
    (mk code text lim start lastStart pc pos handed o (brf pc' pos' o' :: fr) (w + 1) (some false) seen).step = (mk code text lim start lastStart (pc' + k + 1) pos' pos' o' (brf (pc' + k) pos' o' :: fr) (w + 1) none seen) := by
  have hj' : (j == 0) = false := by simpa using hj
  have hb : ¬ (w + 1 - (1 + 0) + 1 + 0 > 16777216) := by omega
  simp only [PySem.Sre.M.step, mk, brf, Option.isSome_none, Bool.false_eq_true, if_false, PySem.Sre.M.resume, PySem.Sre.M.putBack, PySem.Sre.M.alternative, h1, h2, hj', PySem.Sre.M.attempt, PySem.Sre.M.frame, Array.size_empty, hb]
  simp
theorem re_look_no {pc' pos' k : Nat} {o' : Bool} (h1 : code.getD (pc' + 1) 0 = k) :
    (mk code text lim start lastStart pc pos handed o (lnf pc' pos' o' :: fr) (w + 1) (some false) seen).step = (mk code text lim start lastStart (pc' + 1 + k) pos' handed o' fr w none seen) := by
  simp only [PySem.Sre.M.step, mk, lnf, Option.isSome_none, Bool.false_eq_true, if_false, PySem.Sre.M.resume, PySem.Sre.M.putBack, PySem.Sre.M.word, h1, Array.size_empty]
  simp
theorem re_look_yes {pc' pos' : Nat} {o' : Bool} :
    (mk code text lim start lastStart pc pos handed o (lnf pc' pos' o' :: fr) (w + 1) (some true) seen).step = (mk code text lim start lastStart pc' pos' handed o' fr w (some false) seen) := rfl
theorem re_start_yes {pc' pos' : Nat} {o' : Bool} : (mk code text lim start lastStart pc pos handed o [nsf pc' pos' o'] (w + 1) (some true) seen).step = (mk code text lim start lastStart pc' pos' handed o' [] w (some true) seen) := rfl
theorem re_done {b : Bool} : (mk code text lim start lastStart pc pos handed o [] w (some b) seen).step = { mk code text lim start lastStart pc pos handed o [] w (some b) seen with outcome := some (if b then .matched else .failed) } := rfl
end

noncomputable def code2 : Array Nat := #[14, 9, 4, 1, 2, 16, 10, 16, 13, 0, 7, 7, 16, 13, 16, 10, 15, 18, 5, 16, 10, 15, 13, 11, 16, 13, 5, 5, 0, 16, 10, 1, 15, 2, 0, 1]
noncomputable def code1 : Array Nat := #[14, 4, 0, 1, 1, 6, 1, 16, 46, 1]
/-- what a try of the second pattern at s finds: the end of the match -/
noncomputable def hit2 (text : Array Nat) (lim s e : Nat) : Prop :=
  (text.getD s 0 = 13 ∧ s + 1 < lim ∧ text.getD (s + 1) 0 = 10 ∧ e = s + 2) ∨ (text.getD s 0 = 13 ∧ (lim ≤ s + 1 ∨ text.getD (s + 1) 0 ≠ 10) ∧ e = s + 1) ∨ (text.getD s 0 = 10 ∧ e = s + 1)
noncomputable def Found (m m' : SM) (s e : Nat) : Prop := ∃ k, k ≤ 40 ∧ m.runFor k = m' ∧ m'.outcome = some .matched ∧ m'.start = s ∧ m'.handed = e
theorem steps_cons {m m' : SM} {k : Nat} {r : SM} (h : m.outcome = none) (e : m.step = m') (x : m'.runFor k = r) : m.runFor (k + 1) = r := by
  show (if m.outcome.isSome = true then m else m.step.runFor k) = r
  rw [h, e]; exact x
theorem try2 {text : Array Nat} {lim s start lastStart handed e : Nat} {o : Bool} {seen : PySem.Sre.Seen} (hl : s < lim) (hit : hit2 text lim s e) :
    ∃ m', Found (mk code2 text lim s lastStart 10 s s o [nsf 10 s o] 1 none seen) m' s e := by
  rcases hit with ⟨h1, h2, h3, rfl⟩ | ⟨h1, h2, rfl⟩ | ⟨h1, rfl⟩
  · refine hide fun G9 bk9 => ?_
    obtain ⟨s1, e1⟩ := st_branch (code := code2) (text := text) (lim := lim) (start := s) (lastStart := lastStart) (pc := 10) (pos := s) (handed := s) (o := o) (fr := [nsf 10 s o]) (w := 1) (seen := seen) (by decide) (by decide) rfl (by decide) (by decide)
    obtain ⟨s2, e2⟩ := st_lit_yes (code := code2) (text := text) (lim := lim) (start := s) (lastStart := lastStart) (pc := 12) (pos := s) (handed := s) (o := o) (fr := [brf 11 s o, nsf 10 s o]) (w := 2) (seen := s1) (c := 13) (by decide) (by decide) rfl hl h1
    obtain ⟨s3, e3⟩ := st_lit_yes (code := code2) (text := text) (lim := lim) (start := s) (lastStart := lastStart) (pc := 14) (pos := s + 1) (handed := s) (o := o) (fr := [brf 11 s o, nsf 10 s o]) (w := 2) (seen := s2) (c := 10) (by decide) (by decide) rfl h2 h3
    obtain ⟨s4, e4⟩ := st_jump (code := code2) (text := text) (lim := lim) (start := s) (lastStart := lastStart) (pc := 16) (pos := s + 2) (handed := s) (o := o) (fr := [brf 11 s o, nsf 10 s o]) (w := 2) (seen := s3) (k := 18) (by decide) (by decide) rfl
    obtain ⟨s5, e5⟩ := st_success (code := code2) (text := text) (lim := lim) (start := s) (lastStart := lastStart) (pc := 35) (pos := s + 2) (handed := s) (o := o) (fr := [brf 11 s o, nsf 10 s o]) (w := 2) (seen := s4) (by decide) (by decide)
    refine bk9 ?_
    clear bk9 G9
    refine ⟨_, 8, by decide, steps_cons rfl e1 (steps_cons rfl e2 (steps_cons rfl e3 (steps_cons rfl e4 (steps_cons rfl e5 (steps_cons rfl re_branch_yes (steps_cons rfl re_start_yes (steps_cons rfl re_done rfl))))))), rfl, rfl, rfl⟩
  · refine hide fun G9 bk9 => ?_
    obtain ⟨s1, e1⟩ := st_branch (code := code2) (text := text) (lim := lim) (start := s) (lastStart := lastStart) (pc := 10) (pos := s) (handed := s) (o := o) (fr := [nsf 10 s o]) (w := 1) (seen := seen) (by decide) (by decide) rfl (by decide) (by decide)
    obtain ⟨s2, e2⟩ := st_lit_yes (code := code2) (text := text) (lim := lim) (start := s) (lastStart := lastStart) (pc := 12) (pos := s) (handed := s) (o := o) (fr := [brf 11 s o, nsf 10 s o]) (w := 2) (seen := s1) (c := 13) (by decide) (by decide) rfl hl h1
    obtain ⟨s3, e3⟩ := st_lit_no (code := code2) (text := text) (lim := lim) (start := s) (lastStart := lastStart) (pc := 14) (pos := s + 1) (handed := s) (o := o) (fr := [brf 11 s o, nsf 10 s o]) (w := 2) (seen := s2) (c := 10) (by decide) (by decide) rfl h2
    refine bk9 ?_
    clear bk9 G9
    have e4 := re_branch_no (code := code2) (text := text) (lim := lim) (start := s) (lastStart := lastStart) (pc := 14) (pos := s + 1) (handed := s) (o := o) (fr := [nsf 10 s o]) (w := 1) (seen := s3) (pc' := 11) (pos' := s) (k := 7) (j := 5) (o' := o) rfl rfl (by decide) (by decide)
    obtain ⟨s5, e5⟩ := st_lit_no (code := code2) (text := text) (lim := lim) (start := s) (lastStart := lastStart) (pc := 19) (pos := s) (handed := s) (o := o) (fr := [brf 18 s o, nsf 10 s o]) (w := 2) (seen := s3) (c := 10) (by decide) (by decide) rfl (.inr (by rw [h1]; decide))
    have e6 := re_branch_no (code := code2) (text := text) (lim := lim) (start := s) (lastStart := lastStart) (pc := 19) (pos := s) (handed := s) (o := o) (fr := [nsf 10 s o]) (w := 1) (seen := s5) (pc' := 18) (pos' := s) (k := 5) (j := 11) (o' := o) rfl rfl (by decide) (by decide)
    refine hide fun G9 bk9 => ?_
    obtain ⟨s7, e7⟩ := st_lit_yes (code := code2) (text := text) (lim := lim) (start := s) (lastStart := lastStart) (pc := 24) (pos := s) (handed := s) (o := o) (fr := [brf 23 s o, nsf 10 s o]) (w := 2) (seen := s5) (c := 13) (by decide) (by decide) rfl hl h1
    obtain ⟨s8, e8⟩ := st_assertNot (code := code2) (text := text) (lim := lim) (start := s) (lastStart := lastStart) (pc := 26) (pos := s + 1) (handed := s) (o := o) (fr := [brf 23 s o, nsf 10 s o]) (w := 2) (seen := s7) (by decide) (by decide) (by decide) (by decide)
    obtain ⟨s9, e9⟩ := st_lit_no (code := code2) (text := text) (lim := lim) (start := s) (lastStart := lastStart) (pc := 29) (pos := s + 1) (handed := s + 1) (o := false) (fr := [lnf 26 (s + 1) o, brf 23 s o, nsf 10 s o]) (w := 3) (seen := s8) (c := 10) (by decide) (by decide) rfl h2
    have e10 := re_look_no (code := code2) (text := text) (lim := lim) (start := s) (lastStart := lastStart) (pc := 29) (pos := s + 1) (handed := s + 1) (o := false) (fr := [brf 23 s o, nsf 10 s o]) (w := 2) (seen := s9) (pc' := 26) (pos' := s + 1) (k := 5) (o' := o) rfl
    obtain ⟨s11, e11⟩ := st_jump (code := code2) (text := text) (lim := lim) (start := s) (lastStart := lastStart) (pc := 32) (pos := s + 1) (handed := s + 1) (o := o) (fr := [brf 23 s o, nsf 10 s o]) (w := 2) (seen := s9) (k := 2) (by decide) (by decide) rfl
    obtain ⟨s12, e12⟩ := st_success (code := code2) (text := text) (lim := lim) (start := s) (lastStart := lastStart) (pc := 35) (pos := s + 1) (handed := s + 1) (o := o) (fr := [brf 23 s o, nsf 10 s o]) (w := 2) (seen := s11) (by decide) (by decide)
    refine bk9 ?_
    clear bk9 G9
    refine ⟨_, 15, by decide, steps_cons rfl e1 (steps_cons rfl e2 (steps_cons rfl e3 (steps_cons rfl e4 (steps_cons rfl e5 (steps_cons rfl e6 (steps_cons rfl e7 (steps_cons rfl e8 (steps_cons rfl e9 (steps_cons rfl e10 (steps_cons rfl e11 (steps_cons rfl e12 (steps_cons rfl re_branch_yes (steps_cons rfl re_start_yes (steps_cons rfl re_done rfl)))))))))))))), rfl, rfl, rfl⟩
  · obtain ⟨s1, e1⟩ := st_branch (code := code2) (text := text) (lim := lim) (start := s) (lastStart := lastStart) (pc := 10) (pos := s) (handed := s) (o := o) (fr := [nsf 10 s o]) (w := 1) (seen := seen) (by decide) (by decide) rfl (by decide) (by decide)
    obtain ⟨s2, e2⟩ := st_lit_no (code := code2) (text := text) (lim := lim) (start := s) (lastStart := lastStart) (pc := 12) (pos := s) (handed := s) (o := o) (fr := [brf 11 s o, nsf 10 s o]) (w := 2) (seen := s1) (c := 13) (by decide) (by decide) rfl (.inr (by rw [h1]; decide))
    have e3 := re_branch_no (code := code2) (text := text) (lim := lim) (start := s) (lastStart := lastStart) (pc := 12) (pos := s) (handed := s) (o := o) (fr := [nsf 10 s o]) (w := 1) (seen := s2) (pc' := 11) (pos' := s) (k := 7) (j := 5) (o' := o) rfl rfl (by decide) (by decide)
    refine hide fun G9 bk9 => ?_
    obtain ⟨s4, e4⟩ := st_lit_yes (code := code2) (text := text) (lim := lim) (start := s) (lastStart := lastStart) (pc := 19) (pos := s) (handed := s) (o := o) (fr := [brf 18 s o, nsf 10 s o]) (w := 2) (seen := s2) (c := 10) (by decide) (by decide) rfl hl h1
    obtain ⟨s5, e5⟩ := st_jump (code := code2) (text := text) (lim := lim) (start := s) (lastStart := lastStart) (pc := 21) (pos := s + 1) (handed := s) (o := o) (fr := [brf 18 s o, nsf 10 s o]) (w := 2) (seen := s4) (k := 13) (by decide) (by decide) rfl
    obtain ⟨s6, e6⟩ := st_success (code := code2) (text := text) (lim := lim) (start := s) (lastStart := lastStart) (pc := 35) (pos := s + 1) (handed := s) (o := o) (fr := [brf 18 s o, nsf 10 s o]) (w := 2) (seen := s5) (by decide) (by decide)
    refine bk9 ?_
    clear bk9 G9
    refine ⟨_, 9, by decide, steps_cons rfl e1 (steps_cons rfl e2 (steps_cons rfl e3 (steps_cons rfl e4 (steps_cons rfl e5 (steps_cons rfl e6 (steps_cons rfl re_branch_yes (steps_cons rfl re_start_yes (steps_cons rfl re_done rfl)))))))), rfl, rfl, rfl⟩
end
section
noncomputable def seen0 : PySem.Sre.Seen := ({} : PySem.Sre.Seen).add 14
theorem fs2 (text : Array Nat) (s lim : Nat) : PySem.Sre.forSearch code2 text 0 s lim false = if (decide (s > lim) || decide (lim - s < 1)) = true then mk code2 text lim s 0 10 s s true [] 0 (some false) seen0 else (mk code2 text lim s lim 10 s s true [] 0 none seen0).attemptFrom s true := rfl
theorem fs1 (text : Array Nat) (s lim : Nat) : PySem.Sre.forSearch code1 text 0 s lim false = if (decide (s > lim) || decide (lim - s < 1)) = true then mk code1 text lim s 0 5 s s true [] 0 (some false) seen0 else (mk code1 text lim s lim 5 s s true [] 0 none seen0).attemptFrom s true := rfl
theorem inset_step (c : Nat) (seen : PySem.Sre.Seen) : PySem.Sre.inSet code2 c code2.size 5 true seen = (if (c == 10) = true then .ok (true, seen.add 16) else if (c == 13) = true then .ok (true, (seen.add 16).add 16) else .ok (false, ((seen.add 16).add 16).add 0)) := rfl
theorem inset2 (c : Nat) (seen : PySem.Sre.Seen) : ∃ seen', PySem.Sre.inSet code2 c code2.size 5 true seen = .ok (decide (c = 10 ∨ c = 13), seen') := by
  rw [inset_step]
  by_cases h1 : c = 10
  · exact ⟨_, by rw [if_pos (beq_iff_eq.mpr h1), decide_eq_true (Or.inl h1)]⟩
  · rw [if_neg fun q => h1 (beq_iff_eq.mp q)]
    by_cases h2 : c = 13
    · exact ⟨_, by rw [if_pos (beq_iff_eq.mpr h2), decide_eq_true (Or.inr h2)]⟩
    · exact ⟨_, by rw [if_neg fun q => h2 (beq_iff_eq.mp q), decide_eq_false fun q => q.elim h1 h2]⟩
noncomputable abbrev isNl (c : Nat) : Prop := c = 10 ∨ c = 13
theorem adm2 (m : SM) (hc : m.code = code2) : ∀ (fuel s : Nat) (seen : PySem.Sre.Seen), m.lim + 1 - s ≤ fuel →
    (∃ s' seen', m.admitted fuel s seen = .ok (some s', seen') ∧ s ≤ s' ∧ s' < m.lim ∧ isNl (m.text.getD s' 0) ∧ ∀ j, s ≤ j → j < s' → ¬ isNl (m.text.getD j 0)) ∨
    (∃ seen', m.admitted fuel s seen = .ok (none, seen') ∧ ∀ j, s ≤ j → j < m.lim → ¬ isNl (m.text.getD j 0))
  | 0, s, seen, h => .inr ⟨seen, rfl, fun j h1 h2 => by omega⟩
  | fuel + 1, s, seen, h => by
    unfold PySem.Sre.M.admitted
    by_cases hs : s ≥ m.lim
    · rw [if_pos hs]
      exact .inr ⟨_, rfl, fun j h1 h2 => by omega⟩
    · rw [if_neg hs, hc]
      obtain ⟨seen', e⟩ := inset2 (m.text.getD s 0) seen
      rw [e]
      by_cases hn : isNl (m.text.getD s 0)
      · rw [decide_eq_true hn]
        exact .inl ⟨s, _, rfl, Nat.le_refl _, by omega, hn, fun j h1 h2 => by omega⟩
      · rw [decide_eq_false hn]
        have hj : ∀ j, s ≤ j → j < s + 1 → ¬ isNl (m.text.getD j 0) := fun j h1 h2 => by rw [show j = s by omega]; exact hn
        rcases adm2 m hc fuel (s + 1) seen' (by omega) with ⟨s', sn, e', h1, h2, h3, h4⟩ | ⟨sn, e', h1⟩
        · exact .inl ⟨s', sn, e', by omega, h2, h3, fun j a b => by
            by_cases q : j = s
            · rw [q]; exact hn
            · exact h4 j (by omega) b⟩
        · exact .inr ⟨sn, e', fun j a b => by
            by_cases q : j = s
            · rw [q]; exact hn
            · exact h1 j (by omega) b⟩
/-- what a search says: the place and the end of the match, or none -/
noncomputable def Says (m : SM) (r : Option (Nat × Nat)) : Prop :=
  ∃ k m', k ≤ 4000 ∧ m.runFor k = m' ∧ match r with
    | some (s, e) => m'.outcome = some .matched ∧ m'.start = s ∧ m'.handed = e
    | none => m'.outcome = some .failed
theorem says_none {code text : Array Nat} {lim start lastStart pc pos handed : Nat} {o : Bool} {seen : PySem.Sre.Seen} : Says (mk code text lim start lastStart pc pos handed o [] 0 (some false) seen) none :=
  ⟨1, _, by decide, steps_cons rfl re_done rfl, rfl⟩
theorem search2 (text : Array Nat) (s lim : Nat) (hs : s ≤ lim) :
    (∃ p e, s ≤ p ∧ p < lim ∧ hit2 text lim p e ∧ (∀ j, s ≤ j → j < p → ¬ isNl (text.getD j 0)) ∧ Says (PySem.Sre.forSearch code2 text 0 s lim false) (some (p, e))) ∨
    ((∀ j, s ≤ j → j < lim → ¬ isNl (text.getD j 0)) ∧ Says (PySem.Sre.forSearch code2 text 0 s lim false) none) := by
  rw [fs2]
  by_cases hq : lim - s < 1
  · rw [if_pos (by simp [hq])]
    exact .inr ⟨fun j a b => by omega, says_none⟩
  · rw [if_neg (by simp; omega)]
    have e0 : (mk code2 text lim s lim 10 s s true [] 0 none seen0).attemptFrom s true = (match (mk code2 text lim s lim 10 s s true [] 0 none seen0).admitted (lim + 1 - s) s seen0 with
      | .ok (some s', seen) => mk code2 text lim s' lim 10 s' s' true [nsf 10 s' true] 1 none seen
      | .ok (none, seen) => mk code2 text lim s lim 10 s s true [] 0 (some false) seen
      | .error why => (mk code2 text lim s lim 10 s s true [] 0 none seen0).stick why) := rfl
    rw [e0]
    rcases adm2 (mk code2 text lim s lim 10 s s true [] 0 none seen0) rfl (lim + 1 - s) s seen0 (Nat.le_refl _) with ⟨p, sn, e', h1, h2, h3, h4⟩ | ⟨sn, e', h1⟩
    · rw [e']
      have h3' : isNl (text.getD p 0) := h3
      have h2' : p < lim := h2
      have key : ∃ e, hit2 text lim p e := by
        rcases h3' with h3' | h3'
        · exact ⟨p + 1, .inr (.inr ⟨h3', rfl⟩)⟩
        · by_cases h5 : p + 1 < lim ∧ text.getD (p + 1) 0 = 10
          · exact ⟨p + 2, .inl ⟨h3', h5.1, h5.2, rfl⟩⟩
          · exact ⟨p + 1, .inr (.inl ⟨h3', by
              by_cases h6 : lim ≤ p + 1
              · exact .inl h6
              · exact .inr fun q => h5 ⟨by omega, q⟩, rfl⟩)⟩
      refine hide fun G9 bk9 => ?_
      obtain ⟨e, he⟩ := key
      obtain ⟨m', k, hk, hr, a, b, c⟩ := try2 (start := p) (lastStart := lim) (handed := p) (o := true) (seen := sn) h2' he
      refine bk9 ?_
      clear bk9 G9
      exact .inl ⟨p, e, h1, h2', he, h4, k, m', by omega, hr, a, b, c⟩
    · rw [e']
      exact .inr ⟨h1, says_none⟩

noncomputable def bol (text : Array Nat) (s : Nat) : Bool := s == 0 || text.getD (s - 1) 0 == 10
theorem re_start_no {text : Array Nat} {lim start lastStart pc pos handed pos' : Nat} {o o' : Bool} {seen : PySem.Sre.Seen} :
    (mk code1 text lim start lastStart pc pos handed o [nsf 5 pos' o'] 1 (some false) seen).step = if pos' < lastStart then mk code1 text lim (pos' + 1) lastStart 5 (pos' + 1) (pos' + 1) false [nsf 5 (pos' + 1) false] 1 none seen else mk code1 text lim start lastStart 5 pos' handed o' [] 0 (some false) seen := by
  by_cases h : pos' < lastStart
  · rw [if_pos h]
    simp only [PySem.Sre.M.step, mk, nsf, Option.isSome_none, Bool.false_eq_true, if_false, PySem.Sre.M.resume, h, if_true]
    rfl
  · rw [if_neg h]
    simp only [PySem.Sre.M.step, mk, nsf, Option.isSome_none, Bool.false_eq_true, if_false, PySem.Sre.M.resume, h]
    rfl
theorem try1_yes {text : Array Nat} {lim s lastStart : Nat} {o : Bool} {seen : PySem.Sre.Seen} (hl : s < lim) (hb : bol text s = true) (hc : text.getD s 0 = 46) :
    ∃ m', Found (mk code1 text lim s lastStart 5 s s o [nsf 5 s o] 1 none seen) m' s (s + 1) := by
  refine hide fun G9 bk9 => ?_
  obtain ⟨s1, e1⟩ := st_at (code := code1) (text := text) (lim := lim) (start := s) (lastStart := lastStart) (pc := 5) (pos := s) (handed := s) (o := o) (fr := [nsf 5 s o]) (w := 1) (seen := seen) (b := true) (by decide) (by decide) (by decide) hb
  obtain ⟨s2, e2⟩ := st_lit_yes (code := code1) (text := text) (lim := lim) (start := s) (lastStart := lastStart) (pc := 7) (pos := s) (handed := s) (o := o) (fr := [nsf 5 s o]) (w := 1) (seen := s1) (c := 46) (by decide) (by decide) rfl hl hc
  obtain ⟨s3, e3⟩ := st_success (code := code1) (text := text) (lim := lim) (start := s) (lastStart := lastStart) (pc := 9) (pos := s + 1) (handed := s) (o := o) (fr := [nsf 5 s o]) (w := 1) (seen := s2) (by decide) (by decide)
  refine bk9 ?_
  clear bk9 G9
  exact ⟨_, 5, by decide, steps_cons rfl e1 (steps_cons rfl e2 (steps_cons rfl e3 (steps_cons rfl re_start_yes (steps_cons rfl re_done rfl)))), rfl, rfl, rfl⟩
theorem try1_no {text : Array Nat} {lim s lastStart : Nat} {o : Bool} {seen : PySem.Sre.Seen} (h : lim ≤ s ∨ bol text s = false ∨ text.getD s 0 ≠ 46) :
    ∃ k pc pos handed o' seen', k ≤ 2 ∧ (mk code1 text lim s lastStart 5 s s o [nsf 5 s o] 1 none seen).runFor k = mk code1 text lim s lastStart pc pos handed o' [nsf 5 s o] 1 (some false) seen' := by
  cases hb : bol text s with
  | false =>
    obtain ⟨s1, e1⟩ := st_at (code := code1) (text := text) (lim := lim) (start := s) (lastStart := lastStart) (pc := 5) (pos := s) (handed := s) (o := o) (fr := [nsf 5 s o]) (w := 1) (seen := seen) (b := false) (by decide) (by decide) (by decide) hb
    exact ⟨1, _, _, _, _, s1, by decide, steps_cons rfl e1 rfl⟩
  | true =>
    refine hide fun G9 bk9 => ?_
    obtain ⟨s1, e1⟩ := st_at (code := code1) (text := text) (lim := lim) (start := s) (lastStart := lastStart) (pc := 5) (pos := s) (handed := s) (o := o) (fr := [nsf 5 s o]) (w := 1) (seen := seen) (b := true) (by decide) (by decide) (by decide) hb
    obtain ⟨s2, e2⟩ := st_lit_no (code := code1) (text := text) (lim := lim) (start := s) (lastStart := lastStart) (pc := 7) (pos := s) (handed := s) (o := o) (fr := [nsf 5 s o]) (w := 1) (seen := s1) (c := 46) (by decide) (by decide) rfl (by
      rcases h with h | h | h
      · exact .inl h
      · rw [hb] at h; cases h
      · exact .inr h)
    refine bk9 ?_
    clear bk9 G9
    exact ⟨2, _, _, _, _, s2, by decide, steps_cons rfl e1 (steps_cons rfl e2 rfl)⟩
noncomputable abbrev dot1 (text : Array Nat) (j : Nat) : Prop := bol text j = true ∧ text.getD j 0 = 46
theorem run_then {m m' : SM} {k a : Nat} {r : SM} (h : m.runFor k = m') (x : m'.runFor a = r) : m.runFor (k + a) = r := by rw [runFor_add a k m, h, x]
theorem search1_from (text : Array Nat) (lim : Nat) : ∀ (d s : Nat) (o : Bool) (seen : PySem.Sre.Seen), s ≤ lim → lim - s = d →
    (∃ p, s ≤ p ∧ p < lim ∧ dot1 text p ∧ (∀ j, s ≤ j → j < p → ¬ dot1 text j) ∧ ∃ k m', k ≤ 4 * (d + 1) + 40 ∧ (mk code1 text lim s lim 5 s s o [nsf 5 s o] 1 none seen).runFor k = m' ∧ m'.outcome = some .matched ∧ m'.start = p ∧ m'.handed = p + 1) ∨
    ((∀ j, s ≤ j → j < lim → ¬ dot1 text j) ∧ ∃ k m', k ≤ 4 * (d + 1) + 40 ∧ (mk code1 text lim s lim 5 s s o [nsf 5 s o] 1 none seen).runFor k = m' ∧ m'.outcome = some .failed) := by
  intro d
  induction d with
  | zero =>
    intro s o seen hs hd
    have hl : ¬ s < lim := fun q => absurd hd (Nat.sub_ne_zero_of_lt q)
    refine hide fun G9 bk9 => ?_
    obtain ⟨k, pc, pos, handed, o', sn, hk, hr⟩ := try1_no (text := text) (lim := lim) (s := s) (lastStart := lim) (o := o) (seen := seen) (.inl (Nat.not_lt.mp hl))
    refine bk9 ?_
    clear bk9 G9
    have e := re_start_no (text := text) (lim := lim) (start := s) (lastStart := lim) (pc := pc) (pos := pos) (handed := handed) (pos' := s) (o := o') (o' := o) (seen := sn)
    rw [if_neg hl] at e
    exact .inr ⟨fun j a b => absurd (Nat.lt_of_le_of_lt a b) hl, k + 2, _, by omega, run_then hr (steps_cons rfl e (steps_cons rfl re_done rfl)), rfl⟩
  | succ d ih =>
    intro s o seen hs hd
    have hl : s < lim := Nat.lt_of_sub_pos (hd ▸ Nat.succ_pos d)
    by_cases hh : dot1 text s
    · refine hide fun G9 bk9 => ?_
      obtain ⟨m', k, hk, hr, a, b, c⟩ := try1_yes (lastStart := lim) (o := o) (seen := seen) hl hh.1 hh.2
      refine bk9 ?_
      clear bk9 G9
      exact .inl ⟨s, Nat.le_refl _, hl, hh, fun j a b => absurd b (Nat.not_lt.mpr a), k, m', by omega, hr, a, b, c⟩
    · refine hide fun G9 bk9 => ?_
      obtain ⟨k, pc, pos, handed, o', sn, hk, hr⟩ := try1_no (text := text) (lim := lim) (s := s) (lastStart := lim) (o := o) (seen := seen) (by
        by_cases h2 : bol text s = true
        · exact .inr (.inr fun q => hh ⟨h2, q⟩)
        · exact .inr (.inl (by simpa using h2)))
      refine bk9 ?_
      clear bk9 G9
      have e := re_start_no (text := text) (lim := lim) (start := s) (lastStart := lim) (pc := pc) (pos := pos) (handed := handed) (pos' := s) (o := o') (o' := o) (seen := sn)
      rw [if_pos hl] at e
      rcases ih (s + 1) false sn hl (nsub2 hd) with ⟨p, h1, h2, h3, h4, k', m', hk', hr', r⟩ | ⟨h1, k', m', hk', hr', r⟩
      · refine .inl ⟨p, Nat.le_of_succ_le h1, h2, h3, fun j a b => ?_, k + (k' + 1), m', by omega, run_then hr (steps_cons rfl e hr'), r⟩
        rcases Nat.eq_or_lt_of_le a with q | q
        · exact q ▸ hh
        · exact h4 j q b
      · refine .inr ⟨fun j a b => ?_, k + (k' + 1), m', by omega, run_then hr (steps_cons rfl e hr'), r⟩
        rcases Nat.eq_or_lt_of_le a with q | q
        · exact q ▸ hh
        · exact h1 j q b
theorem search1 (text : Array Nat) (s lim : Nat) (hs : s ≤ lim) (hlim : lim ≤ 900) :
    (∃ p, s ≤ p ∧ p < lim ∧ dot1 text p ∧ (∀ j, s ≤ j → j < p → ¬ dot1 text j) ∧ Says (PySem.Sre.forSearch code1 text 0 s lim false) (some (p, p + 1))) ∨
    ((∀ j, s ≤ j → j < lim → ¬ dot1 text j) ∧ Says (PySem.Sre.forSearch code1 text 0 s lim false) none) := by
  rw [fs1]
  by_cases hq : lim - s < 1
  · rw [if_pos (by simp [hq])]
    exact .inr ⟨fun j a b => by omega, says_none⟩
  · rw [if_neg (by simp; omega)]
    have e0 : (mk code1 text lim s lim 5 s s true [] 0 none seen0).attemptFrom s true = mk code1 text lim s lim 5 s s true [nsf 5 s true] 1 none seen0 := rfl
    rw [e0]
    rcases search1_from text lim (lim - s) s true seen0 hs rfl with ⟨p, h1, h2, h3, h4, k, m', hk, hr, r⟩ | ⟨h1, k, m', hk, hr, r⟩
    · exact .inl ⟨p, h1, h2, h3, h4, k, m', by omega, hr, r⟩
    · exact .inr ⟨h1, k, m', by omega, hr, r⟩
end
section
open PySem.Builtin PySem.Builtin.Re
section
variable {M : Model} {A : Around} {E : Value → Shared → Prop} {s : Shared}
theorem wp_drive {Q : SM → Shared → Prop} : ∀ (N : Nat) (m : SM) (k : Nat) (m' : SM), m.runFor k = m' → m'.outcome.isSome = true → k < 4 * N → Q m' s → wpAny M A (reDrive N m) Q E s
  | 0, _, _, _, _, _, h, _ => by omega
  | N + 1, m, k, m', hr, ho, hk, hq => by
    show wpAny M A (if (m.runFor 4).outcome.isSome = true then pure (m.runFor 4) else do rule "sre.turn"; reDrive N (m.runFor 4)) Q E s
    by_cases h4 : (m.runFor 4).outcome.isSome = true
    · have e : m.runFor 4 = m' := by
        by_cases hk4 : 4 ≤ k
        · have := runFor_add (k - 4) 4 m
          rw [show 4 + (k - 4) = k by omega, hr, runFor_done h4] at this
          exact this.symm
        · have := runFor_add (4 - k) k m
          rw [show k + (4 - k) = 4 by omega, hr, runFor_done ho] at this
          exact this
      rw [if_pos h4, e]
      exact wpAny_pure hq
    · rw [if_neg h4]
      have hk4 : 4 < k := by
        by_cases hk4 : 4 < k
        · exact hk4
        · have := runFor_add (4 - k) k m
          rw [show k + (4 - k) = 4 by omega, hr, runFor_done ho] at this
          rw [this] at h4
          exact absurd ho h4
      refine wpAny_bind (wpAny_rule ?_)
      refine wp_drive N (m.runFor 4) (k - 4) m' ?_ ho (by omega) hq
      rw [← runFor_add (k - 4) 4 m, show 4 + (k - 4) = k by omega, hr]
theorem wp_tell {Q : PUnit → Shared → Prop} {c : Nat → Bool} {t : Nat → String} (h : Q ⟨⟩ s) : ∀ (l : List Nat), wpAny M A (forIn l PUnit.unit fun i _ => do
    if c i then rule (t i)
    pure (ForInStep.yield PUnit.unit)) Q E s
  | [] => by rw [List.forIn_nil]; exact wpAny_pure h
  | i :: l => by
    rw [List.forIn_cons]
    refine wpAny_bind ?_
    by_cases hc : c i = true
    · rw [if_pos hc]
      exact wpAny_bind (wpAny_rule (wpAny_pure (wp_tell h l)))
    · rw [if_neg hc]
      exact wpAny_pure (wp_tell h l)
theorem wp_end {m : SM} {r : Option (Nat × Nat)} (hs : Says m r) {Q : Option SM → Shared → Prop}
    (h : match r with | some (b, e) => ∀ m', m'.start = b → m'.handed = e → Q (some m') s | none => Q none s) : wpAny M A (reRunToEnd m) Q E s := by
  refine hide fun G9 bk9 => ?_
  obtain ⟨k, m', hk, hr, ho⟩ := hs
  refine bk9 ?_
  clear bk9 G9
  unfold reRunToEnd
  generalize hN : (2 : Nat) ^ 64 = N
  have hbig : 4000 < 4 * N := by rw [← hN]; decide
  have hsome : m'.outcome.isSome = true := by
    cases r with
    | none => exact by rw [show m'.outcome = some .failed from ho]; rfl
    | some p => exact by rw [show m'.outcome = some .matched from ho.1]; rfl
  refine wpAny_bind (wp_drive N m k m' hr hsome (by omega) ?_)
  refine wpAny_bind (wp_tell ?_ _)
  cases r with
  | none => rw [show m'.outcome = some .failed from ho]; exact wpAny_pure h
  | some p => rw [show m'.outcome = some .matched from ho.1]; exact wpAny_pure (h m' ho.2.1 ho.2.2)
end
structure Pat (h : Heap) (a : Addr) (code : Array Nat) : Prop where
  ex : ∃ (o : Obj) (fs : Array Value) (ca : Addr) (o2 : Obj) (items : Array Value) (n : Nat), h.get? a = some o ∧ o.data = .fields fs ∧ fs.getD 5 .none = .ref ca ∧ reRawNat (fs.getD 6 .none) = 0 ∧ reRawNat (fs.getD 2 .none) = 0 ∧
    h.get? ca = some o2 ∧ o2.data = .seq items n ∧ (items.map reRawOf).map (·.toNat) = code
theorem Pat.grow {h h' : Heap} {a : Addr} {code : Array Nat} (P : Pat h a code) (g : Grow h h') : Pat h' a code := by
  refine hide fun G9 bk9 => ?_
  obtain ⟨o, fs, ca, o2, items, n, h1, h2, h3, h4, h5, h6, h7, h8⟩ := P.ex
  refine bk9 ?_
  clear bk9 G9
  exact ⟨o, fs, ca, o2, items, n, g _ _ h1, h2, h3, h4, h5, g _ _ h6, h7, h8⟩
section
variable {M : Model} {A : Around} {E : Value → Shared → Prop} {s : Shared}
theorem wp_target {a : Addr} {code : Array Nat} {x : Str} {t : Tok} {Q : ReTarget → Shared → Prop} (P : Pat s.heap a code)
    (h : Q { pattern := .ref a, string := .str x t, code, text := x.cps, kind := 0, groups := 0, pos := 0, lim := x.cps.size } s) : wpAny M A (reWholeTarget (.ref a) (.str x t)) Q E s := by
  refine hide fun G9 bk9 => ?_
  obtain ⟨o, fs, ca, o2, items, n, h1, h2, h3, h4, h5, h6, h7, h8⟩ := P.ex
  refine bk9 ?_
  clear bk9 G9
  unfold reWholeTarget
  refine wpAny_bind (wpAny_fieldsOf h1 h2 ?_)
  show wpAny M A (do
      if (reRawNat (fs.getD 6 .none) == 0 && (0 : Nat) == 1) = true then raiseError "TypeError" "cannot use a string pattern on a bytes-like object"
      if (reRawNat (fs.getD 6 .none) == 1 && (0 : Nat) == 0) = true then raiseError "TypeError" "cannot use a bytes pattern on a string-like object"
      reNoCollectionInside (.str x t) 0
      pure { pattern := .ref a, string := .str x t, code := (← reRawItems (fs.getD 5 .none)).map (·.toNat), text := x.cps, kind := 0, groups := reRawNat (fs.getD 2 .none), pos := 0, lim := x.cps.size }) Q E s
  rw [h4, h5, h3]
  show wpAny M A (do
      reNoCollectionInside (.str x t) 0
      pure { pattern := .ref a, string := .str x t, code := (← reRawItems (.ref ca)).map (·.toNat), text := x.cps, kind := 0, groups := 0, pos := 0, lim := x.cps.size }) Q E s
  refine wpAny_bind (wpAny_pure ?_)
  unfold reRawItems
  refine wpAny_bind (wpAny_bind (wpAny_seqItems h6 h7 (wpAny_pure (wpAny_pure ?_))))
  show Q { pattern := .ref a, string := .str x t, code := (items.map reRawOf).map (·.toNat), text := x.cps, kind := 0, groups := 0, pos := 0, lim := x.cps.size } s
  rw [h8]
  exact h
end
inductive Subs (code text : Array Nat) (repl : List Nat) : Nat → List Nat → Prop
  | done {b : Nat} : b ≤ text.size → Says (PySem.Sre.forSearch code text 0 b text.size false) none → Subs code text repl b (text.extract b text.size).toList
  | next {b p e : Nat} {out : List Nat} : b ≤ p → p < e → e ≤ text.size → Says (PySem.Sre.forSearch code text 0 b text.size false) (some (p, e)) → Subs code text repl e out → Subs code text repl b ((text.extract b p).toList ++ repl ++ out)
end
section
open PySem.Builtin PySem.Builtin.Re
theorem list_push {h : Heap} {l : Addr} {xs : Array Value} (x : h.IsList l xs) (v : Value) : (h.update l (Obj.mapSeq (·.push v))).IsList l (xs.push v) := by
  refine hide fun G9 bk9 => ?_
  obtain ⟨o, ho, hc, n, hd⟩ := x
  obtain ⟨cls, dict, data, slots⟩ := o
  refine bk9 ?_
  clear bk9 G9
  cases hd
  exact ⟨_, Heap.get?_update_self _ ho rfl, hc, _, rfl⟩
theorem grow_update {h0 h : Heap} {l : Addr} {f : Obj → Obj} (g : Grow h0 h) (hl : h0.get? l = none) : Grow h0 (h.update l f) := fun b o e => by
  have hb : b ≠ l := fun q => by rw [q, hl] at e; cases e
  rw [Heap.get?_update_ne _ _ _ _ hb]; exact g b o e
noncomputable def flat (ys : List Str) : List Nat := (ys.map (·.cps.toList)).flatten
theorem strs_append {vs ws : List Value} {ys zs : List Str} (h : StrsAre vs ys) (k : StrsAre ws zs) : StrsAre (vs ++ ws) (ys ++ zs) := by
  induction h with
  | nil => exact k
  | cons y t _ ih => exact .cons y t ih
theorem strs_push {xs : Array Value} {ys : List Str} (h : StrsAre xs.toList ys) (y : Str) (t : Tok) : StrsAre (xs.push (.str y t)).toList (ys ++ [y]) := by
  rw [Array.toList_push]; exact strs_append h (.cons y t .nil)
theorem strs_len {vs : List Value} {ys : List Str} (h : StrsAre vs ys) : vs.length = ys.length := by
  induction h with
  | nil => rfl
  | cons y t _ ih => simp [ih]
theorem flat_push (ys : List Str) (y : Str) : flat (ys ++ [y]) = flat ys ++ y.cps.toList := by simp [flat]
theorem join_flat (g : Str) (hg : g.cps = #[]) (ys : List Str) : (Txt.join g ys).cps.toList = flat ys := by
  show ((ys.drop 1).foldl (fun acc p => acc ++ g.cps ++ p.cps) (ys.headD Str.empty).cps).toList = flat ys
  rw [hg]
  have key : ∀ (zs : List Str) (a : Array Nat), (zs.foldl (fun acc p => acc ++ #[] ++ p.cps) a).toList = a.toList ++ flat zs := by
    intro zs
    induction zs with
    | nil => intro a; simp [flat]
    | cons z zs ih => intro a; rw [List.foldl_cons, ih]; simp [flat]
  rw [key]
  cases ys with
  | nil => rfl
  | cons y ys => simp [flat]
theorem sum_len (ys : List Str) : (ys.map (·.length)).sum = (flat ys).length := by
  induction ys with
  | nil => rfl
  | cons y ys ih => simp only [List.map_cons, List.sum_cons, ih, flat, List.flatten_cons, List.length_append]; rfl
theorem ext_self (x : Array Nat) (b : Nat) : x.extract b b = #[] := by apply Array.ext' ; simp
theorem sizeLine_eq : sizeLine = 16777216 := rfl
section
variable {w : World} {A : Around}
theorem ext_le {x : Array Nat} {b e : Nat} (hx : x.size ≤ 900) : (x.extract b e).size ≤ sizeLine := by
  rw [Array.size_extract, sizeLine_eq]
  omega
theorem ext_len {x : Array Nat} {b e : Nat} (hx : x.size ≤ 900) : (x.extract b e).toList.length ≤ 900 := by
  rw [Array.length_toList, Array.size_extract]
  omega
theorem ext_sub {x : Array Nat} {b e : Nat} : (x.extract b e).toList.length ≤ e - b := by
  rw [Array.length_toList, Array.size_extract]
  exact Nat.sub_le_sub_right (Nat.min_le_left _ _) _
theorem sub_loop {h0 : Heap} {a l : Addr} {code : Array Nat} {x rl : Str} {t rt : Tok} (P : Pat h0 a code) (hl0 : h0.get? l = none) (hx : x.cps.size ≤ 900) (hrl : rl.cps.size = 2) :
    ∀ {b : Nat} {out : List Nat}, Subs code x.cps rl.cps.toList b out → ∀ (s : Shared) (n : Nat) (xs : Array Value) (ys : List Str) (R : Result → Shared → Prop), Grow h0 s.heap → s.heap.IsList l xs → StrsAre xs.toList ys → ys.length ≤ 2 * b → (flat ys).length ≤ 3 * b →
    (∀ h' tk z, Grow h0 h' → R (.ok (.ret (.str ⟨(flat ys ++ out).toArray⟩ z))) { s with heap := h', toks := tk }) →
    codeAny (model PySem.Challenge.rw_to0015_01.row.prog w) A (.builtin "re.Pattern.sub.loop" ⟨[.ref a, .str x t, .str rl rt, rawInt 0, rawInt 0, rawInt n, rawInt b, rawInt b, .bool false, .ref l, .bool false], []⟩) R s := by
  intro b out S
  induction S with
  | @done b hb hs =>
    intro s n xs ys R g hL hY hn hf hR
    refine codeAny_builtin entry_resubl ?_
    rw [Around.under_plainId plain_resubl]
    have hxl : xs.size = ys.length := by rw [← strs_len hY]; rfl
    show wpAny _ _ (reWholeTarget (.ref a) (.str x t) >>= fun t₀ => reNextFound t₀ b false >>= fun r => _) _ _ s
    refine wpAny_bind (wp_target (P.grow g) (wpAny_bind (wp_end hs ?_)))
    show wpAny _ _ (do
      if b < x.cps.size then updateSeq l (·.push (← reSlice x.cps 0 b x.cps.size))
      let joiner ← reSlice x.cps 0 0 0
      let text ← if ((← seqItems? (.ref l)).getD #[]).isEmpty then pure joiner else call (.builtin "str.join") [joiner, .ref l]
      ret text) _ _ s
    have rest : ∀ (s : Shared) (xs : Array Value) (ys' : List Str) , Grow h0 s.heap → s.heap.IsList l xs → StrsAre xs.toList ys' → ys'.length ≤ 2 * b + 1 → flat ys' = flat ys ++ (x.cps.extract b x.cps.size).toList →
        (∀ h' tk z, Grow h0 h' → R (.ok (.ret (.str ⟨(flat ys ++ (x.cps.extract b x.cps.size).toList).toArray⟩ z))) { s with heap := h', toks := tk }) →
        wpAny (model PySem.Challenge.rw_to0015_01.row.prog w) A.in1 (do
          let joiner ← reSlice x.cps 0 0 0
          let text ← if ((← seqItems? (.ref l)).getD #[]).isEmpty then pure joiner else call (.builtin "str.join") [joiner, .ref l]
          ret text)
          (fun fin s' => match fin with | .done f => R (.ok f) s' | .again c' => c'.quiet = true ∧ codeAny (model PySem.Challenge.rw_to0015_01.row.prog w) A c' R s') (fun e s' => R (.error e) s') s := by
      intro s xs ys' g hL hY hn' hf' hR
      have hxl : xs.size = ys'.length := by rw [← strs_len hY]; rfl
      show wpAny _ _ (mkStr ⟨x.cps.extract 0 0⟩ >>= fun joiner => _) _ _ s
      refine wpAny_bind (wpAny_mkStr ?_ (ext_le hx))
      have hL' := hL
      refine hide fun G9 bk9 => ?_
      obtain ⟨o, ho, hc, nn, hd⟩ := hL'
      refine bk9 ?_
      clear bk9 G9
      refine wpAny_bind (wpAny_seqItems (s := { s with toks := s.toks + 1 }) ho hd ?_)
      show wpAny _ _ (if xs.isEmpty = true then (pure (Value.str ⟨x.cps.extract 0 0⟩ s.toks) >>= fun text => ret text) else (call (.builtin "str.join") [Value.str ⟨x.cps.extract 0 0⟩ s.toks, .ref l] >>= fun text => ret text)) _ _ _
      by_cases hemp : xs.isEmpty = true
      · rw [if_pos hemp]
        refine wpAny_bind (wpAny_pure (wpAny_pure ?_))
        have hy0 : ys' = [] := List.eq_nil_of_length_eq_zero (by rw [← hxl]; simpa using hemp)
        have := hR s.heap (s.toks + 1) s.toks g
        rw [← hf', hy0] at this
        rw [ext_self]
        exact this
      · rw [if_neg hemp]
        refine wpAny_bind (join_list hL hY ?_ ?_)
        · have e1 : (x.cps.extract b x.cps.size).toList.length ≤ 900 := ext_len hx
          have e2 : (Str.length ⟨x.cps.extract 0 0⟩) = 0 := by show (x.cps.extract 0 0).size = 0; rw [ext_self]; rfl
          rw [sum_len, hf', List.length_append, e2]
          omega
        · intro t' k
          refine wpAny_pure ?_
          have := hR s.heap k t' g
          rw [← hf', ← join_flat ⟨x.cps.extract 0 0⟩ (by rw [ext_self])] at this
          simpa using this
    by_cases hq : b < x.cps.size
    · rw [if_pos hq]
      show wpAny _ _ (mkStr ⟨x.cps.extract b x.cps.size⟩ >>= fun y => updateSeq l (·.push y) >>= fun _ => _) _ _ s
      refine wpAny_bind (wpAny_mkStr ?_ (ext_le hx))
      have hL' := hL
      refine hide fun G9 bk9 => ?_
      obtain ⟨o, ho, hc, nn, hd⟩ := hL'
      refine bk9 ?_
      clear bk9 G9
      refine wpAny_bind (wpAny_updateSeq (s := { s with toks := s.toks + 1 }) ho hd ?_ (by rw [sizeLine_eq]; omega) (by rw [Array.size_push, sizeLine_eq]; omega))
      exact rest { s with heap := s.heap.update l (Obj.mapSeq (·.push (Value.str ⟨x.cps.extract b x.cps.size⟩ s.toks))), toks := s.toks + 1 } _ (ys ++ [⟨x.cps.extract b x.cps.size⟩]) (grow_update g hl0) (list_push hL _) (strs_push hY _ _) (by rw [List.length_append, List.length_singleton]; omega) (flat_push _ _) fun h' tk z g' => hR h' tk z g'
    · rw [if_neg hq]
      refine rest s xs ys g hL hY (by omega) ?_ hR
      rw [show x.cps.size = b by omega, ext_self, List.append_nil]
  | @next b p e out hbp hpe he hs S ih =>
    intro s n xs ys R g hL hY hn hf hR
    refine codeAny_builtin entry_resubl ?_
    rw [Around.under_plainId plain_resubl]
    show wpAny _ _ (reWholeTarget (.ref a) (.str x t) >>= fun t₀ => reNextFound t₀ b false >>= fun r => _) _ _ s
    refine wpAny_bind (wp_target (P.grow g) (wpAny_bind (wp_end hs ?_)))
    intro m hms hmh
    subst hms; subst hmh
    have hxl : xs.size = ys.length := by rw [← strs_len hY]; rfl
    show wpAny _ _ (do
      if b < m.start then updateSeq l (·.push (← reSlice x.cps 0 b m.start))
      let item ← pure (Value.str rl rt)
      if item != .none then updateSeq l (·.push item)
      again (.builtin "re.Pattern.sub.loop" ⟨[.ref a, .str x t, .str rl rt, rawInt 0, rawInt 0, rawInt ((n : Int) + 1), rawInt m.handed, rawInt m.handed, .bool (m.handed == m.start), .ref l, .bool false], []⟩)) _ _ s
    have hne : (m.handed == m.start) = false := by simpa using (by omega : m.handed ≠ m.start)
    rw [hne]
    have rest : ∀ (s : Shared) (xs : Array Value) (ys' : List Str) , Grow h0 s.heap → s.heap.IsList l xs → StrsAre xs.toList ys' → ys'.length ≤ 2 * b + 1 → flat ys' = flat ys ++ (x.cps.extract b m.start).toList →
        (∀ h' tk z, Grow h0 h' → R (.ok (.ret (.str ⟨(flat ys ++ ((x.cps.extract b m.start).toList ++ rl.cps.toList ++ out)).toArray⟩ z))) { s with heap := h', toks := tk }) →
        wpAny (model PySem.Challenge.rw_to0015_01.row.prog w) A.in1 (do
          let item ← pure (Value.str rl rt)
          if item != .none then updateSeq l (·.push item)
          again (.builtin "re.Pattern.sub.loop" ⟨[.ref a, .str x t, .str rl rt, rawInt 0, rawInt 0, rawInt ((n : Int) + 1), rawInt m.handed, rawInt m.handed, .bool false, .ref l, .bool false], []⟩))
          (fun fin s' => match fin with | .done f => R (.ok f) s' | .again c' => c'.quiet = true ∧ codeAny (model PySem.Challenge.rw_to0015_01.row.prog w) A c' R s') (fun e s' => R (.error e) s') s := by
      intro s xs ys' g hL hY hn' hf' hR
      have hxl : xs.size = ys'.length := by rw [← strs_len hY]; rfl
      show wpAny _ _ (updateSeq l (·.push (Value.str rl rt)) >>= fun _ => again (.builtin "re.Pattern.sub.loop" ⟨[.ref a, .str x t, .str rl rt, rawInt 0, rawInt 0, rawInt ((n : Int) + 1), rawInt m.handed, rawInt m.handed, .bool false, .ref l, .bool false], []⟩)) _ _ s
      have hL' := hL
      refine hide fun G9 bk9 => ?_
      obtain ⟨o, ho, hc, nn, hd⟩ := hL'
      refine bk9 ?_
      clear bk9 G9
      refine wpAny_bind (wpAny_updateSeq ho hd ?_ (by rw [sizeLine_eq]; omega) (by rw [Array.size_push, sizeLine_eq]; omega))
      refine wpAny_pure ⟨plainId_quiet plain_resubl _, ?_⟩
      have hel : (x.cps.extract b m.start).toList.length ≤ m.start - b := ext_sub
      have hrl' : rl.cps.toList.length = 2 := by rw [Array.length_toList]; exact hrl
      refine ih { s with heap := s.heap.update l (Obj.mapSeq (·.push (Value.str rl rt))) } (n + 1) (xs.push (.str rl rt)) (ys' ++ [rl]) R (grow_update g hl0) (list_push hL _) (strs_push hY _ _) (by rw [List.length_append, List.length_singleton]; omega) ?_ ?_
      · rw [flat_push, hf', List.length_append, List.length_append, hrl']; omega
      · intro h' tk z g'
        have := hR h' tk z g'
        rw [flat_push, hf']
        simpa only [List.append_assoc] using this
    by_cases hq : b < m.start
    · rw [if_pos hq]
      show wpAny _ _ (mkStr ⟨x.cps.extract b m.start⟩ >>= fun y => updateSeq l (·.push y) >>= fun _ => _) _ _ s
      refine wpAny_bind (wpAny_mkStr ?_ (ext_le hx))
      have hL' := hL
      refine hide fun G9 bk9 => ?_
      obtain ⟨o, ho, hc, nn, hd⟩ := hL'
      refine bk9 ?_
      clear bk9 G9
      refine wpAny_bind (wpAny_updateSeq (s := { s with toks := s.toks + 1 }) ho hd ?_ (by rw [sizeLine_eq]; omega) (by rw [Array.size_push, sizeLine_eq]; omega))
      exact rest { s with heap := s.heap.update l (Obj.mapSeq (·.push (Value.str ⟨x.cps.extract b m.start⟩ s.toks))), toks := s.toks + 1 } _ (ys ++ [⟨x.cps.extract b m.start⟩]) (grow_update g hl0) (list_push hL _) (strs_push hY _ _) (by rw [List.length_append, List.length_singleton]; omega) (flat_push _ _) fun h' tk z g' => hR h' tk z g'
    · rw [if_neg hq]
      refine rest s xs ys g hL hY (by omega) ?_ hR
      rw [show m.start = b by omega, ext_self, List.append_nil]
end
end
section
open PySem.Builtin PySem.Builtin.Re
theorem named_resub (id : String) (a b : Value) : reNamed id "sub" ["repl", "string", "count"] 2 [a, b] [] = pure [some a, some b, none] := rfl
section
variable {w : World} {A : Around} {E : Value → Shared → Prop}
theorem sub_call {s : Shared} {a : Addr} {code : Array Nat} {x rl : Str} {t rt : Tok} {out : List Nat} {Q : Value → Shared → Prop} (hT : s.TypeIs (.ref a) "re.Pattern") (P : Pat s.heap a code) (hx : x.cps.size ≤ 900) (hrl : rl.cps.size = 2) (h92 : rl.cps.contains 92 = false)
    (S : Subs code x.cps rl.cps.toList 0 out) (hQ : ∀ h' tk z, Grow s.heap h' → Q (.str ⟨out.toArray⟩ z) { s with heap := h', toks := tk }) :
    wpAny (model PySem.Challenge.rw_to0015_01.row.prog w) A (call (.builtin "re.Pattern.sub") [.ref a, .str rl rt, .str x t]) Q E s := by
  refine wpAny_call (codeAny_call_builtin plain_resub entry_resub (slot_resub.check _ _ _ _ _ _ _ _ hT (args_resub _ _ _) ?_))
  show wpAny _ _ (reNamed "re.Pattern.sub" "sub" ["repl", "string", "count"] 2 [.str rl rt, .str x t] [] >>= fun r => _) _ _ s
  rw [named_resub]
  refine wpAny_bind (wpAny_pure ?_)
  refine wpAny_bind (wpAny_pure ?_)
  refine wpAny_bind (wpAny_specialOf (typeIs_str _ _ _) nocall_str ?_)
  show wpAny _ _ (pure (!rl.cps.contains 92) >>= fun literal => _) _ _ s
  rw [h92]
  refine wpAny_bind (wpAny_pure ?_)
  refine wpAny_bind (wpAny_pure ?_)
  refine wpAny_bind (wpAny_pure ?_)
  refine wpAny_bind (wpAny_holding (wp_target P ?_))
  show wpAny _ _ (newList [] >>= fun v => _) _ _ s
  refine wpAny_bind (wpAny_newList ?_)
  refine wpAny_pure ⟨plainId_quiet plain_resubl _, ?_⟩
  have hn : s.heap.get? s.heap.objs.size = none := by
    cases h : s.heap.get? s.heap.objs.size with
    | none => rfl
    | some o =>
      have e := Heap.get?_push_size s.heap (o := { cls := .type "list", data := .seq ([] : List Value).toArray }) rfl
      have e2 := Heap.get?_push_of_some { cls := .type "list", data := .seq ([] : List Value).toArray } h
      refine hide fun G9 bk9 => ?_
      obtain ⟨e3, _⟩ := Heap.get?_some_iff.mp h
      have := Array.getElem?_eq_some_iff.mp e3
      obtain ⟨h1, _⟩ := this
      refine bk9 ?_
      clear bk9 G9
      omega
  refine sub_loop P hn hx hrl S _ 0 #[] [] _ (fun b o e => Heap.get?_push_of_some _ e) ⟨_, Heap.get?_push_size _ rfl, rfl, 0, rfl⟩ .nil (Nat.zero_le _) (Nat.zero_le _) ?_
  intro h' tk z g'
  exact hQ h' tk z g'
end
/-- the two regular expressions on lists of code points -/
noncomputable def norm : List Nat → List Nat
  | 13 :: 10 :: r => 13 :: 10 :: norm r
  | 13 :: r => 13 :: 10 :: norm r
  | 10 :: r => 13 :: 10 :: norm r
  | c :: r => c :: norm r
  | [] => []
noncomputable def stuff : Bool → List Nat → List Nat
  | true, 46 :: r => 46 :: 46 :: stuff false r
  | _, 10 :: r => 10 :: stuff true r
  | _, c :: r => c :: stuff false r
  | _, [] => []
theorem stuff_cons (b : Bool) (c : Nat) (r : List Nat) : stuff b (c :: r) = (if (b && c == 46) = true then [46, 46] else [c]) ++ stuff (c == 10) r := by
  by_cases h1 : c = 46
  · subst h1; cases b <;> simp [stuff]
  · by_cases h2 : c = 10
    · subst h2; cases b <;> simp [stuff]
    · have h3 : (c == 10) = false := by simpa using h2
      cases b <;> simp [stuff, h1, h3]
theorem norm_plain {c : Nat} (r : List Nat) (h : ¬ isNl c) : norm (c :: r) = c :: norm r := by
  have h1 : c ≠ 10 := fun q => h (.inl q)
  have h2 : c ≠ 13 := fun q => h (.inr q)
  rw [norm.eq_4] <;> first | exact h1 | exact h2 | (intro q; first | exact h1 q | exact h2 q) | (intros; first | exact h1 (by assumption) | exact h2 (by assumption))
theorem norm_rn (r : List Nat) : norm (13 :: 10 :: r) = 13 :: 10 :: norm r := by rw [norm]
theorem norm_n (r : List Nat) : norm (10 :: r) = 13 :: 10 :: norm r := by rw [norm]
theorem norm_r {r : List Nat} (h : ∀ c q, r = c :: q → c ≠ 10) : norm (13 :: r) = 13 :: 10 :: norm r := by
  cases r with
  | nil => rw [norm]; intro q e; cases e
  | cons c q =>
    have hc := h c q rfl
    rw [norm]
    intro r e; injection e with e1 e2; exact hc e1
theorem drop_at {text : Array Nat} {p : Nat} (h : p < text.size) : text.toList.drop p = text.getD p 0 :: text.toList.drop (p + 1) := by
  rw [List.drop_eq_getElem_cons (by simpa using h)]
  congr 1
  simp [Array.getD, h]
theorem ext_at {text : Array Nat} {b p : Nat} (h : b < p) (hp : p ≤ text.size) : (text.extract b p).toList = text.getD b 0 :: (text.extract (b + 1) p).toList := by
  rw [Array.toList_extract, Array.toList_extract, List.extract_eq_take_drop, List.extract_eq_take_drop, drop_at (by omega : b < text.size), show p - b = (p - (b + 1)) + 1 from nsub3 (by assumption), List.take_succ_cons]
theorem bol_succ (text : Array Nat) (p : Nat) : bol text (p + 1) = (text.getD p 0 == 10) := by simp [bol]
theorem stuff_run {text : Array Nat} : ∀ (d b p : Nat), p - b = d → b ≤ p → p ≤ text.size → (∀ j, b ≤ j → j < p → ¬ dot1 text j) →
    stuff (bol text b) (text.toList.drop b) = (text.extract b p).toList ++ stuff (bol text p) (text.toList.drop p)
  | 0, b, p, hd, hb, hp, hn => by
    rw [show b = p by omega, ext_self]; rfl
  | d + 1, b, p, hd, hb, hp, hn => by
    rw [drop_at (by omega : b < text.size), stuff_cons, ext_at (by omega : b < p) hp]
    have := hn b (Nat.le_refl _) (by omega)
    have hf : (bol text b && text.getD b 0 == 46) = false := by
      cases h1 : bol text b with
      | false => rfl
      | true => exact by simpa using fun q => this ⟨h1, q⟩
    rw [hf, ← bol_succ, stuff_run d (b + 1) p (by omega) (by omega) hp fun j h1 h2 => hn j (by omega) h2]
    rfl
theorem norm_run {text : Array Nat} : ∀ (d b p : Nat), p - b = d → b ≤ p → p ≤ text.size → (∀ j, b ≤ j → j < p → ¬ isNl (text.getD j 0)) →
    norm (text.toList.drop b) = (text.extract b p).toList ++ norm (text.toList.drop p)
  | 0, b, p, hd, hb, hp, hn => by
    rw [show b = p by omega, ext_self]; rfl
  | d + 1, b, p, hd, hb, hp, hn => by
    rw [drop_at (by omega : b < text.size), norm_plain _ (hn b (Nat.le_refl _) (by omega)), ext_at (by omega : b < p) hp,
      norm_run d (b + 1) p (by omega) (by omega) hp fun j h1 h2 => hn j (by omega) h2]
    rfl
theorem drop_end (text : Array Nat) : text.toList.drop text.size = [] := List.drop_eq_nil_of_le (by simp)
theorem subs1 {text : Array Nat} (hs : text.size ≤ 900) : ∀ (d b : Nat), text.size - b = d → b ≤ text.size → Subs code1 text [46, 46] b (stuff (bol text b) (text.toList.drop b)) := by
  intro d
  induction d using Nat.strongRecOn with
  | ind d ih =>
    intro b hd hb
    rcases search1 text b text.size hb hs with ⟨p, h1, h2, h3, h4, h5⟩ | ⟨h1, h2⟩
    · have x := Subs.next h1 (by omega : p < p + 1) (by omega) h5 (ih _ (by first | exact subm hd (Nat.lt_of_le_of_lt h1 h2) (Nat.lt_succ_of_le h1) | omega) (p + 1) rfl (by omega))
      rw [stuff_run _ b p rfl h1 (by omega) h4, drop_at h2, stuff_cons, h3.1, h3.2]
      rw [bol_succ, h3.2] at x
      rw [← List.append_assoc]
      exact x
    · have x := Subs.done (repl := [46, 46]) hb h2
      rw [stuff_run _ b text.size rfl hb (Nat.le_refl _) h1, drop_end]
      rw [show stuff (bol text text.size) [] = [] by cases bol text text.size <;> rfl, List.append_nil]
      exact x
theorem subs2 {text : Array Nat} : ∀ (d b : Nat), text.size - b = d → b ≤ text.size → Subs code2 text [13, 10] b (norm (text.toList.drop b)) := by
  intro d
  induction d using Nat.strongRecOn with
  | ind d ih =>
    intro b hd hb
    rcases search2 text b text.size hb with ⟨p, e, h1, h2, h3, h4, h5⟩ | ⟨h1, h2⟩
    · rw [norm_run _ b p rfl h1 (by omega) h4, drop_at h2]
      rcases h3 with ⟨g1, g2, g3, rfl⟩ | ⟨g1, g2, rfl⟩ | ⟨g1, rfl⟩
      · have x := Subs.next h1 (by omega : p < p + 2) (by omega) h5 (ih _ (by first | exact subm hd (Nat.lt_of_le_of_lt h1 h2) (Nat.lt_succ_of_lt (Nat.lt_succ_of_le h1)) | omega) (p + 2) rfl (by omega))
        rw [drop_at g2, g1, g3, norm_rn, show 13 :: 10 :: norm (text.toList.drop (p + 2)) = [13, 10] ++ norm (text.toList.drop (p + 2)) from rfl, ← List.append_assoc]
        exact x
      · have x := Subs.next h1 (by omega : p < p + 1) (by omega) h5 (ih _ (by first | exact subm hd (Nat.lt_of_le_of_lt h1 h2) (Nat.lt_succ_of_le h1) | omega) (p + 1) rfl (by omega))
        rw [g1, norm_r, show 13 :: 10 :: norm (text.toList.drop (p + 1)) = [13, 10] ++ norm (text.toList.drop (p + 1)) from rfl, ← List.append_assoc]
        · exact x
        · intro c q he
          rcases g2 with g2 | g2
          · rw [List.drop_eq_nil_of_le (by simpa using g2)] at he; cases he
          · by_cases hp : p + 1 < text.size
            · rw [drop_at hp] at he; injection he with e1 e2; rw [← e1]; exact g2
            · rw [List.drop_eq_nil_of_le (by simpa using hp)] at he; cases he
      · have x := Subs.next h1 (by omega : p < p + 1) (by omega) h5 (ih _ (by first | exact subm hd (Nat.lt_of_le_of_lt h1 h2) (Nat.lt_succ_of_le h1) | omega) (p + 1) rfl (by omega))
        rw [g1, norm_n, show 13 :: 10 :: norm (text.toList.drop (p + 1)) = [13, 10] ++ norm (text.toList.drop (p + 1)) from rfl, ← List.append_assoc]
        exact x
    · have x := Subs.done (repl := [13, 10]) hb h2
      rw [norm_run _ b text.size rfl hb (Nat.le_refl _) h1, drop_end]
      rw [show norm [] = [] from rfl, List.append_nil]
      exact x
end
section
open PySem.Builtin PySem.Builtin.Re
theorem norm_len : ∀ (n : Nat) (l : List Nat), l.length ≤ n → (norm l).length ≤ 2 * n
  | 0, l, h => by
    have e : l = [] := List.eq_nil_of_length_eq_zero (by omega)
    rw [e]; simp [norm]
  | n + 1, l, h => by
    match l with
    | [] => simp [norm]
    | c :: r =>
      have hr : r.length ≤ n := by simpa using h
      by_cases h1 : c = 10
      · subst h1; rw [norm_n]; have := norm_len n r hr; simp only [List.length_cons]; omega
      · by_cases h2 : c = 13
        · subst h2
          match r, hr with
          | 10 :: q, hr => rw [norm_rn]; have := norm_len n q (by simp at hr; omega); simp only [List.length_cons]; omega
          | [], hr => simp [norm]; omega
          | d :: q, hr =>
            by_cases h3 : d = 10
            · subst h3; rw [norm_rn]; have := norm_len n q (by simp at hr; omega); simp only [List.length_cons]; omega
            · rw [norm_r (by intro c' q' e; injection e with e1 e2; rw [← e1]; exact h3)]; have := norm_len n (d :: q) hr; simp only [List.length_cons]; omega
        · rw [norm_plain _ (fun q => q.elim h1 h2)]; have := norm_len n r hr; simp only [List.length_cons]; omega
theorem t_quote (w : World) (a : Str) (t : Tok) : Tells w 8 90 [.str a t] (fun _ => a.cps.size ≤ 60) (fun _ _ v => ∃ z, v = .str ⟨(stuff true (norm a.cps.toList)).toArray⟩ z) := by
  intro dp un gd outer s fit hpre hd hu
  (have hX := fit.X; revert hX; k_fill; intro hX)
  k_dflt (refine enter_plain (binds := [(Str.ofString "data", .str a t)]) (by assumption) (by k_is) (by k_is) (by omega) (BindsTo.of_eq rfl) (locs rfl) ?_ (by decide) rfl rfl rfl; intro p loose mean mg mb base L' h₁ eL' B F' N' X' T'; (try dsimp only); (try k_fold))
  k_steps
  refine getMethod_builtin (T := "re.Pattern") (id := "re.Pattern.sub") ⟨_, F'.keep _ _ (X' 78 _ rfl), rfl⟩ plain_re slot_resub type_resub (fun q hq => by cases hq; exact ⟨_, F'.keep _ _ (X' 78 _ rfl), rfl⟩) ?_
  k_steps
  refine getMethod_builtin (T := "re.Pattern") (id := "re.Pattern.sub") ⟨_, F'.keep _ _ (X' 83 _ rfl), rfl⟩ plain_re slot_resub type_resub (fun q hq => by cases hq; exact ⟨_, F'.keep _ _ (X' 83 _ rfl), rfl⟩) ?_
  k_steps
  have P2 : Pat h₁ 83 code2 := ⟨_, _, 82, _, _, _, F'.keep _ _ (X' 83 _ rfl), rfl, rfl, rfl, rfl, F'.keep _ _ (X' 82 _ rfl), rfl, by decide +kernel⟩
  have P1 : Pat h₁ 78 code1 := ⟨_, _, 77, _, _, _, F'.keep _ _ (X' 78 _ rfl), rfl, rfl, rfl, rfl, F'.keep _ _ (X' 77 _ rfl), rfl, by decide +kernel⟩
  refine sub_call (code := code2) (out := norm a.cps.toList) ⟨_, F'.keep _ _ (X' 83 _ rfl), rfl⟩ P2 (by omega) rfl (by decide +kernel) (subs2 (text := a.cps) _ 0 rfl (Nat.zero_le _)) ?_
  intro h2 tk2 z2 g2
  have F2 := Fr.keeps F' g2
  have N2 := News.grown N' g2
  k_steps
  have hsz : (norm a.cps.toList).toArray.size ≤ 900 := by
    have h7 := norm_len _ a.cps.toList (Nat.le_refl _)
    have h8 : a.cps.toList.length = a.cps.size := Array.length_toList
    have h9 : (norm a.cps.toList).toArray.size = (norm a.cps.toList).length := List.size_toArray ..
    omega
  refine sub_call (code := code1) (out := stuff true (norm a.cps.toList)) ⟨_, F2.keep _ _ (X' 78 _ rfl), rfl⟩ (P1.grow g2) hsz rfl (by decide +kernel) ?_ ?_
  · exact (subs1 (text := (norm a.cps.toList).toArray) hsz _ 0 rfl (Nat.zero_le _))
  intro h3 tk3 z3 g3
  have F3 := Fr.keeps F2 g3
  exact fun ht => out_of F3 ht ⟨_, rfl⟩
end
section
noncomputable def lists : Nat → List (List (Fin 6))
  | 0 => [[]]
  | n + 1 => (lists n).flatMap fun l => [0 :: l, 1 :: l, 2 :: l, 3 :: l, 4 :: l, 5 :: l]
theorem all6 : ∀ c : Fin 6, c ∈ ([0, 1, 2, 3, 4, 5] : List (Fin 6)) := by decide
theorem mem_lists : ∀ (cs : List (Fin 6)), cs ∈ lists cs.length
  | [] => List.mem_singleton.mpr rfl
  | c :: l => List.mem_flatMap.mpr ⟨l, mem_lists l, (List.mem_map_of_mem (f := fun c => c :: l) (all6 c) : c :: l ∈ [0, 1, 2, 3, 4, 5].map fun c => c :: l)⟩
noncomputable def mailOf (cs : List (Fin 6)) : Str := Txt.join (Str.ofString "") (cs.map piece)
noncomputable def quoZ (a : Str) : Str := ⟨(stuff true (norm a.cps.toList)).toArray⟩
noncomputable def kindsZ (a : Str) : List Int := [52, 23, 27, 22].map fun k => (((readZ a a.length 0).filter (· == k)).length : Int)
noncomputable def countsZ (a : Str) : List Int := [Txt.count a (Str.ofString "..."), (Txt.count a (Str.ofString ".") : Int) - 3 * (Txt.count a (Str.ofString "...")), Txt.count a (Str.ofString "=="), (Txt.count a (Str.ofString "=") : Int) - 2 * (Txt.count a (Str.ofString "=="))]
noncomputable def eqL : List Nat → List Nat → Bool
  | [], [] => true
  | a :: r, b :: q => match Nat.beq a b with
    | true => eqL r q
    | false => false
  | _, _ => false
theorem eqL_eq : ∀ (a b : List Nat), eqL a b = decide (a = b)
  | [], [] => rfl
  | [], _ :: _ => rfl
  | _ :: _, [] => rfl
  | a :: r, b :: q => by
    unfold eqL
    rw [eqL_eq r q]
    cases h : Nat.beq a b with
    | true =>
      have := Nat.eq_of_beq_eq_true h
      subst this
      simp
    | false =>
      have hne : a ≠ b := Nat.ne_of_beq_eq_false h
      simp [hne]
theorem str_eqL (x y : Str) : (x == y) = eqL x.cps.toList y.cps.toList := by
  rw [eqL_eq]
  by_cases h : x = y
  · subst h; simp
  · have h2 : x.cps.toList ≠ y.cps.toList := fun e => h (by cases x; cases y; simp only [Str.mk.injEq]; exact Array.toList_inj.mp e)
    rw [decide_eq_false h2]
    exact beq_eq_false_iff_ne.mpr h
noncomputable def litL : List (List Nat × Int) := [([33], 54), ([33, 61], 28), ([37], 24), ([37, 61], 40), ([38], 19), ([38, 61], 41), ([40], 7), ([41], 8), ([42], 16), ([42, 42], 35), ([42, 42, 61], 46), ([42, 61], 38), ([43], 14), ([43, 61], 36), ([44], 12), ([45], 15), ([45, 61], 37), ([45, 62], 51), ([46], 23), ([46, 46, 46], 52), ([47], 17), ([47, 47], 47), ([47, 47, 61], 48), ([47, 61], 39), ([58], 11), ([58, 61], 53), ([59], 13), ([60], 20), ([60, 60], 33), ([60, 60, 61], 44), ([60, 61], 29), ([61], 22), ([61, 61], 27), ([62], 21), ([62, 61], 30), ([62, 62], 34), ([62, 62, 61], 45), ([64], 49), ([64, 61], 50), ([91], 9), ([93], 10), ([94], 32), ([94, 61], 43), ([123], 25), ([124], 18), ([124, 61], 42), ([125], 26), ([126], 31)]
noncomputable def tokL : List (List Nat × Int) → List Nat → Option Int
  | [], _ => none
  | p :: r, x => match eqL x p.1 with
    | true => some p.2
    | false => tokL r x
theorem tokL_eq (x : Str) : ∀ l : List (Str × Int), tokIn l x = tokL (l.map fun p => (p.1.cps.toList, p.2)) x.cps.toList
  | [] => rfl
  | p :: r => by
    have ih := tokL_eq x r
    unfold tokIn at ih ⊢
    rw [List.map_cons, tokL, List.find?_cons, ← str_eqL]
    cases h : x == p.1 with
    | true => rfl
    | false => exact ih
theorem tok_lit : (tokList.map fun p => (p.1.cps.toList, p.2)) = litL := by decide +kernel
theorem tokZ_eq (x : Str) : tokZ x = tokL litL x.cps.toList := by
  unfold tokZ
  rw [tokL_eq, tok_lit]
noncomputable def cutL (a : List Nat) (p k : Nat) : List Nat := (a.drop p).take k
theorem cut_eq (a : Str) (p : Nat) (k : Nat) : (cut a p k).cps.toList = cutL a.cps.toList p k := cut_eq0 a p k
noncomputable def tokQ (a : List Nat) : Option Int := match a with
  | [] => none
  | c :: r => match Nat.beq c 46 with
    | true => tokL [([], 23), ([46, 46], 52)] r
    | false => match Nat.beq c 61 with
      | true => tokL [([], 22), ([61], 27)] r
      | false => match Nat.beq c 10 with
        | true => none
        | false => match Nat.beq c 13 with
          | true => none
          | false => tokL litL (c :: r)
theorem tokQ_eq (a : List Nat) : tokL litL a = tokQ a := by
  cases a with
  | nil => rfl
  | cons c r =>
    unfold tokQ
    cases h : Nat.beq c 46 with
    | true =>
      obtain rfl := Nat.eq_of_beq_eq_true h
      rfl
    | false =>
      cases h : Nat.beq c 61 with
      | true =>
        obtain rfl := Nat.eq_of_beq_eq_true h
        rfl
      | false =>
        cases h : Nat.beq c 10 with
        | true =>
          obtain rfl := Nat.eq_of_beq_eq_true h
          rfl
        | false =>
          cases h : Nat.beq c 13 with
          | true =>
            obtain rfl := Nat.eq_of_beq_eq_true h
            rfl
          | false => simp only [*]
noncomputable def wideF (a : List Nat) : Nat := match tokQ (a.take 3) with
  | some _ => 3
  | none => match tokQ (a.take 2) with
    | some _ => 2
    | none => 1
noncomputable def readF : Nat → List Nat → List Int
  | 0, _ => []
  | _, [] => []
  | n + 1, a => (tokQ (a.take (wideF a))).getD 0 :: readF n (a.drop (wideF a))
theorem wide_eq (a : Str) (p : Nat) : wideZ a p = wideF (a.cps.toList.drop p) := by
  unfold wideZ wideF
  rw [tokZ_eq, tokZ_eq, show (3 : Int) = ((3 : Nat) : Int) from rfl, show (2 : Int) = ((2 : Nat) : Int) from rfl, cut_eq, cut_eq, tokQ_eq, tokQ_eq]
  unfold cutL
  cases tokQ (List.take 3 (List.drop p a.cps.toList)) with
  | some _ => rfl
  | none =>
    cases tokQ (List.take 2 (List.drop p a.cps.toList)) with
    | some _ => rfl
    | none => rfl
theorem read_eq (a : Str) : ∀ n p, readZ a n p = readF n (a.cps.toList.drop p)
  | 0, p => by rw [readZ]; cases a.cps.toList.drop p <;> rfl
  | n + 1, p => by
    rw [readZ]
    have hl : a.length = a.cps.toList.length := by simp [Str.length]
    by_cases h : p < a.length
    · rw [if_pos h, read_eq a n, tokZ_eq, cut_eq, wide_eq, tokQ_eq]
      refine hide fun G9 bk9 => ?_
      obtain ⟨c, r, e⟩ : ∃ c r, a.cps.toList.drop p = c :: r := by
        cases e : a.cps.toList.drop p with
        | nil => have := List.drop_eq_nil_iff.mp e; omega
        | cons c r => exact ⟨c, r, rfl⟩
      refine bk9 ?_
      clear bk9 G9
      unfold cutL
      rw [← List.drop_drop, e]
      rfl
    · rw [if_neg h, List.drop_eq_nil_of_le (by omega)]
      rfl
theorem read_len (a : Str) : ∀ n p, (readZ a n p).length ≤ n
  | 0, p => Nat.le_of_eq (by rw [readZ]; rfl)
  | n + 1, p => by
    rw [readZ]
    split
    · exact Nat.succ_le_succ (read_len a n _)
    · exact Nat.zero_le _
open PySem.Builtin PySem.Builtin.Str
noncomputable def occL (y : List Nat) (w : Nat) : Nat → Nat → List Nat → List Nat
  | _, _, [] => []
  | i, f, c :: r => match Nat.ble f i && eqL ((c :: r).take w) y with
    | true => i :: occL y w (i + 1) (i + w) r
    | false => occL y w (i + 1) f r
theorem occ_run (x y : Str) (hy : 0 < y.length) : ∀ (n i : Nat) (st : Array Nat × Nat), i + n = x.length + 1 → st.fst.size ≤ i →
    (forIn (List.range' i n) st (StrLaws.occBody x y x.length (x.length + 1))).run.fst.toList = st.fst.toList ++ occL y.cps.toList y.length i st.snd (x.cps.toList.drop i)
  | 0, i, st, h, _ => by
    rw [List.drop_eq_nil_of_le (by show x.cps.toList.length ≤ i; rw [Array.length_toList]; exact Nat.le_trans (Nat.le_succ _) (Nat.le_of_eq h.symm))]
    simp [occL]
  | n + 1, i, st, h, hs => by
    have hl : x.length = x.cps.toList.length := by simp [Str.length]
    have e : i + 1 + n = x.length + 1 := by omega
    rw [List.range'_succ, List.forIn_cons]
    unfold StrLaws.occBody
    by_cases hi : i = x.length
    · rw [List.drop_eq_nil_of_le (Nat.le_of_eq (hl.symm.trans hi.symm)), if_neg (fun q => by have := q.1.2; omega)]
      have := occ_run x y hy n (i + 1) st e (Nat.le_succ_of_le hs)
      rw [List.drop_eq_nil_of_le (Nat.le_succ_of_le (Nat.le_of_eq (hl.symm.trans hi.symm)))] at this
      exact this
    · refine hide fun G9 bk9 => ?_
      obtain ⟨c, r, er⟩ : ∃ c r, x.cps.toList.drop i = c :: r := by
        cases er : x.cps.toList.drop i with
        | nil => have := List.drop_eq_nil_iff.mp er; omega
        | cons c r => exact ⟨c, r, rfl⟩
      refine bk9 ?_
      clear bk9 G9
      have ed : x.cps.toList.drop (i + 1) = r := by rw [← List.drop_drop, er]; rfl
      rw [er, occL, eqL_eq]
      have hsub : subAt x y i = decide ((c :: r).take y.length = y.cps.toList) := by
        rw [StrLaws.subAt_eq, er]
        exact (Bool.beq_eq_decide_eq _ _)
      by_cases hc : st.snd ≤ i ∧ (c :: r).take y.length = y.cps.toList
      · have hw : i + y.length ≤ x.length := by
          have h1 : y.length = ((c :: r).take y.length).length := by rw [hc.2]; simp [Str.length]
          have h2 : (c :: r).length = x.length - i := by rw [← er, List.length_drop, hl]
          rw [List.length_take] at h1
          omega
        rw [if_pos ⟨⟨⟨by omega, hc.1⟩, hw⟩, hsub.trans (decide_eq_true hc.2)⟩, decide_eq_true hc.2, Nat.ble_eq_true_of_le hc.1]
        have := occ_run x y hy n (i + 1) (st.fst.push i, i + y.length) e (by rw [Array.size_push]; exact Nat.succ_le_succ hs)
        rw [ed] at this
        refine this.trans ?_
        simp
      · have hb : (Nat.ble st.snd i && decide ((c :: r).take y.length = y.cps.toList)) = false := by
          rw [Bool.and_eq_false_iff]
          by_cases h1 : st.snd ≤ i
          · exact .inr (decide_eq_false fun h2 => hc ⟨h1, h2⟩)
          · exact .inl (by cases hh : Nat.ble st.snd i with
              | false => rfl
              | true => exact absurd (Nat.le_of_ble_eq_true hh) h1)
        rw [if_neg (fun q => hc ⟨q.1.1.2, of_decide_eq_true (hsub.symm.trans q.2)⟩), hb]
        have := occ_run x y hy n (i + 1) st e (Nat.le_succ_of_le hs)
        rw [ed] at this
        exact this
theorem occ_list (x y : Str) (hy : 0 < y.length) : occurrences x y 0 x.length (x.length + 1) = occL y.cps.toList y.length 0 0 x.cps.toList := by
  rw [StrLaws.occ_eq]
  exact (occ_run x y hy (x.length + 1) 0 (#[], 0) (Nat.zero_add _) (Nat.le_refl 0)).trans rfl
noncomputable def catL (sep : List Nat) : List (List Nat) → List Nat
  | [] => []
  | [x] => x
  | x :: y :: r => x ++ (sep ++ catL sep (y :: r))
theorem join_list (sep : Str) : ∀ l : List Str, (Txt.join sep l).cps.toList = catL sep.cps.toList (l.map fun p => p.cps.toList) := fun l => by
  show (glued sep l).cps.toList = _
  rw [StrLaws.glued_eq_join]
  exact go sep l
where
  go (sep : Str) : ∀ l : List Str, (Str.join sep l).cps.toList = catL sep.cps.toList (l.map fun p => p.cps.toList)
  | [] => rfl
  | [x] => rfl
  | x :: y :: r => by
    show (x ++ sep ++ Str.join sep (y :: r)).cps.toList = _
    rw [Str.append_assoc, Str.cps_append, Str.cps_append, Array.toList_append, Array.toList_append, go sep (y :: r)]
    rfl
noncomputable def partsL (x : List Nat) (w : Nat) : Nat → List Nat → List (List Nat)
  | a, [] => [x.drop a]
  | a, c :: r => (x.drop a).take (c - a) :: partsL x w (c + w) r
theorem parts_list (x : Str) (w : Nat) : ∀ (cuts : List Nat) (a : Nat), (StrLaws.partsFrom x w a cuts).map (fun p => p.cps.toList) = partsL x.cps.toList w a cuts
  | [], a => by
    show [(strSub x a x.length).cps.toList] = [_]
    rw [StrLaws.strSub_toList, List.take_of_length_le (by rw [List.length_drop, Array.length_toList]; exact Nat.le_refl _)]
  | c :: r, a => by
    show (strSub x a c).cps.toList :: (StrLaws.partsFrom x w (c + w) r).map (fun p => p.cps.toList) = _
    rw [StrLaws.strSub_toList, parts_list x w r]
    rfl
noncomputable def replL (y z : List Nat) (w : Nat) (x : List Nat) : List Nat := match occL y w 0 0 x with
  | [] => x
  | c :: r => catL z (partsL x w 0 (c :: r))
theorem repl_list (x y z : Str) (hy : 0 < y.length) : (Txt.replace x y z).cps.toList = replL y.cps.toList z.cps.toList y.length x.cps.toList := by
  unfold Txt.replace replL
  rw [occ_list x y hy, show (y.length == 0) = false from beq_false_of_ne (Nat.ne_of_gt hy), Bool.false_and, Bool.or_false]
  cases occL y.cps.toList y.length 0 0 x.cps.toList with
  | nil => rfl
  | cons c r =>
    show (glued z (partsBetween x (c :: r) y.length)).cps.toList = _
    rw [StrLaws.partsBetween_eq]
    exact (join_list z _).trans (congrArg (catL z.cps.toList) (parts_list x y.length (c :: r) 0))
noncomputable def splitL (x : List Nat) : List (List Nat) := match occL [10] 1 0 0 x with
  | [] => [x]
  | c :: r => partsL x 1 0 (c :: r)
theorem split_list (x : Str) : (Txt.split x (Str.ofString "\n")).map (fun p => p.cps.toList) = splitL x.cps.toList := by
  have hy : (Str.ofString "\n").cps.toList = [10] := by decide +kernel
  have hw : (Str.ofString "\n").length = 1 := by decide +kernel
  have hk : Builtin.Str.strKind (Str.ofString "\n") = 1 := by decide +kernel
  have ho := occ_list x (Str.ofString "\n") (by rw [hw]; exact Nat.one_pos)
  rw [hy, hw] at ho
  have h1 : 1 ≤ Builtin.Str.strKind x := by unfold Builtin.Str.strKind; split <;> (try split) <;> decide
  unfold Txt.split splitL
  rw [hw, hk, ho, show decide (Builtin.Str.strKind x < 1) = false from decide_eq_false (Nat.not_lt.mpr h1), Bool.or_false]
  cases hx : decide (x.length < 1) with
  | true =>
    have e : x.cps.toList = [] := List.eq_nil_of_length_eq_zero (by have := of_decide_eq_true hx; rw [Array.length_toList]; exact Nat.lt_one_iff.mp this)
    rw [e]
    show [x.cps.toList] = _
    rw [e]; rfl
  | false =>
    cases occL [10] 1 0 0 x.cps.toList with
    | nil => rfl
    | cons c r =>
      show (partsBetween x (c :: r) 1).map (fun p => p.cps.toList) = _
      rw [StrLaws.partsBetween_eq]
      exact parts_list x 1 (c :: r) 0
noncomputable def dotL : List Nat → List Nat
  | [] => []
  | c :: r => match Nat.beq c 46 with
    | true => 46 :: c :: r
    | false => c :: r
theorem dot_list (x : Str) : (dotted x).cps.toList = dotL x.cps.toList := by
  have hd : (Str.ofString ".").cps.toList = [46] := by decide +kernel
  unfold dotted
  cases e : x.cps.toList with
  | nil =>
    have ex : x = ⟨#[]⟩ := by cases x; simp only [Str.mk.injEq]; exact Array.toList_inj.mp e
    subst ex
    rfl
  | cons c r =>
    have hl : (1 : Int) ≤ x.cps.toList.length := by rw [e, List.length_cons]; omega
    have hs : Txt.slice x none (some 1) = ⟨#[c]⟩ := (eq_of_beq (slice_closes_to (x := x) (j := 1) ⟨by decide, hl⟩)).trans (by rw [e]; rfl)
    rw [hs, str_eqL, hd]
    show (if eqL [c] [46] = true then _ else _ : Str).cps.toList = _
    unfold eqL dotL
    cases h : Nat.beq c 46 with
    | true =>
      show (Str.ofString "." ++ x).cps.toList = _
      rw [Str.cps_append, Array.toList_append, hd, e]
      simp only [h]
      rfl
    | false =>
      simp only [h]
      exact e
noncomputable def rowsL (a : List Nat) : List (List Nat) := splitL (replL [13] [10] 1 (replL [13, 10] [10] 2 a))
noncomputable def sentL (a : List Nat) : List Nat := catL [13, 10] ((rowsL a).map dotL)
theorem crlf_list : (Str.ofString "\r\n").cps.toList = [13, 10] ∧ (Str.ofString "\n").cps.toList = [10] ∧ (Str.ofString "\r").cps.toList = [13] ∧ (Str.ofString "\r\n").length = 2 ∧ (Str.ofString "\r").length = 1 := by decide +kernel
theorem rep1_list (x : Str) : (Txt.replace x (Str.ofString "\r\n") (Str.ofString "\n")).cps.toList = replL [13, 10] [10] 2 x.cps.toList := by
  refine hide fun G9 bk9 => ?_
  obtain ⟨h1, h2, _, h4, _⟩ := crlf_list
  refine bk9 ?_
  clear bk9 G9
  rw [repl_list _ _ _ (by rw [h4]; decide), h1, h2, h4]
theorem rep2_list (x : Str) : (Txt.replace x (Str.ofString "\r") (Str.ofString "\n")).cps.toList = replL [13] [10] 1 x.cps.toList := by
  refine hide fun G9 bk9 => ?_
  obtain ⟨_, h2, h3, _, h5⟩ := crlf_list
  refine bk9 ?_
  clear bk9 G9
  rw [repl_list _ _ _ (by rw [h5]; decide), h2, h3, h5]
theorem rows_list (a : Str) : (rowsOf a).map (fun p => p.cps.toList) = rowsL a.cps.toList := by
  unfold rowsOf rowsL
  rw [split_list, rep2_list, rep1_list]
theorem dots_list (l : List Str) : (l.map dotted).map (fun p => p.cps.toList) = (l.map fun p => p.cps.toList).map dotL := by
  rw [List.map_map, List.map_map]
  exact List.map_congr_left fun x _ => dot_list x
theorem sent_list (a : Str) : (sentZ a).cps.toList = sentL a.cps.toList := by
  unfold sentZ sentL
  rw [join_list, crlf_list.1, dots_list, rows_list]
noncomputable def countsL (u : List Nat) : List Int := [((occL [46, 46, 46] 3 0 0 u).length : Int), ((occL [46] 1 0 0 u).length : Int) - 3 * ((occL [46, 46, 46] 3 0 0 u).length : Int), ((occL [61, 61] 2 0 0 u).length : Int), ((occL [61] 1 0 0 u).length : Int) - 2 * ((occL [61, 61] 2 0 0 u).length : Int)]
theorem counts_list (a : Str) : countsZ a = countsL a.cps.toList := by
  have h1 : (Str.ofString "...").cps.toList = [46, 46, 46] ∧ (Str.ofString "...").length = 3 := by decide +kernel
  have h2 : (Str.ofString ".").cps.toList = [46] ∧ (Str.ofString ".").length = 1 := by decide +kernel
  have h3 : (Str.ofString "==").cps.toList = [61, 61] ∧ (Str.ofString "==").length = 2 := by decide +kernel
  have h4 : (Str.ofString "=").cps.toList = [61] ∧ (Str.ofString "=").length = 1 := by decide +kernel
  have o1 := occ_list a (Str.ofString "...") (by rw [h1.2]; decide)
  have o2 := occ_list a (Str.ofString ".") (by rw [h2.2]; decide)
  have o3 := occ_list a (Str.ofString "==") (by rw [h3.2]; decide)
  have o4 := occ_list a (Str.ofString "=") (by rw [h4.2]; decide)
  rw [h1.1, h1.2] at o1
  rw [h2.1, h2.2] at o2
  rw [h3.1, h3.2] at o3
  rw [h4.1, h4.2] at o4
  unfold countsZ countsL Txt.count
  rw [o1, o2, o3, o4]
noncomputable def kindsL (u : List Nat) : List Int := [52, 23, 27, 22].map fun k => (((readF u.length u).filter (· == k)).length : Int)
theorem kinds_list (a : Str) : kindsZ a = kindsL a.cps.toList := by
  unfold kindsZ kindsL
  simp only [read_eq, List.drop_zero]
  rw [show a.length = a.cps.toList.length from (by simp [Str.length])]
noncomputable def pieceL (c : Fin 6) : List Nat := match c with
  | 0 => [46]
  | 1 => [46, 46]
  | 2 => [61]
  | 3 => [61, 61]
  | 4 => [10]
  | 5 => [13]
noncomputable def mailL : List (Fin 6) → List Nat
  | [] => []
  | c :: r => pieceL c ++ mailL r
theorem piece_list : ∀ c : Fin 6, (piece c).cps.toList = pieceL c := by decide +kernel
theorem cat_nil : ∀ l : List (Fin 6), catL [] (l.map pieceL) = mailL l
  | [] => rfl
  | [c] => (List.append_nil _).symm
  | c :: d :: r => congrArg (pieceL c ++ ·) (cat_nil (d :: r))
theorem mail_list (cs : List (Fin 6)) : (mailOf cs).cps.toList = mailL cs := by
  unfold mailOf
  rw [join_list, show (Str.ofString "").cps.toList = [] by decide +kernel, List.map_map, ← cat_nil]
  exact congrArg (catL []) (List.map_congr_left fun c _ => piece_list c)
noncomputable def goodL (a u : List Nat) : Bool := eqL (sentL a) u && (kindsL u == countsL u && (Nat.ble u.length 40 && (u.all (fun c => Nat.ble c 255) && (Nat.ble a.length 40 && (Nat.ble (replL [13, 10] [10] 2 a).length 1000 && (Nat.ble (replL [13] [10] 1 (replL [13, 10] [10] 2 a)).length 1000 &&
  Nat.ble ((((rowsL a).map dotL).map (·.length)).sum + (rowsL a).length * 2) 100000))))))
noncomputable def allF (cs : List (Fin 6)) : Bool := goodL (mailL cs) (stuff true (norm (mailL cs)))
theorem ok2 : (lists 2).all allF = true := by decide +kernel
end
section
theorem ok3 : (lists 3).all allF = true := by decide +kernel
theorem ok4_0 : (lists 3).all (fun l => allF (0 :: l)) = true := by decide +kernel
theorem ok4_1 : (lists 3).all (fun l => allF (1 :: l)) = true := by decide +kernel
theorem ok4_2 : (lists 3).all (fun l => allF (2 :: l)) = true := by decide +kernel
theorem ok4_3 : (lists 3).all (fun l => allF (3 :: l)) = true := by decide +kernel
theorem ok4_4 : (lists 3).all (fun l => allF (4 :: l)) = true := by decide +kernel
theorem ok4_5 : (lists 3).all (fun l => allF (5 :: l)) = true := by decide +kernel
end
section
structure MailOk (m : Str) : Prop where
  a : m.length ≤ 40
  b : (Txt.replace m (Str.ofString "\r\n") (Str.ofString "\n")).length ≤ 1000
  c : (Txt.replace (Txt.replace m (Str.ofString "\r\n") (Str.ofString "\n")) (Str.ofString "\r") (Str.ofString "\n")).length ≤ 1000
  d : (((rowsOf m).map dotted).map (·.length)).sum + (rowsOf m).length * 2 ≤ 100000
  e : quoZ m = sentZ m
  f : (sentZ m).length ≤ 40
  g : kindsZ (sentZ m) = countsZ (sentZ m)
  i : ∀ z ∈ countsZ (sentZ m), 0 ≤ z ∧ z ≤ 1000
  j : PyData.strOk (sentZ m) = true
theorem all_ok : ∀ (cs : List (Fin 6)), 2 ≤ cs.length ∧ cs.length ≤ 4 → allF cs = true
  | [], h => absurd h.1 (by decide)
  | c :: r, h => by
    have h1 : r.length + 1 = (c :: r).length := rfl
    have hm := mem_lists r
    have hM := mem_lists (c :: r)
    rcases (by omega : r.length = 1 ∨ r.length = 2 ∨ r.length = 3) with hl | hl | hl
    · rw [← h1, hl] at hM
      exact List.all_eq_true.mp ok2 _ hM
    · rw [← h1, hl] at hM
      exact List.all_eq_true.mp ok3 _ hM
    · rw [hl] at hm
      revert c
      exact fun c _ _ _ => (show ∀ c : Fin 6, allF (c :: r) = true by
        simp only [Fin.forall_fin_succ]
        exact ⟨List.all_eq_true.mp ok4_0 r hm, List.all_eq_true.mp ok4_1 r hm, List.all_eq_true.mp ok4_2 r hm, List.all_eq_true.mp ok4_3 r hm, List.all_eq_true.mp ok4_4 r hm, List.all_eq_true.mp ok4_5 r hm, fun i => i.elim0⟩) c
theorem len_of (a : Str) : a.length = a.cps.toList.length := by simp [Str.length]
theorem lens_of (l : List Str) : l.map (·.length) = (l.map fun p => p.cps.toList).map (·.length) := by
  rw [List.map_map]
  exact List.map_congr_left fun x _ => len_of x
theorem mail_ok (cs : List (Fin 6)) (h : 2 ≤ cs.length ∧ cs.length ≤ 4) : MailOk (mailOf cs) := by
  have H := all_ok cs h
  unfold allF goodL at H
  simp only [Bool.and_eq_true] at H
  refine hide fun G9 bk9 => ?_
  obtain ⟨H1, H2, H3, H4, H5, H6, H7, H8⟩ := H
  refine bk9 ?_
  clear bk9 G9
  rw [eqL_eq] at H1
  have e1 : (sentZ (mailOf cs)).cps.toList = stuff true (norm (mailL cs)) := by rw [sent_list, mail_list]; exact of_decide_eq_true H1
  have hg : kindsZ (sentZ (mailOf cs)) = countsZ (sentZ (mailOf cs)) := by rw [kinds_list, counts_list, e1]; exact eq_of_beq H2
  have hf : (sentZ (mailOf cs)).length ≤ 40 := by rw [len_of, e1]; exact Nat.le_of_ble_eq_true H3
  refine ⟨?_, ?_, ?_, ?_, ?_, hf, hg, fun z hz => ?_, ?_⟩
  · rw [len_of, mail_list]; exact Nat.le_of_ble_eq_true H5
  · rw [len_of, rep1_list, mail_list]; exact Nat.le_of_ble_eq_true H6
  · rw [len_of, rep2_list, rep1_list, mail_list]; exact Nat.le_of_ble_eq_true H7
  · have er : (rowsOf (mailOf cs)).length = (rowsL (mailL cs)).length := by rw [← mail_list, ← rows_list, List.length_map]
    rw [lens_of, dots_list, rows_list, er, mail_list]; exact Nat.le_of_ble_eq_true H8
  · unfold quoZ
    rw [mail_list, ← e1, Array.toArray_toList]
  · rw [← hg] at hz
    refine hide fun G9 bk9 => ?_
    obtain ⟨k, _, rfl⟩ := List.mem_map.mp hz
    refine bk9 ?_
    clear bk9 G9
    have h1 := List.length_filter_le (· == k) (readZ (sentZ (mailOf cs)) (sentZ (mailOf cs)).length 0)
    have h2 := read_len (sentZ (mailOf cs)) (sentZ (mailOf cs)).length 0
    omega
  · show (sentZ (mailOf cs)).cps.all (· < 0x110000) = true
    rw [← Array.all_toList, e1]
    exact List.all_eq_true.mpr fun c hc => decide_eq_true (Nat.lt_of_le_of_lt (Nat.le_of_ble_eq_true (List.all_eq_true.mp H4 c hc)) (by decide))
noncomputable def textOf (cs : List (Fin 6)) : Str := sentZ (mailOf cs)
end
section
noncomputable def ltZ (a b : Str) : Bool := decide (a.cps.toList < b.cps.toList)
noncomputable def rankZ (cs : List (List (Fin 6))) (c : List (Fin 6)) : Int := ((cs.filter fun d => ltZ (textOf d) (textOf c)).length : Nat)
theorem ltZ_lt {a b : Str} : ltZ a b = true ↔ a.cps.toList < b.cps.toList := by unfold ltZ; exact decide_eq_true_iff
theorem lt_tri (a b : List Nat) : a < b ∨ a = b ∨ b < a := by
  by_cases h1 : a < b
  · exact .inl h1
  · by_cases h2 : b < a
    · exact .inr (.inr h2)
    · exact .inr (.inl (List.le_antisymm (List.not_lt.mp h2) (List.not_lt.mp h1)))
theorem filter_le {α : Type} {f g : α → Bool} : ∀ {l : List α}, (∀ x ∈ l, f x = true → g x = true) → (l.filter f).length ≤ (l.filter g).length
  | [], _ => Nat.le_refl _
  | x :: l, h => by
    have ih := filter_le (l := l) fun y hy => h y (List.mem_cons_of_mem _ hy)
    have hx := h x List.mem_cons_self
    rw [List.filter_cons, List.filter_cons]
    cases hf : f x with
    | true => rw [hx hf]; simp; exact ih
    | false => cases g x <;> simp <;> omega
theorem filter_lt {α : Type} {f g : α → Bool} {a : α} : ∀ {l : List α}, (∀ x ∈ l, f x = true → g x = true) → a ∈ l → f a = false → g a = true → (l.filter f).length < (l.filter g).length
  | [], _, h, _, _ => by cases h
  | x :: l, h, ha, h1, h2 => by
    have hx := h x List.mem_cons_self
    rw [List.filter_cons, List.filter_cons]
    rcases List.mem_cons.mp ha with rfl | ha
    · have ih := filter_le (l := l) fun y hy => h y (List.mem_cons_of_mem _ hy)
      rw [h1, h2]; simp; omega
    · have ih := filter_lt (l := l) (fun y hy => h y (List.mem_cons_of_mem _ hy)) ha h1 h2
      cases hf : f x with
      | true => rw [hx hf]; simp; exact ih
      | false => cases g x <;> simp <;> omega
theorem rank_lt {cs : List (List (Fin 6))} {c d : List (Fin 6)} (hc : c ∈ cs) : rankZ cs c < rankZ cs d ↔ (textOf c).cps.toList < (textOf d).cps.toList := by
  unfold rankZ
  constructor
  · intro h
    rcases lt_tri (textOf c).cps.toList (textOf d).cps.toList with h1 | h1 | h1
    · exact h1
    · exfalso
      have e : textOf c = textOf d := by
        cases hx : textOf c; cases hy : textOf d
        rw [hx, hy] at h1
        simpa using h1
      rw [e] at h
      omega
    · exfalso
      have := filter_le (l := cs) (f := fun e => ltZ (textOf e) (textOf d)) (g := fun e => ltZ (textOf e) (textOf c)) fun x _ hx => ltZ_lt.mpr (List.lt_trans (ltZ_lt.mp hx) h1)
      omega
  · intro h
    have := filter_lt (l := cs) (a := c) (f := fun e => ltZ (textOf e) (textOf c)) (g := fun e => ltZ (textOf e) (textOf d)) (fun x _ hx => ltZ_lt.mpr (List.lt_trans (ltZ_lt.mp hx) h)) hc (by
      cases e : ltZ (textOf c) (textOf c) with
      | false => rfl
      | true => exact absurd (ltZ_lt.mp e) (List.lt_irrefl _)) (ltZ_lt.mpr h)
    omega
/-- entry j of the counts of text i -/
noncomputable def cz (cs : List (List (Fin 6))) (i j : Nat) : Int := ((cs[i]?).bind fun c => (countsZ (textOf c))[j]?).getD 0
noncomputable def RowsIn (pk : List (Addr × Obj)) (rs : Array Value) (cs : List (List (Fin 6))) : Prop :=
  ∀ i, i < 5 → ∃ c R q zs, cs[i]? = some c ∧ rs[i]? = some (Value.ref R) ∧ (R, ({ cls := .type "list", data := .seq zs q } : Obj)) ∈ pk ∧ IntsAre zs.toList (countsZ (textOf c))
theorem cz_bd {cs : List (List (Fin 6))} (hok : ∀ c ∈ cs, 2 ≤ c.length ∧ c.length ≤ 4) (i j : Nat) : -1000 ≤ cz cs i j ∧ cz cs i j ≤ 1000 := by
  unfold cz
  cases h : cs[i]? with
  | none => simp
  | some c =>
    have hm := (mail_ok c (hok c (List.mem_of_getElem? h))).i
    simp only [Option.bind_some]
    cases h2 : (countsZ (textOf c))[j]? with
    | none => simp
    | some z =>
      have := hm z (List.mem_of_getElem? h2)
      simp only [Option.getD_some]
      omega
theorem ints_get {vs : List Value} {ns : List Int} (h : IntsAre vs ns) : ∀ (i : Nat) (n : Int), ns[i]? = some n → ∃ t, vs[i]? = some (.int n t) := by
  induction h with
  | nil => intro i n e; simp at e
  | cons n t _ ih =>
    intro i n' e
    cases i with
    | zero => simp at e; subst e; exact ⟨t, rfl⟩
    | succ i => simpa using ih i n' (by simpa using e)
theorem RowsIn.row {h₀ h : Heap} {L : Addr} {news : List (Addr × Obj)} {pk : List (Addr × Obj)} {rs : Array Value} {cs : List (List (Fin 6))} (x : RowsIn pk rs cs) (N : News h₀ L h news) (hsub : ∀ q ∈ pk, q ∈ news) (i : Nat) (hi : i < 5) :
    ∃ (R : Addr) (items : Array Value), rs[i]? = some (Value.ref R) ∧ h.IsList R items ∧ ∀ j, j < 4 → ∃ tk, items[j]? = some (Value.int (cz cs i j) tk) := by
  refine hide fun G9 bk9 => ?_
  obtain ⟨c, R, q, zs, h1, h2, h3, h4⟩ := x i hi
  refine bk9 ?_
  clear bk9 G9
  refine ⟨R, zs, h2, ⟨_, (N _ (hsub _ h3)).1, rfl, q, rfl⟩, fun j hj => ?_⟩
  have hl : (countsZ (textOf c)).length = 4 := rfl
  have e : (countsZ (textOf c))[j]? = some (cz cs i j) := by
    unfold cz
    rw [h1, Option.bind_some]
    rw [List.getElem?_eq_getElem (by omega)]
    rfl
  obtain ⟨t, ht⟩ := ints_get h4 j _ e
  exact ⟨t, by simpa using ht⟩
theorem RowsIn.tab {h₀ h : Heap} {L : Addr} {news : List (Addr × Obj)} {pk : List (Addr × Obj)} {rs : Array Value} {cs : List (List (Fin 6))} {t : Addr} (x : RowsIn pk rs cs) (hok : ∀ c ∈ cs, 2 ≤ c.length ∧ c.length ≤ 4) (N : News h₀ L h news) (hsub : ∀ q ∈ pk, q ∈ news) (ht : h.IsList t rs) : Tab h t (cz cs) :=
  ⟨⟨rs, ht, fun i hi => x.row N hsub i hi⟩, cz_bd hok⟩
end
section
noncomputable def sgn (cs : List (List (Fin 6))) (i j : Nat) : Int := ((cs[i]?).bind fun c => (cs[j]?).map fun d => cmpZ (textOf c) (textOf d)).getD 0
noncomputable def sgOf (cs : List (List (Fin 6))) : Sgs := (prs 5).map fun p => (p.2, p.1, sgn cs p.1 p.2)
theorem cmpZ_bd (a b : Str) : -1 ≤ cmpZ a b ∧ cmpZ a b ≤ 1 := by
  unfold cmpZ b2i
  constructor <;> split <;> split <;> omega
theorem sgn_bd (cs : List (List (Fin 6))) (i j : Nat) : -1 ≤ sgn cs i j ∧ sgn cs i j ≤ 1 := by
  unfold sgn
  cases cs[i]? with
  | none => simp
  | some c =>
    cases cs[j]? with
    | none => simp
    | some d => exact cmpZ_bd _ _
noncomputable def SgIn (pk : List (Addr × Obj)) (ys : Array Value) (sg : Sgs) : Prop :=
  ys.size = sg.length ∧ ∀ (k : Nat) (x : Nat × Nat × Int), sg[k]? = some x → ∃ (P : Addr) (o : Obj) (t1 t2 t3 : Tok) (n : Nat), ys[k]? = some (Value.ref P) ∧ (P, o) ∈ pk ∧ o.cls = .type "tuple" ∧ o.data = .seq #[.int (x.1 : Nat) t1, .int (x.2.1 : Nat) t2, .int x.2.2 t3] n
theorem RowsIn.mono {pk pk' : List (Addr × Obj)} {rs : Array Value} {cs : List (List (Fin 6))} (x : RowsIn pk rs cs) (h : ∀ q ∈ pk, q ∈ pk') : RowsIn pk' rs cs := fun i hi =>
  let ⟨c, R, q, zs, h1, h2, h3, h4⟩ := x i hi
  ⟨c, R, q, zs, h1, h2, h _ h3, h4⟩
theorem prs_bd : ∀ p ∈ prs 5, p.1 < 5 ∧ p.2 < 5 := by decide +kernel
theorem SgIn.at {h₀ h : Heap} {L : Addr} {news pk : List (Addr × Obj)} {ys : Array Value} {cs : List (List (Fin 6))} {a : Addr} (x : SgIn pk ys (sgOf cs)) (N : News h₀ L h news) (hsub : ∀ q ∈ pk, q ∈ news) (ha : h.IsList a ys) : SgAt h a (sgOf cs) := by
  refine ⟨⟨ys, ha, x.1, fun i y hy => ?_⟩, fun y hy => ?_⟩
  · refine hide fun G9 bk9 => ?_
    obtain ⟨P, o, t1, t2, t3, n, h1, h2, h3, h4⟩ := x.2 i y hy
    refine bk9 ?_
    clear bk9 G9
    exact ⟨P, t1, t2, t3, h1, ⟨o, (N _ (hsub _ h2)).1, h3, n, h4⟩⟩
  · unfold sgOf at hy
    refine hide fun G9 bk9 => ?_
    obtain ⟨p, hp, rfl⟩ := List.mem_map.mp hy
    refine bk9 ?_
    clear bk9 G9
    have hb := prs_bd p hp
    have hs := sgn_bd cs p.1 p.2
    exact ⟨hb.2, hb.1, hs.1, hs.2⟩
noncomputable def SgF (L : Nat) (cs : List (List (Fin 6))) (i j : Nat) (y : Value) (h : Heap) : Prop :=
  ∃ P t1 t2 t3 c d, y = .ref P ∧ IsTup h P #[.int (j : Nat) t1, .int (i : Nat) t2, .int (cmpZ (textOf c) (textOf d)) t3] ∧ cs[i]? = some c ∧ cs[j]? = some d ∧ @LT.lt Nat _ (L + 1 + 1 + 1 + 1 + 1 + 1 + 1) P
theorem sg_news {h₀ h : Heap} {L : Nat} {news : List (Addr × Obj)} {ys : Array Value} {cs : List (List (Fin 6))} (hL : L = h₀.objs.size) (N : News h₀ L h news) (hv : Prs (SgF L cs) h (prs 5) ys.toList) :
    ∃ pt, News h₀ L h (news ++ pt) ∧ SgIn pt ys (sgOf cs) ∧ ∀ q ∈ pt, @LT.lt Nat _ (L + 1 + 1 + 1 + 1 + 1 + 1 + 1) q.1 := by
  have hall : ∀ y ∈ ys.toList, ∃ P o, y = .ref P ∧ h.get? P = some o ∧ @LT.lt Nat _ (L + 1 + 1 + 1 + 1 + 1 + 1 + 1) P := fun y hy => by
    refine hide fun G9 bk9 => ?_
    obtain ⟨k, hk⟩ := List.mem_iff_getElem?.mp hy
    have hlt : k < (prs 5).length := by
      rw [← hv.len]
      obtain ⟨q, _⟩ := List.getElem?_eq_some_iff.mp hk
      exact q
    obtain ⟨y', e1, P, t1, t2, t3, c, d, rfl, ⟨o, ho, _⟩, _, _, hP⟩ := hv.get k (prs 5)[k].1 (prs 5)[k].2 (by simp [hlt])
    refine bk9 ?_
    clear bk9 G9
    rw [hk] at e1
    obtain rfl := Option.some.inj e1
    exact ⟨P, o, rfl, ho, hP⟩
  refine ⟨ys.toList.filterMap fun y => match y with | .ref l => (h.get? l).map fun o => (l, o) | _ => none, fun q hq => ?_, ⟨?_, fun k x hx => ?_⟩, fun q hq => ?_⟩
  · rcases List.mem_append.mp hq with hq | hq
    · exact N q hq
    · refine hide fun G9 bk9 => ?_
      obtain ⟨y, hy, e⟩ := List.mem_filterMap.mp hq
      obtain ⟨P, o, rfl, ho, hP⟩ := hall y hy
      refine bk9 ?_
      clear bk9 G9
      simp only [ho, Option.map_some, Option.some.injEq] at e
      subst e
      exact ⟨ho, (show ¬ @Eq Nat P L by omega), Heap.get?_none_of_le (show @LE.le Nat _ h₀.objs.size P by omega)⟩
  · have := hv.len
    simp only [sgOf, List.length_map]
    simpa using this
  · unfold sgOf at hx
    rw [List.getElem?_map] at hx
    refine hide fun G9 bk9 => ?_
    obtain ⟨⟨i, j⟩, hp, rfl⟩ := Option.map_eq_some_iff.mp hx
    obtain ⟨y, e1, P, t1, t2, t3, c, d, rfl, ⟨o, ho, h1, n, h2⟩, h3, h4, hP⟩ := hv.get k i j hp
    refine bk9 ?_
    clear bk9 G9
    refine ⟨P, o, t1, t2, t3, n, by simpa using e1, List.mem_filterMap.mpr ⟨.ref P, List.mem_of_getElem? e1, ?_⟩, h1, ?_⟩
    · simp only [ho, Option.map_some]
    · rw [h2]
      simp [sgn, h3, h4]
  · refine hide fun G9 bk9 => ?_
    obtain ⟨y, hy, e⟩ := List.mem_filterMap.mp hq
    obtain ⟨P, o, rfl, ho, hP⟩ := hall y hy
    refine bk9 ?_
    clear bk9 G9
    simp only [ho, Option.map_some, Option.some.injEq] at e
    subst e
    exact hP
theorem sgn_rank {cs : List (List (Fin 6))} {i j : Nat} {c d : List (Fin 6)} (hc : cs[i]? = some c) (hd : cs[j]? = some d) :
    (rankZ cs d < rankZ cs c → sgn cs i j = 1) ∧ (rankZ cs c < rankZ cs d → sgn cs i j = -1) ∧ (¬ rankZ cs d < rankZ cs c → ¬ rankZ cs c < rankZ cs d → sgn cs i j = 0) := by
  have e : sgn cs i j = cmpZ (textOf c) (textOf d) := by simp [sgn, hc, hd]
  rw [e, rank_lt (List.mem_of_getElem? hd), rank_lt (List.mem_of_getElem? hc)]
  unfold cmpZ b2i
  refine ⟨fun h => ?_, fun h => ?_, fun h1 h2 => ?_⟩
  · rw [decide_eq_true h, decide_eq_false (List.not_lt.mpr (List.le_of_lt h))]; rfl
  · rw [decide_eq_true h, decide_eq_false (List.not_lt.mpr (List.le_of_lt h))]; rfl
  · rw [decide_eq_false h1, decide_eq_false h2]; rfl
theorem sgOf_at {cs : List (List (Fin 6))} {k : Nat} {x : Nat × Nat × Int} (h : (sgOf cs)[k]? = some x) : ∃ i j, i < 5 ∧ j < 5 ∧ x = (j, i, sgn cs i j) := by
  unfold sgOf at h
  refine hide fun G9 bk9 => ?_
  obtain ⟨p, hp, rfl⟩ := List.mem_map.mp (List.mem_of_getElem? h)
  refine bk9 ?_
  clear bk9 G9
  have := prs_bd p hp
  exact ⟨p.1, p.2, this.1, this.2, rfl⟩
theorem overZ_bd {T : Nat → Nat → Int} (hT : ∀ i j, -1000 ≤ T i j ∧ T i j ≤ 1000) (r c : Nat) : ∀ sg : Sgs, (∀ x ∈ sg, -1 ≤ x.2.2 ∧ x.2.2 ≤ 1) → -2000000 * (sg.length : Int) ≤ overZ T r c sg ∧ overZ T r c sg ≤ 2000000 * (sg.length : Int)
  | [], _ => by simp [overZ]
  | x :: l, h => by
    have ih := overZ_bd hT r c l fun y hy => h y (List.mem_cons_of_mem _ hy)
    have hx := h x List.mem_cons_self
    have y1 := prod_bd (hT x.1 r) (hT x.2.1 c)
    have y2 := prod_bd (hT x.2.1 r) (hT x.1 c)
    have e : x.2.2 = -1 ∨ x.2.2 = 0 ∨ x.2.2 = 1 := by omega
    rw [overZ, List.length_cons]
    rcases e with e | e | e <;> rw [e] <;> omega
theorem over_bd {cs : List (List (Fin 6))} (hok : ∀ c ∈ cs, 2 ≤ c.length ∧ c.length ≤ 4) (r c : Nat) : -20000000 ≤ overZ (cz cs) r c (sgOf cs) ∧ overZ (cz cs) r c (sgOf cs) ≤ 20000000 := by
  have h := overZ_bd (cz_bd hok) r c (sgOf cs) fun x hx => by
    unfold sgOf at hx
    refine hide fun G9 bk9 => ?_
    obtain ⟨p, _, rfl⟩ := List.mem_map.mp hx
    refine bk9 ?_
    clear bk9 G9
    exact sgn_bd cs p.1 p.2
  have e : (sgOf cs).length = 10 := by simp [sgOf]; decide
  rw [e] at h
  omega
end
section
theorem tuple_upF {M : Model} {A : Around} {E : Value → Shared → Prop} {s : Shared} {h₀ hb : Heap} {L : Addr} {m : Str → Option Value} {news : List (Addr × Obj)} {vs : List Value} {Q : Value → Shared → Prop} (F : Fr h₀ L s.heap m) (N : News h₀ L s.heap news) (g : Grow hb s.heap) (hsz : vs.length ≤ sizeLine)
    (h : ∀ (D : Addr) h', Fr h₀ L h' m → News h₀ L h' ((D, { cls := .type "tuple", data := .seq vs.toArray }) :: news) → Grow hb h' → hb.get? D = none → (∀ q ∈ news, @LT.lt Nat _ q.1 D) → Q (.ref D) { s with heap := h' }) : wpAny M A (newTuple vs) Q E s := by
  refine wpAny_newTuple (h _ _ (F.keeps fun b o e => Heap.get?_push_of_some _ e) (fun q hq => ?_) (g.trans fun b o e => Heap.get?_push_of_some _ e) ?_ fun q hq => Heap.lt_size (N q hq).1) hsz
  · rcases List.mem_cons.mp hq with rfl | hq
    · exact ⟨Heap.get?_push_size _ rfl, Ne.symm (Nat.ne_of_lt F.ns.lt), next_is_new F⟩
    · exact ⟨Heap.get?_push_of_some _ (N q hq).1, (N q hq).2⟩
  · cases e : hb.get? s.heap.objs.size with
    | none => rfl
    | some o => exact absurd (Heap.lt_size (g _ _ e)) (Nat.lt_irrefl _)
theorem range_up {prog : Program} {w : World} {A : Around} {E : Value → Shared → Prop} {s : Shared} {h₀ : Heap} {L : Addr} {m : Str → Option Value} {news : List (Addr × Obj)} {n : Int} {t : Tok} {Q : Value → Shared → Prop} (F : Fr h₀ L s.heap m) (N : News h₀ L s.heap news)
    (h : ∀ (r : Addr) h' t u v tk, Fr h₀ L h' m → News h₀ L h' news → Grow s.heap h' → s.toks ≤ tk → IsRange h' r 0 n 1 t u v → Q (.ref r) { s with heap := h', toks := tk }) : wpAny (model prog w) A (call (.type "range") [.int n t]) Q E s := by
  have up : ∀ ob, Grow s.heap (s.heap.push ob) := fun ob b o e => Heap.get?_push_of_some _ e
  exact call_range_1 (h _ _ _ _ _ _ (F.keeps (up _)) (N.grown (up _)) (up _) (by omega) (IsRange.new _ _ _ _ _ _ _))
theorem pk_ne {pk : List (Addr × Obj)} {L : Nat} {a : Addr} (h : ∀ q ∈ pk, @LT.lt Nat _ (L + 1 + 1 + 1 + 1 + 1 + 1 + 1) q.1) (ha : @LE.le Nat _ a (L + 1 + 1 + 1 + 1 + 1 + 1 + 1)) : ∀ q ∈ pk, q.1 ≠ a := fun q hq e => by
  have h1 := h q hq
  rw [e] at h1
  exact Nat.lt_irrefl _ (Nat.lt_of_le_of_lt ha h1)
theorem with_ho {K : Frag} {f : Addr} {name qual : Str} {params : Arguments} {body : List Stmt} {scope : Scope} {dV kV doc pm cdv ct oc : Value} {an od : Option Addr} {osl : Array (Option Value)} {P : Prop}
    (ho : K.lookup f = some ⟨oc, od, .func (fnOf name qual params body scope dV kV doc pm an cdv ct), osl⟩) (k : K.lookup f = some ⟨oc, od, .func (fnOf name qual params body scope dV kV doc pm an cdv ct), osl⟩ → P) : P := k ho
theorem fn_inj {K : Frag} {f : Addr} {name qual : Str} {params : Arguments} {body : List Stmt} {scope : Scope} {dV kV doc pm cdv ct oc : Value} {an od : Option Addr} {osl : Array (Option Value)}
    {name' qual' : Str} {params' : Arguments} {body' : List Stmt} {scope' : Scope} {dV' kV' doc' pm' cdv' ct' oc' : Value} {an' od' : Option Addr} {osl' : Array (Option Value)}
    (h1 : K.lookup f = some ⟨oc, od, .func (fnOf name qual params body scope dV kV doc pm an cdv ct), osl⟩) (h2 : K.lookup f = some ⟨oc', od', .func (fnOf name' qual' params' body' scope' dV' kV' doc' pm' an' cdv' ct'), osl'⟩) :
    qual = qual' ∧ body = body' ∧ scope = scope' ∧ cdv = cdv' := by
  have e := Option.some.inj (h1.symm.trans h2)
  injection e with _ _ e _
  injection e with e
  injection e with _ e2 _ e3 e4 _ _ _ _ _ _ _ e5
  injection e3 with e3
  exact ⟨e2, e3, e4, e5⟩
end
section
noncomputable def Bd7 (z : Int) : Prop := -20000000 ≤ z ∧ z ≤ 20000000
theorem Bd7.m {a b : Int} (h : Bd7 a) (k : Bd7 b) : -(2 ^ 62) ≤ a ∧ a ≤ 2 ^ 62 ∧ -(2 ^ 62) ≤ b ∧ b ≤ 2 ^ 62 := by
  unfold Bd7 at h k
  omega
section
variable {prog : Program} {w : World} {A : Around} {E : Value → Shared → Prop} {s : Shared}
theorem collect_rng {Q : List Value → Shared → Prop} {r : Addr} {n : Nat} {t u v : Tok} (hh : A.handled = none) (hr : IsRange s.heap r 0 (n : Int) 1 t u v) (hs : Builtin.Range.small 0 (n : Int) 1 = true) (hn : Builtin.Range.rangeSize 0 (n : Int) 1 = (n : Int)) (h64 : n < 64)
    (h : ∀ h' tk (vs : Array Value), (∀ b o, s.heap.get? b = some o → h'.get? b = some o) → ItemsOf (fun i v => ∃ t, v = Value.int (0 + (i : Int) * 1) t) vs n → Q vs.toList { s with heap := h', toks := tk }) :
    wpAny (model prog w) A (collect (.ref r)) Q E s := by
  have old : ∀ b o, s.heap.get? b = some o → (s.heap.push { cls := .type "list", data := .seq ([] : List Value).toArray }).get? b = some o := fun b o e => Heap.get?_push_of_some _ e
  have hS : (s.heap.push { cls := .type "list", data := .seq ([] : List Value).toArray }).get? s.heap.objs.size = some { cls := .type "list", data := .seq #[] } := Heap.get?_push_size _ rfl
  have key := wpAny_extend_range (prog := prog) (w := w) (A := A) (s := { s with heap := s.heap.push { cls := .type "list", data := .seq ([] : List Value).toArray } })
    (R := fun q s' => ∃ h' tk vs c, q = Except.ok (.ret (.ref s.heap.objs.size)) ∧ s' = { s with heap := h', toks := tk } ∧ (∀ b o, s.heap.get? b = some o → h'.get? b = some o) ∧
      h'.get? s.heap.objs.size = some { cls := .type "list", dict := none, data := .seq vs c, slots := #[] } ∧ ItemsOf (fun i v => ∃ t, v = Value.int (0 + (i : Int) * 1) t) vs n)
    hh (old _ _ hr) hs hn (Nat.le_trans (Nat.le_of_lt h64) (by decide)) s.heap.objs.size (.ref s.heap.objs.size) 0 hS
    fun h' tk vs c hk hS' hi => ⟨h', tk, vs, c, rfl, rfl, fun b o e => hk b o (Nat.ne_of_lt (Heap.lt_size e)) (old b o e), hS', hi⟩
  have fin : ∀ (q : Result) (s' : Shared), (∃ h' tk vs c, q = Except.ok (.ret (.ref s.heap.objs.size)) ∧ s' = { s with heap := h', toks := tk } ∧ (∀ b o, s.heap.get? b = some o → h'.get? b = some o) ∧
      h'.get? s.heap.objs.size = some { cls := .type "list", dict := none, data := .seq vs c, slots := #[] } ∧ ItemsOf (fun i v => ∃ t, v = Value.int (0 + (i : Int) * 1) t) vs n) →
      ∃ v, q = Except.ok (Flow.ret v) ∧ wpAny (model prog w) A (match v with
        | .ref a => do match (← load a).data with
          | .seq xs _ => pure xs.toList
          | _ => unsupported "internal:collect"
        | _ => unsupported "internal:collect") Q E s' := by
    rintro q s' ⟨h', tk, vs, c, rfl, rfl, hk, hS', hi⟩
    exact ⟨_, rfl, wpAny_bind (wpAny_load hS' (wpAny_pure (h h' tk vs hk hi)))⟩
  unfold collect
  refine wpAny_bind (wpAny_runValue (codeAny_builtin entry_proto_collect' ?_))
  rw [Around.under_plainId F.plain_proto_collect _]
  show wpAny _ A.in1 (newList [] >>= fun l => again (.builtin "list.__iadd__" ⟨[l, .ref r], []⟩)) _ _ s
  refine wpAny_bind (wpAny_newObj_type (wpAny_pure ⟨plainId_quiet F.plain_list_iadd _, codeAny_builtin entry_list_iadd' ?_⟩))
  rw [Around.under_plainId F.plain_list_iadd _]
  show wpAny _ A.in1 (Builtin.List.listExtendWith (.ref s.heap.objs.size) (.ref r) (.ref s.heap.objs.size)) _ _ _
  refine wpAny_mono key (fun f s' x => ?_) fun e s' x => ?_
  · cases f with
    | done f =>
      refine hide fun G9 bk9 => ?_
      obtain ⟨v, e, hv⟩ := fin _ _ x
      refine bk9 ?_
      clear bk9 G9
      cases e
      exact hv
    | again c =>
      refine ⟨x.1, codeAny_mono x.2 fun q s₂ y => ?_⟩
      refine hide fun G9 bk9 => ?_
      obtain ⟨v, rfl, hv⟩ := fin _ _ y
      refine bk9 ?_
      clear bk9 G9
      exact hv
  · refine hide fun G9 bk9 => ?_
    obtain ⟨_, _, _, _, e', _⟩ := x
    refine bk9 ?_
    clear bk9 G9
    cases e'
variable {h₀ : Heap} {L : Addr} {m : Str → Option Value} {news : List (Addr × Obj)} {Q : Value → Shared → Prop}
theorem sorted_rng {r : Addr} {n : Nat} {t u v : Tok} {kz : List Int} {q : Addr} (hh : A.handled = none) (F : Fr h₀ L s.heap m) (N : News h₀ L s.heap news) (hr : IsRange s.heap r 0 (n : Int) 1 t u v) (hs : Builtin.Range.small 0 (n : Int) 1 = true) (hn : Builtin.Range.rangeSize 0 (n : Int) 1 = (n : Int)) (h64 : n < 64) (hlen : kz.length = n)
    (turn : ∀ (i : Nat) (t : Tok) (k : Int) (S : Shared), i < n → kz[i]? = some k → ∀ (h : Heap) (tk : Nat) (own : List (Addr × Obj)), Fr h₀ L h m → News h₀ L h (news ++ own) → (∃ h tk, S = { s with heap := h, toks := tk }) →
      wpAny (model prog w) A.in1.in1 (call (.ref q) [.int (i : Int) t]) (KskEnd h₀ L m (news ++ own) k { S with heap := h, toks := tk }) (fun _ _ => False) { S with heap := h, toks := tk })
    (h : ∀ D h' tk vs out c, Fr h₀ L h' m → News h₀ L h' ((D, { cls := .type "list", data := .seq out c }) :: news) → (∀ q ∈ news, @LT.lt Nat _ q.1 D) → ItemsOf (fun i v => ∃ t, v = Value.int (i : Int) t) vs n → KskOut false kz vs.toList out.toList → Q (.ref D) { s with heap := h', toks := tk }) :
    wpAny (model prog w) A (call (.builtin "sorted") [.ref r] [(Str.ofString "key", .ref q)]) Q E s := by
  refine call_function_entry_kw kind_sorted plain_sorted entry_sorted (ksk_s1 _ _) ?_
  unfold Builtin.«sorted»
  refine wpAny_bind (m := checkCount "sorted" 1 1 _) (wpAny_pure ?_)
  refine wpAny_bind (collect_rng hh hr hs hn h64 fun h1 tk1 vs hk hi => ?_)
  have hsz : vs.toList.length = n := by simpa using hi.1
  refine wpAny_bind (wpAny_newList ?_ (by rw [sizeLine_eq, hsz]; omega))
  have F1 := F.kept hk
  have N1 := N.grown hk
  have up : ∀ b o, h1.get? b = some o → (h1.push (seqObj "list" vs.toList.toArray 0)).get? b = some o := fun b o e => Heap.get?_push_of_some _ e
  have hoL : (h1.push (seqObj "list" vs.toList.toArray 0)).get? h1.objs.size = some (seqObj "list" vs.toList.toArray 0) := Heap.get?_push_size _ rfl
  have hL : L < h1.objs.size := F1.ns.lt
  refine wpAny_bind (wpAny_holding (wpAny_call_entry_kw slot_list_sort ⟨_, hoL, rfl⟩ entry_list_sort ?body (ksk_l1 _ _)))
  case body =>
    show wpAny (model prog w) A.in1.in1 (Builtin.«list.sort» ⟨[.ref h1.objs.size], [(Str.ofString "key", .ref q)]⟩) _ _ _
    rw [ksk_t1]
    refine ksk_sort (kz := kz) (s := { s with heap := h1.push (seqObj "list" vs.toList.toArray 0), toks := tk1 }) (F1.kept up) (N1.grown up) hoL (Nat.ne_of_gt hL) (Heap.get?_none_of_le (Nat.le_trans F1.above (Nat.le_of_lt hL)))
      (fun p hp => Nat.ne_of_lt (Heap.lt_size (N1 p hp).1)) (hlen.trans hsz.symm) (by rw [hsz]; exact h64) (fun i v k hv hk' hp tk own F' N' => ?_) fun h' tk out c F' N' k' => ⟨_, rfl, ?_⟩
    · have hi' : i < n := by rw [← hsz]; exact (List.getElem?_eq_some_iff.mp hv).1
      obtain ⟨t', e⟩ := hi.2 i v (by simpa using hv)
      subst e
      rw [show (0 : Int) + (i : Int) * 1 = (i : Int) by omega]
      exact turn i t' k _ hi' hk' hp tk own F' N' ⟨_, _, rfl⟩
    · have hit : ItemsOf (fun i v => ∃ t, v = Value.int (i : Int) t) vs n := ⟨hi.1, fun i v e => by
        obtain ⟨t', e'⟩ := hi.2 i v e
        exact ⟨t', by rw [e', show (0 : Int) + (i : Int) * 1 = (i : Int) by omega]⟩⟩
      exact wpAny_pure ⟨_, rfl, h _ h' tk vs out c F' N' (fun q hq => Heap.lt_size (N1 q hq).1) hit k'⟩
end
section
variable {M : Model} {A : Around} {E : Value → Shared → Prop} {s : Shared} {h₀ : Heap} {L c P : Addr} {m mg mb : Str → Option Value} {env : Env} {news : List (Addr × Obj)} {gg : Obj → List (Addr × Obj)} {p : Program} {loose : List Str} {mean : ExcName → Option Value} {name qual : Str} {params : Arguments} {body : Expr} {scope : Scope} {pos : Pos} {line : Nat} {clos : List (Str × Addr)}
/-- a lambda made in a frame with cells: its code goes into the empty table P -/
theorem lam_new {Q : Value → Shared → Prop} (F : Fr h₀ L s.heap m) (N : News h₀ L s.heap news) (T : Top p loose mean mg mb h₀) (C : CodeHd h₀ c P) (hge : env.globals = mainGlobals) (hcd : env.code = .ref c) (U : UpdF P (tabObj #[]) news gg) (hcl : closureFor scope env = pure clos)
    (h : ∀ (f c' : Addr) (oc : Obj) (vs : Array Value) (t : Tok) (ctv pm : Value) (ql : Str) (more : Array Value) h' tk, Fr h₀ L h' m → News h₀ L h' ((f, kla_obj name ql params body scope clos pm c' ctv) :: (c', oc) :: gg (tabObj more)) →
      oc.data = .fields vs → vs[1]? = some (.str ql t) → @LT.lt Nat _ L c' → (∀ q ∈ news, @LT.lt Nat _ q.1 c') → @LT.lt Nat _ c' f → Q (.ref f) { s with heap := h', toks := tk }) :
    wpAny M A (makeFunction name qual params (.expr body) scope env [] [] [] pos line) Q E s := by
  refine hide fun G9 bk9 => ?_
  obtain ⟨pre, post, rfl, hgr, a1, a2⟩ := U.split
  obtain ⟨n1, n2, n3⟩ := N (P, tabObj #[]) (List.mem_append_right _ (.head _))
  have gs := T.g.keeps F.keep
  obtain ⟨bm, ob, b1, b2, b3, b4, b5, b6⟩ := T.bmain
  refine bk9 ?_
  clear bk9 G9
  have gP : mainGlobals ≠ P := fun q => by
    refine hide fun G9 bk9 => ?_
    obtain ⟨o, _, _, e, hd, _⟩ := gs
    refine bk9 ?_
    clear bk9 G9
    have e' := e
    rw [q, n1] at e'
    obtain rfl := Option.some.inj e'
    cases hd
  have bP : bm ≠ P := fun q => by
    have e := F.keep _ _ b3
    rw [q, n1] at e
    obtain rfl := Option.some.inj e
    cases b4
  have bG : bm ≠ mainGlobals := fun q => by
    refine hide fun G9 bk9 => ?_
    obtain ⟨o, _, _, e, hd, _⟩ := T.g
    refine bk9 ?_
    clear bk9 G9
    rw [q, e] at b3
    obtain rfl := Option.some.inj b3
    rw [hd] at b6; cases b6
  refine kla_makeFunction (mg := mg) hcl hge gs hcd (C.keeps F.keep) n1 trivial rfl gP ⟨bm, ob, b1, b2, bG, bP, F.keep _ _ b3, b4, b5, b6⟩ fun c' ctv h' tk hx hc1 hc2 hrec htb => ?_
  refine hide fun G9 bk9 => ?_
  obtain ⟨_, oc, vs, t, ec, hoc, hd, hv⟩ := hrec
  refine bk9 ?_
  clear bk9 G9
  cases ec
  have lL : L < s.heap.objs.size := F.ns.lt
  have lc : L < c' := Nat.lt_of_lt_of_le lL hc1
  have old : ∀ b o, h₀.get? b = some o → h'.get? b = some o := fun b o e => hx b o (fun q => by rw [q, n3] at e; cases e) (F.keep b o e)
  have none0 : ∀ b, L < b → h₀.get? b = none := fun b hb => Heap.get?_none_of_le (Nat.le_trans F.above (Nat.le_of_lt hb))
  have up : ∀ {b o ob}, h'.get? b = some o → (h'.push ob).get? b = some o := fun e => Heap.get?_push_of_some _ e
  refine h h'.objs.size c' oc vs t ctv ((mg "__name__").getD .none) qual (#[] ++ #[rawInt pos.line, rawInt pos.col, .ref c']) _ tk ⟨(F.ns.extBut hx n2.symm).push _, fun b o e => up (old b o e), F.above⟩ (fun q hq => ?_) hd hv lc (fun q hq => Nat.lt_of_lt_of_le (Heap.lt_size (N q hq).1) hc1) hc2
  rcases List.mem_cons.mp hq with rfl | hq
  · exact ⟨Heap.get?_push_size _ rfl, Nat.ne_of_gt (Nat.lt_trans lc hc2), none0 _ (Nat.lt_trans lc hc2)⟩
  rcases List.mem_cons.mp hq with rfl | hq
  · exact ⟨up hoc, Nat.ne_of_gt lc, none0 _ lc⟩
  rw [hgr] at hq
  rcases List.mem_append.mp hq with hq | hq
  · have n := N q (List.mem_append_left _ hq)
    exact ⟨up (hx _ _ (a1 q hq) n.1), n.2⟩
  rcases List.mem_cons.mp hq with rfl | hq
  · exact ⟨up htb, n2, n3⟩
  · have n := N q (List.mem_append_right _ (.tail _ hq))
    exact ⟨up (hx _ _ (a2 q hq) n.1), n.2⟩
end
section
variable {prog : Program} {w : World} {A : Around} {E : Value → Shared → Prop} {s : Shared} {h₀ : Heap} {L : Addr} {m : Str → Option Value} {news : List (Addr × Obj)} {n : Int} {t : Tok} {Q : Value → Shared → Prop}
theorem range_new (F : Fr h₀ L s.heap m) (N : News h₀ L s.heap news)
    (h : ∀ (r : Addr) h' t u v tk, Fr h₀ L h' m → News h₀ L h' ((r, { cls := .type "range", data := .fields #[.int 0 t, .int n u, .int 1 v] }) :: news) → @LT.lt Nat _ L r → s.toks ≤ tk → Q (.ref r) { s with heap := h', toks := tk }) : wpAny (model prog w) A (call (.type "range") [.int n t]) Q E s := by
  have up : ∀ ob, Grow s.heap (s.heap.push ob) := fun ob b o e => Heap.get?_push_of_some _ e
  refine call_range_1 (h s.heap.objs.size _ s.toks t (s.toks + 1) _ (F.keeps (up _)) (fun q hq => ?_) F.ns.lt (Nat.le_add_right _ 2))
  rcases List.mem_cons.mp hq with rfl | hq
  · exact ⟨Heap.get?_push_size _ rfl, Ne.symm (Nat.ne_of_lt F.ns.lt), next_is_new F⟩
  · exact ⟨up _ _ _ (N q hq).1, (N q hq).2⟩
end
end
section
/-- the sum over the five choices of four of the rows -/
noncomputable def four5 (cs : List (List (Fin 6))) : Int := ((List.range 5).map fun out => accF (cz (cs.eraseIdx out)) 6).sum
noncomputable def LawSum (cs : List (List (Fin 6))) (z : Int) : Prop :=
  ∀ ds : List (List (Fin 6)), ds.Perm cs → ds.Pairwise (fun c d => rankZ cs c ≤ rankZ cs d) → z = four5 ds
noncomputable def LawEnd (g : Heap) (L' : Nat) (gs : Array GenState) (dr : Drawn) (os : OsState) (fl : Flow) (s' : Shared) : Prop :=
  fl = .ret (.bool true) ∧ ∃ h' tk' m' more, s' = { heap := h', gens := gs, drawn := dr, toks := tk', os := os } ∧ Fr g L' h' m' ∧ h'.get? 139 = some (tabObj more)
noncomputable def numV : Value → Nat
  | .int n _ => n.toNat
  | _ => 0
theorem sorted_places {r : Nat → Int} {vs out : Array Value} (hit : ItemsOf (fun i v => ∃ t, v = Value.int (i : Int) t) vs 5) (hko : KskOut false ((List.range 5).map r) vs.toList out.toList) :
    ∃ ps : List Nat, ps.Perm (List.range 5) ∧ ps.Pairwise (fun i j => r i ≤ r j) ∧ out.size = 5 ∧ ∀ (i p : Nat), ps[i]? = some p → ∃ t, out[i]? = some (Value.int (p : Nat) t) := by
  refine hide fun G9 bk9 => ?_
  obtain ⟨hs, hi⟩ := hit
  obtain ⟨l⟩ := vs
  have hs : l.length = 5 := hs
  obtain ⟨v0, r1, rfl, h1⟩ := len_succ hs
  obtain ⟨v1, r2, rfl, h2⟩ := len_succ h1
  obtain ⟨v2, r3, rfl, h3⟩ := len_succ h2
  obtain ⟨v3, r4, rfl, h4⟩ := len_succ h3
  obtain ⟨v4, r5, rfl, h5⟩ := len_succ h4
  obtain rfl := List.eq_nil_of_length_eq_zero h5
  obtain ⟨t0, rfl⟩ := hi 0 v0 rfl
  obtain ⟨t1, rfl⟩ := hi 1 v1 rfl
  obtain ⟨t2, rfl⟩ := hi 2 v2 rfl
  obtain ⟨t3, rfl⟩ := hi 3 v3 rfl
  obtain ⟨t4, rfl⟩ := hi 4 v4 rfl
  obtain ⟨qs, hp, ho, hw⟩ := hko
  refine bk9 ?_
  clear bk9 G9
  have hz : ((List.range 5).map r).zip ([.int (0 : Nat) t0, .int (1 : Nat) t1, .int (2 : Nat) t2, .int (3 : Nat) t3, .int (4 : Nat) t4] : List Value) = [(r 0, .int (0 : Nat) t0), (r 1, .int (1 : Nat) t1), (r 2, .int (2 : Nat) t2), (r 3, .int (3 : Nat) t3), (r 4, .int (4 : Nat) t4)] := rfl
  have hp' : qs.Perm [(r 0, Value.int (0 : Nat) t0), (r 1, .int (1 : Nat) t1), (r 2, .int (2 : Nat) t2), (r 3, .int (3 : Nat) t3), (r 4, .int (4 : Nat) t4)] := hz ▸ hp
  have hm : ∀ q ∈ qs, ∃ (p : Nat) (t : Tok), q = (r p, Value.int (p : Nat) t) := fun q hq => by
    have hq := hp'.mem_iff.mp hq
    simp only [List.mem_cons, List.not_mem_nil, or_false] at hq
    rcases hq with rfl | rfl | rfl | rfl | rfl
    · exact ⟨0, t0, rfl⟩
    · exact ⟨1, t1, rfl⟩
    · exact ⟨2, t2, rfl⟩
    · exact ⟨3, t3, rfl⟩
    · exact ⟨4, t4, rfl⟩
  refine ⟨qs.map fun q => numV q.2, ?_, ?_, ?_, ?_⟩
  · have := hp'.map fun q => numV q.2
    exact this
  · rw [List.pairwise_map]
    refine hw.imp_of_mem fun {a b} ha hb hab => ?_
    refine hide fun G9 bk9 => ?_
    obtain ⟨p, t, rfl⟩ := hm a ha
    obtain ⟨q, u, rfl⟩ := hm b hb
    refine bk9 ?_
    clear bk9 G9
    simpa [numV] using hab
  · have h1 := congrArg List.length ho
    have h2 := hp'.length_eq
    simp at h1 h2
    omega
  · intro i p e
    rw [List.getElem?_map] at e
    refine hide fun G9 bk9 => ?_
    obtain ⟨q, hq, rfl⟩ := Option.map_eq_some_iff.mp e
    obtain ⟨p, t, rfl⟩ := hm q (List.mem_of_getElem? hq)
    refine bk9 ?_
    clear bk9 G9
    refine ⟨t, ?_⟩
    have h3 : out.toList[i]? = some (Value.int (p : Nat) t) := by rw [ho, List.getElem?_map, hq]; rfl
    simpa [numV] using h3
theorem perm_texts {cs : List (List (Fin 6))} (h5 : cs.length = 5) {ps : List Nat} (hp : ps.Perm (List.range 5)) : (ps.map fun i => cs.getD i []).Perm cs := by
  have h := hp.map fun i => cs.getD i []
  have e : (List.range 5).map (fun i => cs.getD i []) = cs := by
    refine hide fun G9 bk9 => ?_
    obtain ⟨a, r1, rfl, h1⟩ := len_succ h5
    obtain ⟨b, r2, rfl, h2⟩ := len_succ h1
    obtain ⟨c, r3, rfl, h3⟩ := len_succ h2
    obtain ⟨d, r4, rfl, h4⟩ := len_succ h3
    obtain ⟨e, r5, rfl, h6⟩ := len_succ h4
    refine bk9 ?_
    clear bk9 G9
    obtain rfl := List.eq_nil_of_length_eq_zero h6
    rfl
  rwa [e] at h
theorem pair_texts {cs : List (List (Fin 6))} {ps : List Nat} (hw : ps.Pairwise (fun i j => rankZ cs (cs.getD i []) ≤ rankZ cs (cs.getD j []))) : (ps.map fun i => cs.getD i []).Pairwise (fun c d => rankZ cs c ≤ rankZ cs d) := by
  rw [List.pairwise_map]
  exact hw
noncomputable def skip (o k : Nat) : Nat := if k < o then k else k + 1
theorem cz_erase (ds : List (List (Fin 6))) (o k j : Nat) : cz (ds.eraseIdx o) k j = cz ds (skip o k) j := by
  unfold cz skip
  rw [List.getElem?_eraseIdx]
  split <;> rfl
theorem four_of {h : Heap} {l : Addr} {o : Nat} {ds : List (List (Fin 6))} {ys four : Array Value} (hok : ∀ c ∈ ds, 2 ≤ c.length ∧ c.length ≤ 4) (hl : h.IsList l four) (h4 : four.size = 4) (hf : ∀ k, k < 4 → four[k]? = ys[skip o k]?)
    (row : ∀ i, i < 5 → ∃ (R : Addr) (items : Array Value), ys[i]? = some (Value.ref R) ∧ h.IsList R items ∧ ∀ j, j < 4 → ∃ tk, items[j]? = some (Value.int (cz ds i j) tk)) : Four h l (cz (ds.eraseIdx o)) := by
  refine ⟨⟨four, hl, h4, fun k hk => ?_⟩, cz_bd fun c hc => hok c (List.mem_of_mem_eraseIdx hc)⟩
  have hs : skip o k < 5 := by unfold skip; split <;> omega
  refine hide fun G9 bk9 => ?_
  obtain ⟨R, items, h1, h2, h3⟩ := row (skip o k) hs
  refine bk9 ?_
  clear bk9 G9
  refine ⟨R, items, (hf k hk).trans h1, h2, fun j hj => ?_⟩
  rw [cz_erase]
  exact h3 j hj
theorem five_sums {g : Nat → Int} {ys : List Value} (hl : ys.length = 5) (h : ∀ (i : Nat) (y : Value), ys[i]? = some y → ∃ t, y = Value.int (g i) t) :
    ∃ u0 u1 u2 u3 u4, ys = [.int (g 0) u0, .int (g 1) u1, .int (g 2) u2, .int (g 3) u3, .int (g 4) u4] := by
  refine hide fun G9 bk9 => ?_
  obtain ⟨a, r1, rfl, h1⟩ := len_succ hl
  obtain ⟨b, r2, rfl, h2⟩ := len_succ h1
  obtain ⟨c, r3, rfl, h3⟩ := len_succ h2
  obtain ⟨d, r4, rfl, h4⟩ := len_succ h3
  obtain ⟨e, r5, rfl, h5⟩ := len_succ h4
  obtain rfl := List.eq_nil_of_length_eq_zero h5
  obtain ⟨u0, rfl⟩ := h 0 a rfl
  obtain ⟨u1, rfl⟩ := h 1 b rfl
  obtain ⟨u2, rfl⟩ := h 2 c rfl
  obtain ⟨u3, rfl⟩ := h 3 d rfl
  obtain ⟨u4, rfl⟩ := h 4 e rfl
  refine bk9 ?_
  clear bk9 G9
  exact ⟨u0, u1, u2, u3, u4, rfl⟩
theorem pick_to (l : List Value) (i : Nat) {z : Int} (hz : z = i) (h : i ≤ l.length) : kms_pick l none (some z) = l.take i := by
  subst hz
  have e : kms_hi (some (i : Int)) l.length = i := by
    show (if (i : Int) < 0 then l.length - (-(i : Int)).toNat else min (i : Int).toNat l.length) = i
    rw [if_neg (by omega)]
    exact Nat.min_eq_left h
  unfold kms_pick
  rw [e]
  rfl
theorem pick_from (l : List Value) (i : Nat) {z : Int} (hz : z = i) (h : i ≤ l.length) : kms_pick l (some z) none = l.drop i := by
  subst hz
  have e : kms_lo (some (i : Int)) l.length = i := by
    show (if (i : Int) < 0 then l.length - (-(i : Int)).toNat else min (i : Int).toNat l.length) = i
    rw [if_neg (by omega)]
    exact Nat.min_eq_left h
  unfold kms_pick
  rw [e]
  exact List.take_of_length_le (Nat.le_of_eq List.length_drop)
theorem erase_at (l : List Value) (i k : Nat) : (l.take i ++ l.drop (i + 1))[k]? = l[skip i k]? := by
  rw [← List.eraseIdx_eq_take_drop_succ, List.getElem?_eraseIdx]
  unfold skip
  split <;> rfl
theorem erase_at' (ys : Array Value) (i k : Nat) : (ys.toList.take i ++ ys.toList.drop (i + 1)).toArray[k]? = ys[skip i k]? := by
  rw [List.getElem?_toArray, erase_at, Array.getElem?_toList]
end
section
local macro_rules | `(tactic| walk_at "eval Name") => `(tactic| (k_here; (with_reducible show wpAny _ _ (eval (PySem.Expr.Name _ _) (envOfC _ _ _ _ _)) _ _ _); k_dflt (refine' ldC ?k1 ?k2 ?_; (case k1 => with_reducible assumption); (case k2 => first | with_reducible assumption | ((try dsimp only); (repeat (refine (if_neg (by decide +kernel)).trans ?_)); with_reducible assumption)))))
local macro_rules | `(tactic| walk_at "subscriptTail Name Slice ref ref") => `(tactic| (k_here; refine halt ?_))
local macro_rules | `(tactic| walk_at "binaryOp Add ref ref") => `(tactic| (k_here; refine halt ?_))
local macro_rules | `(tactic| walk_at "call builtin:sorted") => `(tactic| (k_here; refine halt ?_))
local macro_rules | `(tactic| walk_at "execs cons") => `(tactic| (k_here; refine wpAny_execs_cons (wpAny_with_toks (n := 650) (by ((try dsimp only); omega)) ?_)))
local macro_rules | `(tactic| walk_at "call type:range") => `(tactic| (k_here; refine halt ?_))
local macro_rules | `(tactic| walk_at "subscriptTail Name Name ref int") => `(tactic| (k_here; (with_reducible show wpAny _ _ (subscriptTail _ _ (Value.ref _) (Value.int _ _)) _ _ _); (with_unfolding_all refine' my_item ?k1 ?k2 ?k3 ?k4 ?_ ?k6; (case k1 => is_list); (case k2 => first | with_reducible assumption | decide | exact Int.natCast_nonneg _ | omega); (case k3 => first | with_reducible assumption | decide | exact lt63 (by with_reducible assumption) | omega); (case k4 => first | assumption | rfl); (case k6 => with_unfolding_all rfl); k_whole)))
local macro_rules | `(tactic| walk_at "subscriptTail Name Constant ref int") => `(tactic| (k_here; (with_reducible show wpAny _ _ (subscriptTail _ _ (Value.ref _) (Value.int _ _)) _ _ _); (with_unfolding_all refine' my_item ?k1 ?k2 ?k3 ?k4 ?_ ?k6; (case k1 => is_list); (case k2 => first | with_reducible assumption | decide | exact Int.natCast_nonneg _ | omega); (case k3 => first | with_reducible assumption | decide | exact lt63 (by with_reducible assumption) | omega); (case k4 => first | assumption | rfl); (case k6 => with_unfolding_all rfl); k_whole)))
local macro_rules | `(tactic| walk_at "exec For Tuple Name cons nil") => `(tactic| (k_here; refine halt ?_))
local macro_rules | `(tactic| walk_at "pyIter ref") => `(tactic| (k_here; refine halt ?_))
local macro_rules | `(tactic| walk_at "call ref") => `(tactic| (k_here; refine halt ?_))
local macro_rules | `(tactic| walk_at "exec Assign cons ListComp") => `(tactic| (k_here; refine halt ?_))
local macro_rules | `(tactic| walk_at "eval ListComp") => `(tactic| (k_here; refine halt ?_))
local macro_rules | `(tactic| k_all) => `(tactic| (refine pk_ne (by assumption) ?_; first | ((repeat (first | exact Nat.le_refl _ | exact Nat.le_of_lt (by with_reducible assumption) | refine Nat.le_succ_of_le ?_)); done) | omega))
theorem t_law4 (w : World) {dp un : Nat} {gd : Option (List Code)} {outer : List Env} {g : Heap} {dr : Drawn} {os : OsState} {base : Heap} {p : Program} {loose : List Str} {mean : ExcName → Option Value} {mg mb : Str → Option Value} {L' : Nat} {h : Heap} {tk : Nat} {gs : Array GenState} {m : Str → Option Value}
    {name qual : Str} {params : Arguments} {body : List Stmt} {scope : Scope} {dV kV doc pm cdv ct oc : Value} {an od : Option Addr} {osl : Array (Option Value)}
    (ho : (Mine.h39 w.params).lookup 142 = some ⟨oc, od, .func (fnOf name qual params body scope dV kV doc pm an cdv ct), osl⟩)
    (hd : dp + 40 < recursionLimit) (hu : un + 8 * 40 < cLine) (h139 : 139 < L') (B : Below (spot dp un gd outer) base outer g) (X' : (Mine.h39 w.params).In g) (T' : Top p loose mean mg mb g)
    (F : Fr g L' h m) (htk : 650 ≤ tk)
    (cs : List (List (Fin 6))) (h5 : cs.length = 5) (hok : ∀ c ∈ cs, 2 ≤ c.length ∧ c.length ≤ 4)
    {D9 D10 D12 : Addr} {rc rk : Array Value} {n9 n10 n12 : Nat} {O0 O1 O2 O3 O4 O5 : Int} {f0 f1 f2 f3 f4 f5 : Tok} {o1 o2 o3 o4 o5 o6 o7 : Obj} {w1 w2 w3 w5 w6 : Option Value} {pk : List (Addr × Obj)}
    (N : News g L' h ((D12, { cls := .type "list", data := .seq #[.int O0 f0, .int O1 f1, .int O2 f2, .int O3 f3, .int O4 f4, .int O5 f5] n12 }) :: (D10, { cls := .type "list", data := .seq rk n10 }) :: (D9, { cls := .type "list", data := .seq rc n9 }) ::
      (L' + 1 + 1 + 1 + 1 + 1 + 1 + 1, o7) :: (L' + 1 + 1 + 1 + 1 + 1 + 1, o6) :: (L' + 1 + 1 + 1 + 1 + 1, o5) :: (L' + 1 + 1 + 1 + 1, o4) :: (L' + 1 + 1 + 1, o3) :: (L' + 1 + 1, o2) :: (L' + 1, o1) :: (139, tabObj #[]) :: pk))
    (hmo : m (Str.ofString "over") = some (.ref D12)) (e7 : o7.data = .cell (some (.ref D10))) (e6 : o6.data = .cell w6) (e5 : o5.data = .cell w5) (e4 : o4.data = .cell (some (.ref D9))) (e3 : o3.data = .cell w3) (e2 : o2.data = .cell w2) (e1 : o1.data = .cell w1)
    (hD10 : @LT.lt Nat _ (L' + 1 + 1 + 1 + 1 + 1 + 1 + 1) D10) (hD9 : @LT.lt Nat _ (L' + 1 + 1 + 1 + 1 + 1 + 1 + 1) D9) (hD12 : @LT.lt Nat _ (L' + 1 + 1 + 1 + 1 + 1 + 1 + 1) D12)
    (hpk : ∀ q ∈ pk, @LT.lt Nat _ (L' + 1 + 1 + 1 + 1 + 1 + 1 + 1) q.1)
    (hrc : rc.size = 5) (hrk : rk.size = 5)
    (hK : ∀ i, i < 5 → ∃ c t, cs[i]? = some c ∧ rk[i]? = some (.int (rankZ cs c) t))
    (hC' : RowsIn pk rc cs)
    (b0 : Bd7 O0) (b1 : Bd7 O1) (b2 : Bd7 O2) (b3 : Bd7 O3) (b4 : Bd7 O4) (b5 : Bd7 O5) (hlaw : LawSum cs (O0 * O1 - O2 * O3 + O4 * O5)) :
    wpAny (model PySem.Challenge.rw_to0015_01.row.prog w) ((spot dp un gd outer).deeper (envOfC qual scope L' 142 cdv)) (execs (body.drop 13) (envOfC qual scope L' 142 cdv))
      (fun fl s' => LawEnd g L' gs dr os fl s') (fun _ _ => False) { heap := h, gens := gs, drawn := dr, toks := tk, os := os } := by
  (have hX := X'; revert hX; k_fill; intro hX)
  refine with_ho (K := Mine.h39 w.params) (f := 142) (by k_is) ?_
  intro ho2
  refine hide fun G9 bk9 => ?_
  obtain ⟨rfl, rfl, rfl, rfl⟩ := fn_inj ho ho2
  refine bk9 ?_
  clear bk9 G9
  clear ho ho2
  dsimp only [List.drop]
  have g0 : (#[.int O0 f0, .int O1 f1, .int O2 f2, .int O3 f3, .int O4 f4, .int O5 f5] : Array Value)[Int.toNat 0]? = some (.int O0 f0) := rfl
  have g1 : (#[.int O0 f0, .int O1 f1, .int O2 f2, .int O3 f3, .int O4 f4, .int O5 f5] : Array Value)[Int.toNat 1]? = some (.int O1 f1) := rfl
  have g2 : (#[.int O0 f0, .int O1 f1, .int O2 f2, .int O3 f3, .int O4 f4, .int O5 f5] : Array Value)[Int.toNat 2]? = some (.int O2 f2) := rfl
  have g3 : (#[.int O0 f0, .int O1 f1, .int O2 f2, .int O3 f3, .int O4 f4, .int O5 f5] : Array Value)[Int.toNat 3]? = some (.int O3 f3) := rfl
  have g4 : (#[.int O0 f0, .int O1 f1, .int O2 f2, .int O3 f3, .int O4 f4, .int O5 f5] : Array Value)[Int.toNat 4]? = some (.int O4 f4) := rfl
  have g5 : (#[.int O0 f0, .int O1 f1, .int O2 f2, .int O3 f3, .int O4 f4, .int O5 f5] : Array Value)[Int.toNat 5]? = some (.int O5 f5) := rfl
  (try k_unmd)
  (try dsimp only)
  k_fold
  k_steps
  refine unhalt ?_
  (rename Fr _ _ _ _ => F9); (rename News _ _ _ _ => N9)
  k_dflt (refine Tells.use (t_mul _ _ _ _ _ (Bd7.m (by assumption) (by assumption))) B F9 (by assumption) (by assumption) rfl rfl trivial (by first | exact upd (by assumption) | omega) (by first | exact upu (by assumption) | omega) ?_)
  intro v9 h9 tk9 g9 ht9 p9
  obtain ⟨u9, rfl⟩ := p9
  replace F9 := Fr.keeps F9 g9
  replace N9 := News.grown N9 g9
  clear g9
  (try dsimp only)
  (try k_sweep)
  k_steps
  refine unhalt ?_
  (rename Fr _ _ _ _ => F9); (rename News _ _ _ _ => N9)
  k_dflt (refine Tells.use (t_mul _ _ _ _ _ (Bd7.m (by assumption) (by assumption))) B F9 (by assumption) (by assumption) rfl rfl trivial (by first | exact upd (by assumption) | omega) (by first | exact upu (by assumption) | omega) ?_)
  intro v9 h9 tk9 g9 ht9 p9
  obtain ⟨u9, rfl⟩ := p9
  replace F9 := Fr.keeps F9 g9
  replace N9 := News.grown N9 g9
  clear g9
  (try dsimp only)
  (try k_sweep)
  k_steps
  refine unhalt ?_
  (rename Fr _ _ _ _ => F9); (rename News _ _ _ _ => N9)
  k_dflt (refine Tells.use (t_sub _ _ _ _ _) B F9 (by assumption) (by assumption) rfl rfl trivial (by first | exact upd (by assumption) | omega) (by first | exact upu (by assumption) | omega) ?_)
  intro v9 h9 tk9 g9 ht9 p9
  obtain ⟨u9, rfl⟩ := p9
  replace F9 := Fr.keeps F9 g9
  replace N9 := News.grown N9 g9
  clear g9
  (try dsimp only)
  (try k_sweep)
  k_steps
  refine unhalt ?_
  (rename Fr _ _ _ _ => F9); (rename News _ _ _ _ => N9)
  k_dflt (refine Tells.use (t_mul _ _ _ _ _ (Bd7.m (by assumption) (by assumption))) B F9 (by assumption) (by assumption) rfl rfl trivial (by first | exact upd (by assumption) | omega) (by first | exact upu (by assumption) | omega) ?_)
  intro v9 h9 tk9 g9 ht9 p9
  obtain ⟨u9, rfl⟩ := p9
  replace F9 := Fr.keeps F9 g9
  replace N9 := News.grown N9 g9
  clear g9
  (try dsimp only)
  (try k_sweep)
  k_steps
  refine unhalt ?_
  (rename Fr _ _ _ _ => F9); (rename News _ _ _ _ => N9)
  k_dflt (refine Tells.use (t_add _ _ _ _ _) B F9 (by assumption) (by assumption) rfl rfl trivial (by first | exact upd (by assumption) | omega) (by first | exact upu (by assumption) | omega) ?_)
  intro v9 h9 tk9 g9 ht9 p9
  obtain ⟨u9, rfl⟩ := p9
  replace F9 := Fr.keeps F9 g9
  replace N9 := News.grown N9 g9
  clear g9
  (try dsimp only)
  (try k_sweep)
  k_steps
  refine unhalt ?_
  walk_at "exec Assign"
  k_steps
  refine unhalt ?_
  k_dflt (refine comp_eval (by with_unfolding_all rfl) (by decide) (by rfl) (by decide) ?_)
  k_steps
  refine unhalt ?_
  (rename Fr _ _ _ _ => F9); (rename News _ _ _ _ => N9)
  (with_unfolding_all refine' range_new F9 N9 ?_)
  intro rR hR tR uR vR tkR FR NR lR htR
  (try dsimp only)
  (try k_sweep)
  k_steps
  k_dflt (refine kla_eval (by exact rfl) ?_)
  (rename Fr _ _ _ _ => F8); (rename News _ _ _ _ => N8)
  refine lam_new (c := 141) (P := 139) F8 N8 T' (codeHd_of_K (c := 141) (P := 139) X' (by kernel_rfl)) rfl rfl (by k_updF) (by with_unfolding_all rfl) ?_
  intro lf lc oc lvs lt lct lpm ql more h9 tk9 F9 N9 d1 d2 l1 l2 l3
  (try dsimp only at N9)
  (try dsimp only)
  clear N8 F8
  k_steps
  refine unhalt ?_
  (show wpAny _ _ (call (Value.builtin _) [Value.ref _] [(PySem.Str.ofString "key", _)]) _ _ _)
  have hr15 : IsRange h9 rR 0 ((5 : Nat) : Int) 1 tR uR vR := News.get N9 (by repeat (first | exact List.mem_cons_self | apply List.mem_cons_of_mem))
  refine sorted_rng (kz := (List.range 5).map fun i => rankZ cs (cs.getD i [])) (h₀ := g) (L := L') (n := 5) ?hh15 F9 N9 hr15 (rng5 5 (by decide)).1 (rng5 5 (by decide)).2 (by decide) (by simp) ?turn15 ?fin15
  case hh15 => rfl
  case turn15 =>
    intro i t k S hi hk h1 tk1 own F1 N1 hS
    refine hide fun G9 bk9 => ?_
    obtain ⟨h0, tk0, rfl⟩ := hS
    refine bk9 ?_
    clear bk9 G9
    simp only [List.cons_append] at N1
    refine hide fun G9 bk9 => ?_
    obtain ⟨ci, ti, hci, hki⟩ := hK i hi
    refine bk9 ?_
    clear bk9 G9
    have hki' : rk[((i : Nat) : Int).toNat]? = some (.int (rankZ cs ci) ti) := hki
    (try dsimp only)
    refine wpAny_call ?_
    refine' kla_code (binds := [(Str.ofString "place", Value.int (i : Int) t)]) ?k1 ?k2 ?k3 ?k4 ?k5 ?kA ?kF ?kK ?k6 ?k7 ?k8 ?k9 ?kB ?_ ?c2 ?c3 ?c4 ?c5
    case kA => exact rfl
    case kF => exact rfl
    case kK => exact rfl
    case k1 => exact B
    case k2 => exact F1
    case k3 => exact X'
    case k4 => exact N1
    case k5 => exact T'
    case k6 => k_mem
    case k7 => exact codeRec_news (by k_asm) (by k_mem) (by assumption) (by assumption)
    case k8 => (show dp + 1 < recursionLimit); omega
    case k9 => exact rfl
    case c5 => decide
    case kB => exact locs rfl
    case c2 => exact rfl
    case c3 => exact rfl
    case c4 => exact rfl
    intro g2 L2 h2 FG2 F2 N2 B2 X2 T2
    (try dsimp only)
    walk1
    refine nameX_F (c := L' + 1 + 1 + 1 + 1 + 1 + 1 + 1) (o := o7) (v := .ref D10) N2 rfl (by repeat (first | exact List.mem_cons_self | apply List.mem_cons_of_mem)) e7 ?_
    refine nameX_L F2 rfl ?_
    refine my_item (vs := rk) (v := .int (rankZ cs ci) ti) ⟨_, News.get N2 (o := { cls := .type "list", data := .seq rk n10 }) (by repeat (first | exact List.mem_cons_self | apply List.mem_cons_of_mem)), rfl, _, rfl⟩ (by omega) (by omega) hki' ?_
    have hkk : k = rankZ cs ci := by
      rw [List.getElem?_map, List.getElem?_range hi] at hk
      have e := Option.some.inj hk
      rw [← e]
      show rankZ cs (cs.getD i []) = _
      rw [List.getD_eq_getElem?_getD, hci]
      rfl
    subst hkk
    refine leaveK_ F2 N2 ?_
    intro kF kN
    exact KskEnd.intro kF kN (fun p hp => hp)
  case fin15 =>
    intro D15 h15 tk15 vs out c15 F15 N15 hl15 hit hko
    refine hide fun G9 bk9 => ?_
    obtain ⟨ps, hpp, hpw, hos, hout⟩ := sorted_places (r := fun i => rankZ cs (cs.getD i [])) hit hko
    refine bk9 ?_
    clear bk9 G9
    have lD15 : @LT.lt Nat _ (L' + 1 + 1 + 1 + 1 + 1 + 1 + 1) D15 := hl15 (_, o7) (by repeat (first | exact List.mem_cons_self | apply List.mem_cons_of_mem))
    have N16 : News g L' h15 ((D15, { cls := .type "list", data := .seq out c15 }) :: (D9, { cls := .type "list", data := .seq rc n9 }) ::
      (L' + 1 + 1 + 1 + 1 + 1 + 1 + 1, o7) :: (L' + 1 + 1 + 1 + 1 + 1 + 1, o6) :: (L' + 1 + 1 + 1 + 1 + 1, o5) :: (L' + 1 + 1 + 1 + 1, o4) :: (L' + 1 + 1 + 1, o3) :: (L' + 1 + 1, o2) :: (L' + 1, o1) :: (139, tabObj more) :: pk) := fun q hq => by
      rcases List.mem_cons.mp hq with rfl | hq
      · exact N15 _ List.mem_cons_self
      · exact N15 _ (List.mem_cons_of_mem _ (List.mem_cons_of_mem _ (List.mem_cons_of_mem _ (List.mem_cons_of_mem _ (List.mem_cons_of_mem _ (List.mem_cons_of_mem _ hq))))))
    clear N15 hl15 hko hit N9 F9 l1 l2 l3 d1 d2 hr15
    (try dsimp only)
    (try k_sweep)
    k_steps
    refine unhalt ?_
    refine src_list (its := out) (h₀ := g) (L := L') ?ha16 F15 N16 ?hb16 ?hc16 (fun _ => true) (fun i y _ => ∃ p, ps[i]? = some p ∧ rc[p]? = some y) ?tn16 ?fn16
    case ha16 => rfl
    case hb16 => is_list
    case hc16 => rw [hos]; show 5 ≤ 16777216; omega
    case tn16 =>
      intro h₂ F2 N2 ap g2 C i v h₃ tk₃ mC E' hC hi hV hn hk htk3
      have hi5 : i < ps.length := by rw [hpp.length_eq, List.length_range, ← hos]; exact hi
      refine hide fun G9 bk9 => ?_
      obtain ⟨p, hpi⟩ : ∃ p, ps[i]? = some p := ⟨_, List.getElem?_eq_getElem hi5⟩
      have hp5 : p < 5 := by simpa using hpp.mem_iff.mp (List.mem_of_getElem? hpi)
      obtain ⟨tp, hop⟩ := hout i p hpi
      have hV' := hV.symm.trans hop
      obtain rfl := Option.some.inj hV'
      obtain ⟨cp, Rp, qp, zp, hr1, hr2, hr3, hr4⟩ := hC' p hp5
      refine bk9 ?_
      clear bk9 G9
      have hr2' : rc[((p : Nat) : Int).toNat]? = some (.ref Rp) := hr2
      refine turn_name F2 N2 ap hC hn hk htk3 rfl rfl ?_
      intro h₁ oC mC' tk₁ F₁ N₁ hoC hx hkb gg htk₁
      have hn1 := hoC.ns (N₁ (C, oC) List.mem_cons_self).1
      refine tests0 ?_
      (try k_unmd)
      (try dsimp only)
      k_fold
      k_steps
      exact eout2 hkb (Grow.rfl' _) hn1 fun _ _ _ => ⟨p, hpi, hr2⟩
    case fn16 =>
      intro h₂ F2 N2 ap g2 D16 h' tk16 ys hD16 hl hv hk htk16
      refine hide fun G9 bk9 => ?_
      obtain ⟨n16, F3, N3⟩ := fin_start F2 N2 ap hk hD16 hl
      obtain ⟨hlen16, hall16⟩ := hv.all
      refine bk9 ?_
      clear bk9 G9
      have lD16 : @LT.lt Nat _ (L' + 1 + 1 + 1 + 1 + 1 + 1 + 1) D16 := Nat.lt_of_lt_of_le (Heap.lt_size (News.get N2 (o := o7) (by repeat (first | exact List.mem_cons_self | apply List.mem_cons_of_mem)))) hD16
      have hY : RowsIn pk ys (ps.map fun i => cs.getD i []) := fun i hi => by
        have hi5 : i < ps.length := by rw [hpp.length_eq]; simpa using hi
        refine hide fun G9 bk9 => ?_
        obtain ⟨p, hpi⟩ : ∃ p, ps[i]? = some p := ⟨_, List.getElem?_eq_getElem hi5⟩
        have hp5 : p < 5 := by simpa using hpp.mem_iff.mp (List.mem_of_getElem? hpi)
        obtain ⟨cp, Rp, qp, zp, hr1, hr2, hr3, hr4⟩ := hC' p hp5
        have hy : i < ys.toList.length := by rw [hlen16, hos]; exact hi
        obtain ⟨p', hp', hr'⟩ := hall16 i _ (List.getElem?_eq_getElem hy)
        refine bk9 ?_
        clear bk9 G9
        obtain rfl : p = p' := Option.some.inj (hpi.symm.trans hp')
        refine ⟨cp, Rp, qp, zp, ?_, ?_, hr3, hr4⟩
        · rw [List.getElem?_map, hpi, Option.map_some, List.getD_eq_getElem?_getD, hr1]; rfl
        · have e := Option.some.inj (hr'.symm.trans hr2)
          have e2 := List.getElem?_eq_getElem hy
          rw [e] at e2
          simpa using e2
      have hys5 : ys.size = 5 := by have h := hlen16; simp only [Array.length_toList] at h; rw [h, hos]
      have hz := hlaw _ (perm_texts h5 hpp) (pair_texts hpw)
      have hdl : (ps.map fun i => cs.getD i []).length = 5 := by rw [List.length_map, hpp.length_eq, List.length_range]
      have hdok : ∀ c ∈ (ps.map fun i => cs.getD i []), 2 ≤ c.length ∧ c.length ≤ 4 := fun c hc => hok c ((perm_texts h5 hpp).mem_iff.mp hc)
      generalize (ps.map fun i => cs.getD i []) = ds at hY hz hdl hdok
      have N4 : News g L' h' ((D16, { cls := .type "list", data := .seq ys n16 }) :: 
        (L' + 1 + 1 + 1 + 1 + 1 + 1 + 1, o7) :: (L' + 1 + 1 + 1 + 1 + 1 + 1, o6) :: (L' + 1 + 1 + 1 + 1 + 1, o5) :: (L' + 1 + 1 + 1 + 1, o4) :: (L' + 1 + 1 + 1, o3) :: (L' + 1 + 1, o2) :: (L' + 1, o1) :: (139, tabObj more) :: pk) := fun q hq => by
        rcases List.mem_cons.mp hq with rfl | hq
        · exact N3 _ List.mem_cons_self
        · exact N3 _ (List.mem_cons_of_mem _ (List.mem_cons_of_mem _ (List.mem_cons_of_mem _ hq)))
      clear N3 N2 F2 ap g2 hD16 hl hv hk hall16 N16 F15 lD15 hout
      (try dsimp only)
      (try k_sweep)
      k_steps
      refine unhalt ?_
      k_dflt (refine comp_eval (by with_unfolding_all rfl) (by decide) (by rfl) (by decide) ?_)
      k_steps
      refine unhalt ?_
      (rename Fr _ _ _ _ => F9); (rename News _ _ _ _ => N9)
      (with_unfolding_all refine' range_new F9 N9 ?_)
      intro rR hR tR uR vR tkR FR NR lR htR
      (try dsimp only)
      (try k_sweep)
      k_steps
      refine unhalt ?_
      (rename Fr _ _ _ _ => F8); (rename News _ _ _ _ => N8)
      have hr17 : IsRange hR rR 0 ((5 : Nat) : Int) 1 tR uR vR := News.get N8 List.mem_cons_self
      refine src_range (a := 0) (b := ((5 : Nat) : Int)) (n := 5) (h₀ := g) (L := L') ?ha17 F8 N8 hr17 (rng5 5 (by decide)).1 (rng5 5 (by decide)).2 (by decide) (fun _ => true) (fun i y _ => ∃ t, y = .int (accF (cz (ds.eraseIdx i)) 6) t) ?tn17 ?fn17
      case ha17 => rfl
      case tn17 =>
        intro h₂ F2 N2 ap g2 C i v h₃ tk₃ mC E' hC hi hV hn hk htk3
        obtain ⟨tv, rfl⟩ := hV
        refine turn_name F2 N2 ap hC hn hk htk3 rfl rfl ?_
        intro h₁ oC mC' tk₁ F₁ N₁ hoC hx hkb gg htk₁
        have hn1 := hoC.ns (N₁ (C, oC) List.mem_cons_self).1
        refine tests0 ?_
        have hil : i + 1 ≤ ys.toList.length := by rw [Array.length_toList, hys5]; exact hi
        (try k_unmd)
        (try dsimp only)
        k_fold
        k_steps
        refine unhalt ?_
        (rename Fr _ _ _ _ => Fa); (rename News _ _ _ _ => Na)
        refine slice_upG (hb := h₁) Fa Na (Grow.rfl' _) (.tail _ (.tail _ List.mem_cons_self)) ?pa ?qa (pick_to _ i (Int.zero_add _) (Nat.le_of_succ_le hil)) ?_ ?sa ?ta (Nat.le_trans (Nat.le_of_eq hys5) (by decide))
        case pa => kmk_part
        case qa => kmk_part
        case sa => with_unfolding_all rfl
        case ta => kmk_pure
        intro Da ha Fa Na ga
        (try dsimp only)
        (try k_sweep)
        k_steps
        refine unhalt ?_
        (rename Fr _ _ _ _ => Fb); (rename News _ _ _ _ => Nb)
        refine slice_upG (hb := h₁) Fb Nb ga (.tail _ (.tail _ (.tail _ List.mem_cons_self))) ?pb ?qb (pick_from _ (i + 1) (z := 0 + (i : Int) + 1) (by omega) hil) ?_ ?sb ?tb (Nat.le_trans (Nat.le_of_eq hys5) (by decide))
        case pb => kmk_part
        case qb => kmk_part
        case sb => with_unfolding_all rfl
        case tb => kmk_pure
        intro Db hb Fb Nb gb
        (try dsimp only)
        (try k_sweep)
        k_steps
        refine unhalt ?_
        refine add_upG (hb := h₁) Fb Nb gb (.tail _ List.mem_cons_self) (.head _) rfl (Nat.le_trans (Nat.le_of_eq List.length_append.symm) (by rw [← List.eraseIdx_eq_take_drop_succ]; exact Nat.le_trans (List.length_eraseIdx_le _ _) (Nat.le_trans (Nat.le_of_eq (Array.length_toList.trans hys5)) (by decide)))) ?_
        intro Dc hc Fc Nc gc
        (try dsimp only)
        (try k_sweep)
        k_steps
        refine Tells.use (t_four w _ (cz (ds.eraseIdx i))) B Fc X' T' rfl rfl (four_of (o := i) hdok ⟨_, News.get Nc List.mem_cons_self, rfl, _, rfl⟩ ?sz (fun k _ => erase_at' ys i k) (fun i hi => hY.row Nc (fun q hq => by repeat (first | exact hq | apply List.mem_cons_of_mem)) i hi)) (by first | exact upd (by assumption) | omega) (by first | exact upu (by assumption) | omega) ?_
        case sz =>
          show (ys.toList.take i ++ ys.toList.drop (i + 1)).length = 4
          rw [← List.eraseIdx_eq_take_drop_succ, List.length_eraseIdx, Array.length_toList, hys5, if_pos hi]
        intro v9 h9 tk9 g9 ht9 p9
        obtain ⟨t9, rfl⟩ := p9
        exact ⟨rfl, eout2 hkb (Grow.trans gc g9) hn1 fun _ _ _ => ⟨t9, rfl⟩⟩
      case fn17 =>
        intro h₂ F2 N2 ap g2 D17 h' tk17 ys hD17 hl hv hk htk17
        refine hide fun G9 bk9 => ?_
        obtain ⟨n17, F3, N3⟩ := fin_start F2 N2 ap hk hD17 hl
        obtain ⟨ys⟩ := ys
        obtain ⟨hlen17, hall17⟩ := hv.all
        obtain ⟨u0, u1, u2, u3, u4, rfl⟩ := five_sums hlen17 hall17
        refine bk9 ?_
        clear bk9 G9
        clear F2 N2 ap g2 hD17 hl hv hk hall17
        (try dsimp only)
        (try k_sweep)
        k_steps
        (rename Fr _ _ _ _ => F18); (rename News _ _ _ _ => N18)
        refine ⟨?hb17, _, _, _, more, rfl, F18, News.get N18 (by repeat (first | exact List.mem_cons_self | apply List.mem_cons_of_mem))⟩
        have h5s : four5 ds = accF (cz (ds.eraseIdx 0)) 6 + (accF (cz (ds.eraseIdx 1)) 6 + (accF (cz (ds.eraseIdx 2)) 6 + (accF (cz (ds.eraseIdx 3)) 6 + (accF (cz (ds.eraseIdx 4)) 6 + 0)))) := rfl
        rw [← h5s, ← hz, beq_self_eq_true]
end
section
noncomputable def g139 (h : Heap) : Heap := hideAll h [139]
theorem g139_keep {h : Heap} {b : Addr} {o : Obj} (hb : b ≠ 139) (e : h.get? b = some o) : (g139 h).get? b = some o := hideAll_get [139] e (by simpa using hb)
theorem g139_of {h : Heap} {b : Addr} {o : Obj} (e : (g139 h).get? b = some o) : h.get? b = some o := of_hideAll [139] e
theorem g139_none {h : Heap} : (g139 h).get? 139 = none := hideAll_none [139] (by simp)
theorem g139_size {h : Heap} : (g139 h).objs.size = h.objs.size := hideAll_size [139] h
noncomputable def p139 : Program := { (default : Program) with main := { (default : Module) with body := [.Import [{ name := Str.ofString "sys", asname := none, pos := default }] default] } }
theorem top139 {p : Program} {loose : List Str} {mean : ExcName → Option Value} {mg mb : Str → Option Value} {h : Heap} {ps : Array Value} (T : Top p loose mean mg mb h) (h9 : h.get? 139 = some (tabObj ps)) :
    ∃ loose', Top p139 loose' mean mg mb (g139 h) := by
  have hx : Heap.ExtBut 139 h (g139 h) := fun b o hb e => g139_keep hb e
  refine ⟨loose ++ (recsOf p).map (·.name) ++ (litsOf p).map (·.1) ++ (clssOf p loose).map (·.name), ?_⟩
  refine { g := T.g.extBut hx (by decide), b := T.b.extBut hx (by decide), nolimit := ?_, nodigits := ?_, fn := ?_, own := ?_, const := ?_, free := ?_, builtins := T.builtins, tab := ?_, bmain := ?_, seer := ?_ }
  · refine hide fun G9 bk9 => ?_
    obtain ⟨mc, h1, h2⟩ := T.nolimit
    refine bk9 ?_
    clear bk9 G9
    exact ⟨mc, h1.extBut hx (by decide), h2⟩
  · refine hide fun G9 bk9 => ?_
    obtain ⟨mc, h1, h2⟩ := T.nodigits
    refine bk9 ?_
    clear bk9 G9
    exact ⟨mc, h1.extBut hx (by decide), h2⟩
  · intro d hd
    have e : recsOf p139 = [] := rfl
    rw [e] at hd; cases hd
  · intro d hd
    have e : ownsOf p139 = [] := rfl
    rw [e] at hd; cases hd
  · intro x d hd
    have e : valOf p139 x = none := rfl
    rw [e] at hd; cases hd
  · intro x h1 h2 _ _ _
    simp only [List.mem_append, not_or] at h2
    exact T.free x h1 h2.1.1.1 h2.1.1.2 h2.1.2 h2.2
  · intro d hd
    have e : recsOf p139 = [] := rfl
    rw [e] at hd; cases hd
  · refine hide fun G9 bk9 => ?_
    obtain ⟨bm, ob, b1, b2, b3, b4, b5, b6⟩ := T.bmain
    refine bk9 ?_
    clear bk9 G9
    refine ⟨bm, ob, b1, b2, g139_keep (fun q => ?_) b3, b4, b5, b6⟩
    rw [q, h9] at b3
    obtain rfl := Option.some.inj b3
    cases b6
  · intro hi
    have e : importsNone p139 = false := by decide +kernel
    rw [e] at hi; cases hi
theorem k139 (w : World) : (h39 w.params).any (fun p => Nat.beq p.1 139) = false := by
  unfold h39
  with_unfolding_all rfl
theorem lookup_ne : ∀ (K : Frag), K.any (fun p => Nat.beq p.1 139) = false → ∀ b o, K.lookup b = some o → b ≠ 139
  | [], _, _, _, h => by cases h
  | (a, o') :: r, hk, b, o, h => by
    rw [List.any_cons, Bool.or_eq_false_iff] at hk
    rw [List.lookup_cons] at h
    cases e : b == a with
    | true =>
      have e' : b = a := eq_of_beq e
      intro q
      rw [← e', q] at hk
      exact absurd hk.1 (by simp)
    | false =>
      rw [e] at h
      exact lookup_ne r hk.2 b o h
theorem in139 {w : World} {h : Heap} (X : (h39 w.params).In h) : (h39 w.params).In (g139 h) := fun b o e => g139_keep (lookup_ne _ (k139 w) b o e) (X b o e)
noncomputable def LawOut (s : Shared) (fl : Flow) (s' : Shared) : Prop :=
  fl = .ret (.bool true) ∧ ∃ h' gs' tk' more, s' = { s with heap := h', gens := gs', toks := tk' } ∧ (∀ b o, b ≠ 139 → s.heap.get? b = some o → h'.get? b = some o) ∧ h'.get? 139 = some (tabObj more) ∧ (AllB s.gens → AllB gs')
theorem law_out {s : Shared} {L' : Nat} {gs : Array GenState} {fl : Flow} {s' : Shared} (hgs : AllB s.gens → AllB gs) (h : LawEnd (g139 s.heap) L' gs s.drawn s.os fl s') : LawOut s fl s' := by
  refine hide fun G9 bk9 => ?_
  obtain ⟨rfl, h', tk', m', more, rfl, F, h9⟩ := h
  refine bk9 ?_
  clear bk9 G9
  exact ⟨rfl, h', gs, tk', more, rfl, fun b o hb e => F.keep b o (g139_keep hb e), h9, hgs⟩
theorem fr139 {h₀ h : Heap} {L : Addr} {m : Str → Option Value} (F : Fr h₀ L h m) : Fr (g139 h₀) L h m := ⟨F.ns, fun b o e => F.keep b o (g139_of e), by rw [g139_size]; exact F.above⟩
theorem news139 {h₀ h : Heap} {L : Addr} {news : List (Addr × Obj)} (N : News h₀ L h news) : News (g139 h₀) L h news := fun q hq => ⟨(N q hq).1, (N q hq).2.1, by
  cases e : (g139 h₀).get? q.1 with
  | none => rfl
  | some o => have := g139_of e; rw [(N q hq).2.2] at this; cases this⟩
end
section
theorem pf5 (x00 x01 x02 x03 x10 x11 x12 x13 x20 x21 x22 x23 x30 x31 x32 x33 x40 x41 x42 x43 : Int) : (((x00*x11-x10*x01)+((x00*x21-x20*x01)+((x00*x31-x30*x01)+((x00*x41-x40*x01)+0))))+(((x10*x21-x20*x11)+((x10*x31-x30*x11)+((x10*x41-x40*x11)+0)))+(((x20*x31-x30*x21)+((x20*x41-x40*x21)+0))+(((x30*x41-x40*x31)+0)+(0+0)))))*(((x02*x13-x12*x03)+((x02*x23-x22*x03)+((x02*x33-x32*x03)+((x02*x43-x42*x03)+0))))+(((x12*x23-x22*x13)+((x12*x33-x32*x13)+((x12*x43-x42*x13)+0)))+(((x22*x33-x32*x23)+((x22*x43-x42*x23)+0))+(((x32*x43-x42*x33)+0)+(0+0)))))-(((x00*x12-x10*x02)+((x00*x22-x20*x02)+((x00*x32-x30*x02)+((x00*x42-x40*x02)+0))))+(((x10*x22-x20*x12)+((x10*x32-x30*x12)+((x10*x42-x40*x12)+0)))+(((x20*x32-x30*x22)+((x20*x42-x40*x22)+0))+(((x30*x42-x40*x32)+0)+(0+0)))))*(((x01*x13-x11*x03)+((x01*x23-x21*x03)+((x01*x33-x31*x03)+((x01*x43-x41*x03)+0))))+(((x11*x23-x21*x13)+((x11*x33-x31*x13)+((x11*x43-x41*x13)+0)))+(((x21*x33-x31*x23)+((x21*x43-x41*x23)+0))+(((x31*x43-x41*x33)+0)+(0+0)))))+(((x00*x13-x10*x03)+((x00*x23-x20*x03)+((x00*x33-x30*x03)+((x00*x43-x40*x03)+0))))+(((x10*x23-x20*x13)+((x10*x33-x30*x13)+((x10*x43-x40*x13)+0)))+(((x20*x33-x30*x23)+((x20*x43-x40*x23)+0))+(((x30*x43-x40*x33)+0)+(0+0)))))*(((x01*x12-x11*x02)+((x01*x22-x21*x02)+((x01*x32-x31*x02)+((x01*x42-x41*x02)+0))))+(((x11*x22-x21*x12)+((x11*x32-x31*x12)+((x11*x42-x41*x12)+0)))+(((x21*x32-x31*x22)+((x21*x42-x41*x22)+0))+(((x31*x42-x41*x32)+0)+(0+0))))) = (0+(x10*x21-x11*x20)*(x32*x43-x33*x42)-(x10*x31-x11*x30)*(x22*x43-x23*x42)+(x10*x41-x11*x40)*(x22*x33-x23*x32)+(x20*x31-x21*x30)*(x12*x43-x13*x42)-(x20*x41-x21*x40)*(x12*x33-x13*x32)+(x30*x41-x31*x40)*(x12*x23-x13*x22))+(0+(x00*x21-x01*x20)*(x32*x43-x33*x42)-(x00*x31-x01*x30)*(x22*x43-x23*x42)+(x00*x41-x01*x40)*(x22*x33-x23*x32)+(x20*x31-x21*x30)*(x02*x43-x03*x42)-(x20*x41-x21*x40)*(x02*x33-x03*x32)+(x30*x41-x31*x40)*(x02*x23-x03*x22))+(0+(x00*x11-x01*x10)*(x32*x43-x33*x42)-(x00*x31-x01*x30)*(x12*x43-x13*x42)+(x00*x41-x01*x40)*(x12*x33-x13*x32)+(x10*x31-x11*x30)*(x02*x43-x03*x42)-(x10*x41-x11*x40)*(x02*x33-x03*x32)+(x30*x41-x31*x40)*(x02*x13-x03*x12))+(0+(x00*x11-x01*x10)*(x22*x43-x23*x42)-(x00*x21-x01*x20)*(x12*x43-x13*x42)+(x00*x41-x01*x40)*(x12*x23-x13*x22)+(x10*x21-x11*x20)*(x02*x43-x03*x42)-(x10*x41-x11*x40)*(x02*x23-x03*x22)+(x20*x41-x21*x40)*(x02*x13-x03*x12))+(0+(x00*x11-x01*x10)*(x22*x33-x23*x32)-(x00*x21-x01*x20)*(x12*x33-x13*x32)+(x00*x31-x01*x30)*(x12*x23-x13*x22)+(x10*x21-x11*x20)*(x02*x33-x03*x32)-(x10*x31-x11*x30)*(x02*x23-x03*x22)+(x20*x31-x21*x30)*(x02*x13-x03*x12)) := by grind (ringSteps := 1000000)
end
section
noncomputable def kz (c : List (Fin 6)) (j : Nat) : Int := ((countsZ (textOf c))[j]?).getD 0
noncomputable def ft (r s : Nat) (c d : List (Fin 6)) : Int := cmpZ (textOf d) (textOf c) * (kz c r * kz d s - kz d r * kz c s)
theorem cmpZ_neg (a b : Str) : cmpZ a b = - cmpZ b a := by unfold cmpZ; omega
theorem ft_symm (r s : Nat) (c d : List (Fin 6)) : ft r s c d = ft r s d c := by
  unfold ft
  rw [cmpZ_neg (textOf d) (textOf c), Int.neg_mul, ← Int.mul_neg, Int.neg_sub]
noncomputable def sumL {α : Type} (g : α → Int) : List α → Int
  | [] => 0
  | x :: l => g x + sumL g l
noncomputable def pairSum {α : Type} (g : α → α → Int) : List α → Int
  | [] => 0
  | x :: l => sumL (g x) l + pairSum g l
theorem sumL_perm {α : Type} (g : α → Int) {l m : List α} (h : l.Perm m) : sumL g l = sumL g m := by
  induction h with
  | nil => rfl
  | cons x _ ih => simp only [sumL, ih]
  | swap x y l => simp only [sumL]; omega
  | trans _ _ h1 h2 => exact h1.trans h2
theorem pairSum_perm {α : Type} {g : α → α → Int} (hg : ∀ x y, g x y = g y x) {l m : List α} (h : l.Perm m) : pairSum g l = pairSum g m := by
  induction h with
  | nil => rfl
  | cons x p ih => simp only [pairSum, ih, sumL_perm (g x) p]
  | swap x y l =>
    simp only [pairSum, sumL]
    have := hg x y
    omega
  | trans _ _ h1 h2 => exact h1.trans h2
theorem over_pair (r s : Nat) (a b c d e : List (Fin 6)) : overZ (cz [a, b, c, d, e]) r s (sgOf [a, b, c, d, e]) = pairSum (ft r s) [a, b, c, d, e] := by
  have h : overZ (cz [a, b, c, d, e]) r s (sgOf [a, b, c, d, e]) = ft r s a b + (ft r s a c + (ft r s b c + (ft r s a d + (ft r s b d + (ft r s c d + (ft r s a e + (ft r s b e + (ft r s c e + (ft r s d e + 0))))))))) := rfl
  rw [h]
  simp only [pairSum, sumL]
  omega
theorem ft_sorted {cs : List (List (Fin 6))} {c d : List (Fin 6)} (hc : c ∈ cs) (hd : d ∈ cs) (h : rankZ cs c ≤ rankZ cs d) (r s : Nat) : ft r s c d = kz c r * kz d s - kz d r * kz c s := by
  have hn : ¬ (textOf d).cps.toList < (textOf c).cps.toList := fun q => by
    have := (rank_lt (cs := cs) hd).mpr q
    omega
  rcases lt_tri (textOf c).cps.toList (textOf d).cps.toList with h1 | h1 | h1
  · have e : cmpZ (textOf d) (textOf c) = 1 := by
      unfold cmpZ b2i
      rw [decide_eq_true h1, decide_eq_false hn]
      rfl
    unfold ft
    rw [e, Int.one_mul]
  · have e : textOf c = textOf d := by
      cases hx : textOf c
      cases hy : textOf d
      rw [hx, hy] at h1
      simpa using h1
    have ek : ∀ j, kz c j = kz d j := fun j => by unfold kz; rw [e]
    unfold ft
    rw [ek r, ek s, Int.sub_self, Int.mul_zero]
  · exact absurd h1 hn
theorem plain_law (cs : List (List (Fin 6))) (h5 : cs.length = 5) (hok : ∀ c ∈ cs, 2 ≤ c.length ∧ c.length ≤ 4) :
    LawSum cs (overZ (cz cs) 0 1 (sgOf cs) * overZ (cz cs) 2 3 (sgOf cs) - overZ (cz cs) 0 2 (sgOf cs) * overZ (cz cs) 1 3 (sgOf cs) + overZ (cz cs) 0 3 (sgOf cs) * overZ (cz cs) 1 2 (sgOf cs)) := by
  intro ds hp hw
  have hl : ds.length = 5 := hp.length_eq.trans h5
  have key : ∀ r s, overZ (cz cs) r s (sgOf cs) = pairSum (ft r s) ds := fun r s => by
    refine hide fun G9 bk9 => ?_
    obtain ⟨a, r1, rfl, h1⟩ := len_succ h5
    obtain ⟨b, r2, rfl, h2⟩ := len_succ h1
    obtain ⟨c, r3, rfl, h3⟩ := len_succ h2
    obtain ⟨d, r4, rfl, h4⟩ := len_succ h3
    obtain ⟨e, r5, rfl, h6⟩ := len_succ h4
    refine bk9 ?_
    clear bk9 G9
    obtain rfl := List.eq_nil_of_length_eq_zero h6
    rw [over_pair]
    exact (pairSum_perm (ft_symm r s) hp).symm
  rw [key, key, key, key, key, key]
  have hm : ∀ d ∈ ds, d ∈ cs := fun d hd => hp.mem_iff.mp hd
  refine hide fun G9 bk9 => ?_
  obtain ⟨d0, r1, rfl, h1⟩ := len_succ hl
  obtain ⟨d1, r2, rfl, h2⟩ := len_succ h1
  obtain ⟨d2, r3, rfl, h3⟩ := len_succ h2
  obtain ⟨d3, r4, rfl, h4⟩ := len_succ h3
  obtain ⟨d4, r5, rfl, h6⟩ := len_succ h4
  refine bk9 ?_
  clear bk9 G9
  obtain rfl := List.eq_nil_of_length_eq_zero h6
  simp only [List.pairwise_cons, List.mem_cons, List.not_mem_nil, or_false, forall_eq_or_imp, forall_eq] at hw hm
  refine hide fun G9 bk9 => ?_
  obtain ⟨⟨w01, w02, w03, w04⟩, ⟨w12, w13, w14⟩, ⟨w23, w24⟩, w34, _⟩ := hw
  obtain ⟨m0, m1, m2, m3, m4⟩ := hm
  refine bk9 ?_
  clear bk9 G9
  have ps : ∀ r s, pairSum (ft r s) [d0, d1, d2, d3, d4] = (((kz d0 r * kz d1 s - kz d1 r * kz d0 s)+((kz d0 r * kz d2 s - kz d2 r * kz d0 s)+((kz d0 r * kz d3 s - kz d3 r * kz d0 s)+((kz d0 r * kz d4 s - kz d4 r * kz d0 s)+0))))+(((kz d1 r * kz d2 s - kz d2 r * kz d1 s)+((kz d1 r * kz d3 s - kz d3 r * kz d1 s)+((kz d1 r * kz d4 s - kz d4 r * kz d1 s)+0)))+(((kz d2 r * kz d3 s - kz d3 r * kz d2 s)+((kz d2 r * kz d4 s - kz d4 r * kz d2 s)+0))+(((kz d3 r * kz d4 s - kz d4 r * kz d3 s)+0)+(0+0))))) := fun r s => by
    simp only [pairSum, sumL, ft_sorted m0 m1 w01, ft_sorted m0 m2 w02, ft_sorted m0 m3 w03, ft_sorted m0 m4 w04, ft_sorted m1 m2 w12, ft_sorted m1 m3 w13, ft_sorted m1 m4 w14, ft_sorted m2 m3 w23, ft_sorted m2 m4 w24, ft_sorted m3 m4 w34]
  rw [ps, ps, ps, ps, ps, ps, pf5]
  have f5 : four5 [d0, d1, d2, d3, d4] = accF (cz [d1, d2, d3, d4]) 6 + (accF (cz [d0, d2, d3, d4]) 6 + (accF (cz [d0, d1, d3, d4]) 6 + (accF (cz [d0, d1, d2, d4]) 6 + (accF (cz [d0, d1, d2, d3]) 6 + 0)))) := rfl
  have ac : ∀ a b c d : List (Fin 6), accF (cz [a, b, c, d]) 6 = 0 + (kz a 0 * kz b 1 - kz a 1 * kz b 0) * (kz c 2 * kz d 3 - kz c 3 * kz d 2) - (kz a 0 * kz c 1 - kz a 1 * kz c 0) * (kz b 2 * kz d 3 - kz b 3 * kz d 2) + (kz a 0 * kz d 1 - kz a 1 * kz d 0) * (kz b 2 * kz c 3 - kz b 3 * kz c 2) + (kz b 0 * kz c 1 - kz b 1 * kz c 0) * (kz a 2 * kz d 3 - kz a 3 * kz d 2) - (kz b 0 * kz d 1 - kz b 1 * kz d 0) * (kz a 2 * kz c 3 - kz a 3 * kz c 2) + (kz c 0 * kz d 1 - kz c 1 * kz d 0) * (kz a 2 * kz b 3 - kz a 3 * kz b 2) := fun _ _ _ _ => rfl
  rw [f5, ac, ac, ac, ac, ac]
  simp only [Int.add_zero, Int.add_assoc]
end
section
local macro_rules | `(tactic| walk_at "execs cons") => `(tactic| (k_here; refine wpAny_execs_cons (wpAny_with_toks (n := 650) (by ((try dsimp only); omega)) ?_)))
local macro_rules | `(tactic| walk_at "exec For Tuple Name cons nil") => `(tactic| (k_here; refine halt ?_))
local macro_rules | `(tactic| walk_at "pyIter ref") => `(tactic| (k_here; refine halt ?_))
local macro_rules | `(tactic| walk_at "call ref") => `(tactic| (k_here; refine halt ?_))
local macro_rules | `(tactic| walk_at "exec Assign cons ListComp") => `(tactic| (k_here; refine halt ?_))
local macro_rules | `(tactic| walk_at "eval ListComp") => `(tactic| (k_here; refine halt ?_))
local macro_rules | `(tactic| k_all) => `(tactic| (refine pk_ne (by assumption) ?_; first | ((repeat (first | exact Nat.le_refl _ | exact Nat.le_of_lt (by with_reducible assumption) | refine Nat.le_succ_of_le ?_)); done) | omega))
noncomputable def krow (i : Nat) : Nat := [0, 2, 0, 1, 0, 1][i]?.getD 0
noncomputable def kcol (i : Nat) : Nat := [1, 3, 2, 3, 3, 2][i]?.getD 0
theorem six_ints {g : Nat → Int} {ys : List Value} (hl : ys.length = 6) (h : ∀ (i : Nat) (y : Value), ys[i]? = some y → ∃ t, y = Value.int (g i) t) :
    ∃ u0 u1 u2 u3 u4 u5, ys = [.int (g 0) u0, .int (g 1) u1, .int (g 2) u2, .int (g 3) u3, .int (g 4) u4, .int (g 5) u5] := by
  obtain ⟨a, r1, rfl, h1⟩ := len_succ hl
  obtain ⟨b, r2, rfl, h2⟩ := len_succ h1
  obtain ⟨c, r3, rfl, h3⟩ := len_succ h2
  obtain ⟨d, r4, rfl, h4⟩ := len_succ h3
  obtain ⟨e, r5, rfl, h5⟩ := len_succ h4
  obtain ⟨f, r6, rfl, h6⟩ := len_succ h5
  obtain rfl := List.eq_nil_of_length_eq_zero h6
  obtain ⟨u0, rfl⟩ := h 0 a rfl
  obtain ⟨u1, rfl⟩ := h 1 b rfl
  obtain ⟨u2, rfl⟩ := h 2 c rfl
  obtain ⟨u3, rfl⟩ := h 3 d rfl
  obtain ⟨u4, rfl⟩ := h 4 e rfl
  obtain ⟨u5, rfl⟩ := h 5 f rfl
  exact ⟨u0, u1, u2, u3, u4, u5, rfl⟩
theorem t_law3 (w : World) {dp un : Nat} {gd : Option (List Code)} {s : Shared} {base : Heap} {p : Program} {loose : List Str} {mean : ExcName → Option Value} {mg mb : Str → Option Value} {L' : Nat} {h : Heap} {tk : Nat} {gs : Array GenState} {m : Str → Option Value}
    {name qual : Str} {params : Arguments} {body : List Stmt} {scope : Scope} {dV kV doc pm cdv ct oc : Value} {an od : Option Addr} {osl : Array (Option Value)}
    (ho : (Mine.h39 w.params).lookup 142 = some ⟨oc, od, .func (fnOf name qual params body scope dV kV doc pm an cdv ct), osl⟩)
    (hd : dp + 40 < recursionLimit) (hu : un + 8 * 40 < cLine) (eL' : L' = s.heap.objs.size) (B : Below (spot dp un gd []) base [] s.heap) (X' : (Mine.h39 w.params).In s.heap) (T' : Top p loose mean mg mb s.heap)
    (F : Fr s.heap L' h m) (hpt : 650 ≤ s.toks) (htk : 650 ≤ tk) (hgs : AllB s.gens → AllB gs) (h139 : s.heap.get? 139 = some (tabObj #[]))
    (cs : List (List (Fin 6))) (h5 : cs.length = 5) (hok : ∀ c ∈ cs, 2 ≤ c.length ∧ c.length ≤ 4)
    {D8 D9 D10 D11 : Addr} {rt rc rk ys : Array Value} {n8 n9 n10 n11 : Nat} {o1 o2 o3 o4 o5 o6 o7 : Obj} {w1 w3 w6 : Option Value} {pk : List (Addr × Obj)}
    (N : News s.heap L' h ((D11, { cls := .type "list", data := .seq ys n11 }) :: (D10, { cls := .type "list", data := .seq rk n10 }) :: (D9, { cls := .type "list", data := .seq rc n9 }) :: (D8, { cls := .type "list", data := .seq rt n8 }) ::
      (L' + 1 + 1 + 1 + 1 + 1 + 1 + 1, o7) :: (L' + 1 + 1 + 1 + 1 + 1 + 1, o6) :: (L' + 1 + 1 + 1 + 1 + 1, o5) :: (L' + 1 + 1 + 1 + 1, o4) :: (L' + 1 + 1 + 1, o3) :: (L' + 1 + 1, o2) :: (L' + 1, o1) :: pk))
    (e7 : o7.data = .cell (some (.ref D10))) (e6 : o6.data = .cell w6) (e5 : o5.data = .cell (some (.ref D11))) (e4 : o4.data = .cell (some (.ref D9))) (e3 : o3.data = .cell w3) (e2 : o2.data = .cell (some (.ref D8))) (e1 : o1.data = .cell w1)
    (hD10 : @LT.lt Nat _ (L' + 1 + 1 + 1 + 1 + 1 + 1 + 1) D10) (hD9 : @LT.lt Nat _ (L' + 1 + 1 + 1 + 1 + 1 + 1 + 1) D9) (hD8 : @LT.lt Nat _ (L' + 1 + 1 + 1 + 1 + 1 + 1 + 1) D8) (hD11 : @LT.lt Nat _ (L' + 1 + 1 + 1 + 1 + 1 + 1 + 1) D11)
    (hpk : ∀ q ∈ pk, @LT.lt Nat _ (L' + 1 + 1 + 1 + 1 + 1 + 1 + 1) q.1)
    (hrt : rt.size = 5) (hrc : rc.size = 5) (hrk : rk.size = 5)
    (hK : ∀ i, i < 5 → ∃ c t, cs[i]? = some c ∧ rk[i]? = some (.int (rankZ cs c) t))
    (hT : RowsIn pk rt cs) (hC : RowsIn pk rc cs) (hsg : SgIn pk ys (sgOf cs)) :
    wpAny (model PySem.Challenge.rw_to0015_01.row.prog w) ((spot dp un gd []).deeper (envOfC qual scope L' 142 cdv)) (execs (body.drop 12) (envOfC qual scope L' 142 cdv))
      (fun fl s' => LawOut s fl s') (fun _ _ => False) { heap := h, gens := gs, drawn := s.drawn, toks := tk, os := s.os } := by
  have hL139 : 139 < L' := by rw [eL']; exact Heap.lt_size h139
  obtain ⟨loose', T''⟩ := top139 T' h139
  have X'' := in139 X'
  have B'' : Below (spot dp un gd []) (g139 s.heap) [] (g139 s.heap) := ⟨rfl, fun _ _ e => e, trivial⟩
  have T4 := fun (h : Heap) (tk : Nat) (gs : Array GenState) (m : Str → Option Value) => @t_law4 w dp un gd [] (g139 s.heap) s.drawn s.os (g139 s.heap) p139 loose' mean mg mb L' h tk gs m name qual params body scope dV kV doc pm cdv ct oc an od osl ho hd hu hL139 B'' X'' T''
  clear B'' X'' T''
  (have hX := X'; revert hX; k_fill; intro hX)
  refine with_ho (K := Mine.h39 w.params) (f := 142) (by k_is) ?_
  intro ho2
  obtain ⟨rfl, rfl, rfl, rfl⟩ := fn_inj ho ho2
  clear ho ho2
  dsimp only [List.drop]
  (try k_unmd)
  (try dsimp only)
  k_fold
  k_steps
  refine unhalt ?_
  refine comp_assign (cl := [(Str.ofString "table", L' + 1 + 1), (Str.ofString "signs", L' + 1 + 1 + 1 + 1 + 1)]) ?_ ?_ ?_ ?_ ?_ ?_ ?_ ?_ ?_
  case refine_1 => with_unfolding_all rfl
  case refine_2 => with_unfolding_all rfl
  case refine_3 => decide
  case refine_4 => rfl
  case refine_5 => decide
  case refine_6 => rfl
  case refine_7 => rfl
  case refine_9 => intro _; rfl
  k_steps
  refine unhalt ?_
  rename_i a0 x0 y0 a1 x1 y1 a2 x2 y2 a3 x3 y3 a4 x4 y4 a5 x5 y5 ll hh F5 N5 l5
  clear y0 y1 y2 y3 y4 y5 l5
  refine src_pairs (its := #[.ref a0, .ref a1, .ref a2, .ref a3, .ref a4, .ref a5]) (h₀ := s.heap) (L := L') ?ha13 F5 N5 ?hb13 ?hc13 ?hd13 (fun _ => true) (fun i y _ => ∃ t, y = .int (overZ (cz cs) (krow i) (kcol i) (sgOf cs)) t) ?tn13 ?fn13
  case ha13 => rfl
  case hb13 => is_list
  case hc13 =>
    intro i v hv
    have h6 : i < 6 := (Array.getElem?_eq_some_iff.mp hv).1
    rcases lt6 h6 with rfl | rfl | rfl | rfl | rfl | rfl <;> exact ⟨_, (Option.some.inj hv).symm⟩
  case hd13 => show 6 ≤ 16777216; omega
  case tn13 =>
    intro h₂ wr tk₂ F2 N2 ap g2 ht2 C i v h₃ tk₃ mC E' hC hi hV hn hk htk3
    have N3 := news_kb N2 hk fun p hp q => (ap _ q).2.2 p hp rfl
    (try dsimp only at N3)
    obtain ⟨T, r, c, t, u, rfl, hTT, hr, hc, hkr, hkc⟩ : ∃ (T : Addr) (r c : Nat) (t u : Tok), v = .ref T ∧ h₃.IsTuple T #[.int (r : Nat) t, .int (c : Nat) u] ∧ r < 4 ∧ c < 4 ∧ krow i = r ∧ kcol i = c := by
      have h6 : i < 6 := (Array.getElem?_eq_some_iff.mp hV).1
      rcases lt6 h6 with rfl | rfl | rfl | rfl | rfl | rfl
      · exact ⟨a0, 0, 1, _, _, (Option.some.inj hV).symm, ⟨_, (N3 _ (List.mem_of_getElem? (i := 6) rfl)).1, rfl, _, rfl⟩, by decide, by decide, rfl, rfl⟩
      · exact ⟨a1, 2, 3, _, _, (Option.some.inj hV).symm, ⟨_, (N3 _ (List.mem_of_getElem? (i := 5) rfl)).1, rfl, _, rfl⟩, by decide, by decide, rfl, rfl⟩
      · exact ⟨a2, 0, 2, _, _, (Option.some.inj hV).symm, ⟨_, (N3 _ (List.mem_of_getElem? (i := 4) rfl)).1, rfl, _, rfl⟩, by decide, by decide, rfl, rfl⟩
      · exact ⟨a3, 1, 3, _, _, (Option.some.inj hV).symm, ⟨_, (N3 _ (List.mem_of_getElem? (i := 3) rfl)).1, rfl, _, rfl⟩, by decide, by decide, rfl, rfl⟩
      · exact ⟨a4, 0, 3, _, _, (Option.some.inj hV).symm, ⟨_, (N3 _ (List.mem_of_getElem? (i := 2) rfl)).1, rfl, _, rfl⟩, by decide, by decide, rfl, rfl⟩
      · exact ⟨a5, 1, 2, _, _, (Option.some.inj hV).symm, ⟨_, (N3 _ (List.mem_of_getElem? (i := 1) rfl)).1, rfl, _, rfl⟩, by decide, by decide, rfl, rfl⟩
    clear N3
    refine turn_pair rfl hTT F2 N2 ap hC hn hk htk3 (by rfl) (by rfl) (by decide) rfl ?_
    intro h₁ oC mC' tk₁ F₁ N₁ hoC hx1 hx2 hkb gg htk₁
    have hn1 := hoC.ns (N₁ (C, oC) List.mem_cons_self).1
    refine tests0 ?_
    (try k_unmd)
    (try dsimp only)
    k_fold
    k_steps
    refine unhalt ?_
    have hTab : Tab h₁ D8 (cz cs) := hT.tab hok N₁ (fun q hq => by repeat (first | exact hq | apply List.mem_cons_of_mem)) ⟨_, News.get N₁ (o := { cls := .type "list", data := .seq rt n8 }) (by repeat (first | exact List.mem_cons_self | apply List.mem_cons_of_mem)), rfl, _, rfl⟩
    have hSg : SgAt h₁ D11 (sgOf cs) := hsg.at N₁ (fun q hq => by repeat (first | exact hq | apply List.mem_cons_of_mem)) ⟨_, News.get N₁ (o := { cls := .type "list", data := .seq ys n11 }) (by repeat (first | exact List.mem_cons_self | apply List.mem_cons_of_mem)), rfl, _, rfl⟩
    refine Tells.use (t_over w D11 D8 (sgOf cs) (cz cs) r c t u hr hc) B F₁ X' T' rfl rfl ⟨hSg, hTab⟩ (by first | exact upd (by assumption) | omega) (by first | exact upu (by assumption) | omega) ?_
    intro v9 h9 tk9 g9 ht9 p9
    obtain ⟨t9, rfl⟩ := p9
    refine ⟨rfl, eout2 hkb g9 hn1 fun h'' k1 k2 => ⟨t9, ?_⟩⟩
    rw [hkr, hkc]
  case fn13 =>
    intro h₂ wr tk₂ F2 N2 ap g2 ht2
    refine fin_as_start2 (w := w) (s := { s with gens := gs, toks := tk₂ }) F2 N2 ap (fun i y h h' x => x) ?_
    intro D12 h' tk' ys12 c12 hD12 F3 N3 hv htk'
    obtain ⟨ys12⟩ := ys12
    obtain ⟨hlen13, hall13⟩ := hv.all
    obtain ⟨f0, f1, f2, f3, f4, f5, rfl⟩ := six_ints hlen13 hall13
    have hD12' : @LT.lt Nat _ (L' + 1 + 1 + 1 + 1 + 1 + 1 + 1) D12 := Nat.lt_of_lt_of_le (Heap.lt_size (News.get N2 (o := o7) (by repeat (first | exact List.mem_cons_self | apply List.mem_cons_of_mem)))) hD12
    have N4 : News s.heap L' h' ((D12, _) :: (D11, _) :: _) := fun q hq => by
      rcases List.mem_cons.mp hq with rfl | hq
      · exact N3 _ List.mem_cons_self
      · exact N3 _ (List.mem_cons_of_mem _ (List.mem_cons_of_mem _ (List.mem_cons_of_mem _ (List.mem_cons_of_mem _ (List.mem_cons_of_mem _ (List.mem_cons_of_mem _ (List.mem_cons_of_mem _ (List.mem_cons_of_mem _ hq))))))))
    clear N3 F2 N2 ap g2 hv hall13 hlen13 hD12 F5 N5
    intro ht13
    (try dsimp only at ht13 ⊢)
    have N5 : News (g139 s.heap) L' h' ((D12, { cls := .type "list", data := .seq #[.int (overZ (cz cs) 0 1 (sgOf cs)) f0, .int (overZ (cz cs) 2 3 (sgOf cs)) f1, .int (overZ (cz cs) 0 2 (sgOf cs)) f2, .int (overZ (cz cs) 1 3 (sgOf cs)) f3, .int (overZ (cz cs) 0 3 (sgOf cs)) f4, .int (overZ (cz cs) 1 2 (sgOf cs)) f5] c12 }) :: (D10, { cls := .type "list", data := .seq rk n10 }) :: (D9, { cls := .type "list", data := .seq rc n9 }) ::
      (L' + 1 + 1 + 1 + 1 + 1 + 1 + 1, o7) :: (L' + 1 + 1 + 1 + 1 + 1 + 1, o6) :: (L' + 1 + 1 + 1 + 1 + 1, o5) :: (L' + 1 + 1 + 1 + 1, o4) :: (L' + 1 + 1 + 1, o3) :: (L' + 1 + 1, o2) :: (L' + 1, o1) :: (139, tabObj #[]) :: pk) := fun q hq => by
      have N4' := news139 N4
      rcases List.mem_cons.mp hq with rfl | hq
      · exact N4' _ List.mem_cons_self
      rcases List.mem_cons.mp hq with rfl | hq
      · exact N4' _ (by repeat (first | exact List.mem_cons_self | apply List.mem_cons_of_mem))
      rcases List.mem_cons.mp hq with rfl | hq
      · exact N4' _ (by repeat (first | exact List.mem_cons_self | apply List.mem_cons_of_mem))
      iterate 7
        rcases List.mem_cons.mp hq with rfl | hq
        · exact N4' _ (by repeat (first | exact List.mem_cons_self | apply List.mem_cons_of_mem))
      rcases List.mem_cons.mp hq with rfl | hq
      · exact ⟨F3.keep _ _ h139, Nat.ne_of_lt hL139, g139_none⟩
      · exact N4' _ (by repeat (first | exact hq | apply List.mem_cons_of_mem))
    refine wpAny_mono (@T4 _ _ _ _ (fr139 F3) ht13 cs h5 hok D9 D10 D12 rc rk n9 n10 c12 _ _ _ _ _ _ f0 f1 f2 f3 f4 f5 o1 o2 o3 o4 o5 o6 o7 _ _ _ _ _ pk N5 (if_pos rfl) e7 e6 e5 e4 e3 e2 e1 hD10 hD9 hD12' hpk hrc hrk hK hC (over_bd hok 0 1) (over_bd hok 2 3) (over_bd hok 0 2) (over_bd hok 1 3) (over_bd hok 0 3) (over_bd hok 1 2) (plain_law cs h5 hok)) (fun fl s' hl => law_out hgs hl) (fun _ _ e => e)
end
section
local macro_rules | `(tactic| walk_at "execs cons") => `(tactic| (k_here; refine wpAny_execs_cons (wpAny_with_toks (n := 650) (by ((try dsimp only); omega)) ?_)))
local macro_rules | `(tactic| walk_at "newTuple") => `(tactic| (k_here; refine halt ?_))
local macro_rules | `(tactic| walk_at "call type:range") => `(tactic| (k_here; (rename Grow _ _ => gg9); (with_unfolding_all refine' range_up (by assumption) (by assumption) ?_); intro r9 h9 t9 u9 v9 tk9 F9 N9 g9 ht9 hr9; (have gg8 := Grow.trans gg9 g9); (try dsimp only); (try k_sweep)))
local macro_rules | `(tactic| walk_at "subscriptTail Name Name ref int") => `(tactic| (k_here; (with_reducible show wpAny _ _ (subscriptTail _ _ (Value.ref _) (Value.int _ _)) _ _ _); (with_unfolding_all refine' my_item ?k1 ?k2 ?k3 ?k4 ?_ ?k6; (case k1 => is_list); (case k2 => first | with_reducible assumption | decide | exact Int.natCast_nonneg _ | omega); (case k3 => first | with_reducible assumption | decide | exact lt63 (by with_reducible assumption) | omega); (case k4 => first | assumption | rfl); (case k6 => with_unfolding_all rfl); k_whole)))
local macro_rules | `(tactic| walk_at "exec For Tuple Name cons nil") => `(tactic| (k_here; refine halt ?_))
local macro_rules | `(tactic| walk_at "pyIter ref") => `(tactic| (k_here; refine halt ?_))
local macro_rules | `(tactic| walk_at "call ref") => `(tactic| (k_here; refine halt ?_))
local macro_rules | `(tactic| walk_at "exec Assign cons ListComp") => `(tactic| (k_here; refine halt ?_))
local macro_rules | `(tactic| walk_at "eval ListComp") => `(tactic| (k_here; refine halt ?_))
local macro_rules | `(tactic| k_all) => `(tactic| (refine pk_ne (by assumption) ?_; first | ((repeat (first | exact Nat.le_refl _ | exact Nat.le_of_lt (by with_reducible assumption) | refine Nat.le_succ_of_le ?_)); done) | omega))
theorem t_law2 (w : World) {dp un : Nat} {gd : Option (List Code)} {s : Shared} {base : Heap} {p : Program} {loose : List Str} {mean : ExcName → Option Value} {mg mb : Str → Option Value} {L' : Nat} {h : Heap} {tk : Nat} {gs : Array GenState} {m : Str → Option Value}
    {name qual : Str} {params : Arguments} {body : List Stmt} {scope : Scope} {dV kV doc pm cdv ct oc : Value} {an od : Option Addr} {osl : Array (Option Value)}
    (ho : (Mine.h39 w.params).lookup 142 = some ⟨oc, od, .func (fnOf name qual params body scope dV kV doc pm an cdv ct), osl⟩)
    (hd : dp + 40 < recursionLimit) (hu : un + 8 * 40 < cLine) (eL' : L' = s.heap.objs.size) (B : Below (spot dp un gd []) base [] s.heap) (X' : (Mine.h39 w.params).In s.heap) (T' : Top p loose mean mg mb s.heap)
    (F : Fr s.heap L' h m) (hpt : 650 ≤ s.toks) (htk : 650 ≤ tk) (hgs : AllB s.gens → AllB gs) (h139 : s.heap.get? 139 = some (tabObj #[]))
    (cs : List (List (Fin 6))) (h5 : cs.length = 5) (hok : ∀ c ∈ cs, 2 ≤ c.length ∧ c.length ≤ 4)
    {D D8 D9 D10 : Addr} {st rt rc rk : Array Value} {n5 n8 n9 n10 : Nat} {o1 o2 o3 o4 o5 o6 o7 : Obj} {w3 w5 w6 : Option Value} {pk : List (Addr × Obj)}
    (N : News s.heap L' h ((D10, { cls := .type "list", data := .seq rk n10 }) :: (D9, { cls := .type "list", data := .seq rc n9 }) :: (D8, { cls := .type "list", data := .seq rt n8 }) :: (D, { cls := .type "list", data := .seq st n5 }) ::
      (L' + 1 + 1 + 1 + 1 + 1 + 1 + 1, o7) :: (L' + 1 + 1 + 1 + 1 + 1 + 1, o6) :: (L' + 1 + 1 + 1 + 1 + 1, o5) :: (L' + 1 + 1 + 1 + 1, o4) :: (L' + 1 + 1 + 1, o3) :: (L' + 1 + 1, o2) :: (L' + 1, o1) :: pk))
    (e7 : o7.data = .cell (some (.ref D10))) (e6 : o6.data = .cell w6) (e5 : o5.data = .cell w5) (e4 : o4.data = .cell (some (.ref D9))) (e3 : o3.data = .cell w3) (e2 : o2.data = .cell (some (.ref D8))) (e1 : o1.data = .cell (some (.ref D)))
    (hD10 : @LT.lt Nat _ (L' + 1 + 1 + 1 + 1 + 1 + 1 + 1) D10) (hD9 : @LT.lt Nat _ (L' + 1 + 1 + 1 + 1 + 1 + 1 + 1) D9) (hD8 : @LT.lt Nat _ (L' + 1 + 1 + 1 + 1 + 1 + 1 + 1) D8) (hD : @LT.lt Nat _ (L' + 1 + 1 + 1 + 1 + 1 + 1 + 1) D)
    (hpk : ∀ q ∈ pk, @LT.lt Nat _ (L' + 1 + 1 + 1 + 1 + 1 + 1 + 1) q.1)
    (hst : st.size = 5) (hrt : rt.size = 5) (hrc : rc.size = 5) (hrk : rk.size = 5)
    (hS : ∀ i, i < 5 → ∃ c t, cs[i]? = some c ∧ st[i]? = some (.str (textOf c) t)) (hK : ∀ i, i < 5 → ∃ c t, cs[i]? = some c ∧ rk[i]? = some (.int (rankZ cs c) t))
    (hT : RowsIn pk rt cs) (hC : RowsIn pk rc cs) :
    wpAny (model PySem.Challenge.rw_to0015_01.row.prog w) ((spot dp un gd []).deeper (envOfC qual scope L' 142 cdv)) (execs (body.drop 10) (envOfC qual scope L' 142 cdv))
      (fun fl s' => LawOut s fl s') (fun _ _ => False) { heap := h, gens := gs, drawn := s.drawn, toks := tk, os := s.os } := by
  have T3 := fun (h : Heap) (tk : Nat) (gs : Array GenState) (m : Str → Option Value) => @t_law3 w dp un gd s base p loose mean mg mb L' h tk gs m name qual params body scope dV kV doc pm cdv ct oc an od osl ho hd hu eL' B X' T'
  (have hX := X'; revert hX; k_fill; intro hX)
  refine with_ho (K := Mine.h39 w.params) (f := 142) (by k_is) ?_
  intro ho2
  refine hide fun G9 bk9 => ?_
  obtain ⟨rfl, rfl, rfl, rfl⟩ := fn_inj ho ho2
  refine bk9 ?_
  clear bk9 G9
  clear ho ho2
  dsimp only [List.drop]
  (try k_unmd)
  (try dsimp only)
  k_fold
  k_steps
  refine unhalt ?_
  walk_at "exec Assign"
  k_steps
  refine unhalt ?_
  k_dflt (refine comp2_evalR (by with_unfolding_all rfl) (by decide) (by rfl) (by decide) ?_)
  k_steps
  refine unhalt ?_
  refine src2_range (n := 5) (h₀ := s.heap) (L := L') ?h11 (by assumption) (by assumption) (by assumption) (Nat.le_refl 5) (by rfl) (by rfl) (by rfl) (by decide) (by intro _ _; rfl) (SgF L' cs) ?t1 ?t2 ?f2
  case h11 => rfl
  case t1 =>
    intro h₂ F2 N2 ap g2 C i t s₃ mC hC hi hn hx hk htk8 hs
    refine hide fun G9 bk9 => ?_
    obtain ⟨h₃, tk₃, rfl⟩ := hs
    obtain ⟨oC, F₄, N₄, hoC⟩ := turn_base F2 N2 ap hC hk hn (KB.refl _ _)
    refine bk9 ?_
    clear bk9 G9
    clear F2 N2 g2
    have gg := Grow.rfl' h₃
    (try k_unmd)
    (try dsimp only)
    k_fold
    k_steps
    all_goals first | assumption | omega
  case t2 =>
    intro h₂ F2 N2 ap g2 C i j t u s₃ mC hC hj hi hn hx hy hk htk8 hs
    refine hide fun G9 bk9 => ?_
    obtain ⟨h₃, tk₃, rfl⟩ := hs
    obtain ⟨oC, F₄, N₄, hoC⟩ := turn_base F2 N2 ap hC hk hn (KB.refl _ _)
    refine bk9 ?_
    clear bk9 G9
    clear F2 N2 g2
    have gg := Grow.rfl' h₃
    refine hide fun G9 bk9 => ?_
    obtain ⟨ci, ti, hci, hsi⟩ := hS i hi
    obtain ⟨cj, tj, hcj, hsj⟩ := hS j (by omega)
    refine bk9 ?_
    clear bk9 G9
    have hsi' : st[((i : Nat) : Int).toNat]? = some (.str (textOf ci) ti) := hsi
    have hsj' : st[((j : Nat) : Int).toNat]? = some (.str (textOf cj) tj) := hsj
    (try k_unmd)
    (try dsimp only)
    k_fold
    k_steps
    refine unhalt ?_
    (rename Fr _ _ _ _ => F8)
    refine Tells.use (t_strcoll w _ _ _ _) B F8 X' T' rfl rfl trivial (by first | exact upd (by assumption) | omega) (by first | exact upu (by assumption) | omega) ?_
    intro v9 h9 tk9 g9 ht9 p9
    obtain ⟨tv, rfl⟩ := p9
    have F9 := Fr.keeps F8 g9
    (rename News _ _ _ _ => N8)
    have N9 := News.grown N8 g9
    have gg7 := g9
    have gg8 := Grow.trans gg gg7
    clear gg7 g9
    (try dsimp only)
    k_steps
    refine unhalt ?_
    (rename Fr _ _ _ _ => F8); (rename News _ _ _ _ => N8)
    (with_unfolding_all refine' tuple_upF F8 N8 gg8 (Nat.le_of_ble_eq_true rfl) ?_)
    clear gg8
    intro D9' h9' F9' N9' g9' hn9' hlt9'
    (try dsimp only)
    (try k_sweep)
    k_steps
    refine ⟨_, _, rfl, g9', fun h'' k1 k2 => ⟨_, _, _, _, _, _, rfl, ⟨_, k2 _ _ hn9' (News.get N9' List.mem_cons_self), rfl, _, rfl⟩, hci, hcj, hlt9' (_, o7) ?mem7⟩⟩
    case mem7 => repeat (first | exact List.mem_cons_self | apply List.mem_cons_of_mem)
  case f2 =>
    intro h₂ F2 N2 ap g2 D11 h' tk11 ys hD11 hl hv hk htk11
    refine hide fun G9 bk9 => ?_
    obtain ⟨n11, F3, N3⟩ := fin_start F2 N2 ap hk hD11 hl
    obtain ⟨pt, N4, hsg0, hpt4⟩ := sg_news eL' N3 hv
    refine bk9 ?_
    clear bk9 G9
    have hD11' : @LT.lt Nat _ (L' + 1 + 1 + 1 + 1 + 1 + 1 + 1) D11 := Nat.lt_of_lt_of_le (Heap.lt_size (News.get N2 (o := o7) (by repeat (first | exact List.mem_cons_self | apply List.mem_cons_of_mem)))) hD11
    simp only [List.cons_append] at N4
    have hT := hT.mono (pk' := pk ++ pt) fun q hq => List.mem_append_left _ hq
    have hC := hC.mono (pk' := pk ++ pt) fun q hq => List.mem_append_left _ hq
    have hsg : SgIn (pk ++ pt) ys (sgOf cs) := ⟨hsg0.1, fun k x hx => by
      refine hide fun G9 bk9 => ?_
      obtain ⟨P, o, t1, t2, t3, n, h1, h2, h3, h4⟩ := hsg0.2 k x hx
      refine bk9 ?_
      clear bk9 G9
      exact ⟨P, o, t1, t2, t3, n, h1, List.mem_append_right _ h2, h3, h4⟩⟩
    have hpk' : ∀ q ∈ pk ++ pt, @LT.lt Nat _ (L' + 1 + 1 + 1 + 1 + 1 + 1 + 1) q.1 := fun q hq => (List.mem_append.mp hq).elim (hpk q) (hpt4 q)
    clear hsg0 hpt4 hpk N3 F2 N2 ap g2 hD11 hl hv hk
    generalize pk ++ pt = pk at *
    clear pt
    (try dsimp only)
    (try k_sweep)
    k_steps
    refine unhalt ?_
    (rename Fr _ _ _ _ => F8); (rename News _ _ _ _ => N8)
    rename_i h8 o8 d8 a8
    refine for_list_K (A := _) (h₀ := s.heap) (L := L') (its := ys) (J := fun _ _ => True) ?hh12 ?hlet12 ?h12 (hs := ?hs12)
    case hs12 => exact fun _ => rfl
    case hh12 => rfl
    case hlet12 =>
      intro I ax i v s' Q' E' hv hit hq
      refine hide fun G9 bk9 => ?_
      obtain ⟨j, hj, rfl⟩ := Array.mem_iff_getElem.mp hv
      refine bk9 ?_
      clear bk9 G9
      obtain ⟨P, _, _, _, _, _, hP, _⟩ := hsg.2 j ((sgOf cs)[j]'(by rw [← hsg.1]; exact hj)) (by simp)
      have e : ys[j] = .ref P := by simpa [hj] using hP
      rw [e]
      exact wpAny_letOwnedTupleGo_listiter hit hq
    walk1
    refine ⟨D11, _, _, rfl, F8, N8, Or.inr ⟨_, by (repeat (first | exact List.mem_cons_self | apply List.mem_cons_of_mem)), rfl, _, rfl⟩, trivial, ?turn12, ?done12⟩
    case turn12 =>
      rintro i v I oI m h tk E' hv _ F N htk
      have hi : i < (sgOf cs).length := by rw [← hsg.1]; exact (Array.getElem?_eq_some_iff.mp hv).1
      refine hide fun G9 bk9 => ?_
      obtain ⟨x, hx⟩ : ∃ x, (sgOf cs)[i]? = some x := ⟨_, List.getElem?_eq_getElem hi⟩
      obtain ⟨P, oP, y1, y2, y3, nP, hP, hPm, hPc, hPd⟩ := hsg.2 i x hx
      obtain ⟨a, b, ha, hb, rfl⟩ := sgOf_at hx
      have hvP := hv.symm.trans hP
      obtain rfl := Option.some.inj hvP
      have hIT : IsTup h P #[.int (b : Nat) y1, .int (a : Nat) y2, .int (sgn cs a b) y3] := ⟨oP, News.get N (by repeat (first | exact hPm | apply List.mem_cons_of_mem)), hPc, nP, hPd⟩
      obtain ⟨ca, ta, hca, hka⟩ := hK a ha
      obtain ⟨cb, tb, hcb, hkb⟩ := hK b hb
      have hka' : rk[((a : Nat) : Int).toNat]? = some (.int (rankZ cs ca) ta) := hka
      have hkb' : rk[((b : Nat) : Int).toNat]? = some (.int (rankZ cs cb) tb) := hkb
      obtain ⟨z1, z2, z3⟩ := sgn_rank hca hcb
      refine bk9 ?_
      clear bk9 G9
      generalize sgn cs a b = X at *
      generalize rankZ cs ca = ra at *
      generalize rankZ cs cb = rb at *
      (try k_unmd)
      (try dsimp only)
      k_fold
      k_steps
      all_goals first
        | exact turn_out (by assumption) (by assumption) (fun _ h => h) trivial
        | (exfalso; have q := z1 (by assumption); exact absurd q (by assumption))
        | (exfalso; have q := z2 (by assumption); exact absurd q (by assumption))
        | (exfalso; have q := z3 (by assumption) (by assumption); exact absurd q (by assumption))
        | (exfalso; omega)
    case done12 =>
      rintro m h tk _ F N htk
      intro ht12
      (try dsimp only at ht12 ⊢)
      refine @T3 _ _ _ _ F hpt ht12 hgs h139 cs h5 hok D8 D9 D10 D11 rt rc rk ys n8 n9 n10 n11 o1 o2 o3 o4 o8 o6 o7 _ _ _ pk (fun q hq => N q ?sub12) e7 e6 d8 e4 e3 e2 e1 hD10 hD9 hD8 hD11' hpk' hrt hrc hrk hK hT hC hsg
      rcases List.mem_cons.mp hq with rfl | hq
      · exact List.mem_cons_self
      rcases List.mem_cons.mp hq with rfl | hq
      · repeat (first | exact List.mem_cons_self | apply List.mem_cons_of_mem)
      rcases List.mem_cons.mp hq with rfl | hq
      · repeat (first | exact List.mem_cons_self | apply List.mem_cons_of_mem)
      rcases List.mem_cons.mp hq with rfl | hq
      · repeat (first | exact List.mem_cons_self | apply List.mem_cons_of_mem)
      exact List.mem_cons_of_mem _ (List.mem_cons_of_mem _ (List.mem_cons_of_mem _ (List.mem_cons_of_mem _ (List.mem_cons_of_mem _ hq))))
end
section
section
variable {w : World} {dp un : Nat} {gd : Option (List Code)} {outer : List Env} {s : Shared} {Z : Flow → Shared → Prop}
  {name qual : Str} {params : Arguments} {body : List Stmt} {scope : Scope} {dV kV doc pm cdv ct oc : Value} {an od : Option Addr} {osl : Array (Option Value)} {f : Addr} {args : List Value} {binds : List (Str × Value)}
theorem enter_cellsZ (x : Fit w dp un gd outer s.heap) (ho : (h39 w.params).lookup f = some ⟨oc, od, .func (fnOf name qual params body scope dV kV doc pm an cdv ct), osl⟩) (hcd : codeIn (h39 w.params) cdv qual = true) (hroom : dp < recursionLimit)
    (hbind : BindsTo s (fnOf name qual params body scope dV kV doc pm an cdv ct) ⟨args, []⟩ binds) (hkind : (binds.all fun y => scope.names.lookup y.1 == some .local || scope.names.lookup y.1 == some .cell) = true)
    (hnd : ((cellsFrom 0 scope.names []).map (·.1)).Nodup)
    (h : ∀ p loose mean mg mb base L' h₁ tk cells, L' = s.heap.objs.size → s.toks ≤ tk → Below (spot dp un gd outer) base outer s.heap → Fr s.heap L' h₁ (bindL (envOfC qual scope L' f cdv).kindOf binds fun _ => none) → News s.heap L' h₁ cells →
      CellsAre (bindC (envOfC qual scope L' f cdv).kindOf binds fun _ => none) (cellsFrom (L' + 1) scope.names []) cells → (h39 w.params).In s.heap → Top p loose mean mg mb s.heap →
      wpAny (model PySem.Challenge.rw_to0015_01.row.prog w) ((spot dp un gd outer).deeper (envOfC qual scope L' f cdv)) (execs body (envOfC qual scope L' f cdv)) (fun fl s' => Z fl s') (fun _ _ => False) { s with heap := h₁, toks := tk })
    (hco : scope.isCoroutine = false) (hgen : scope.isGenerator = false) (hk : scope.kind = .function) :
    codeAny (model PySem.Challenge.rw_to0015_01.row.prog w) (spot dp un gd outer) (.call (.ref f) ⟨args, []⟩) (fun r s' => ∃ fl, r = .ok (.ret (flowVal fl)) ∧ Z fl s') s := by
  refine hide fun G9 bk9 => ?_
  obtain ⟨⟨base, B⟩, X, ⟨p, loose, mean, mg, mb, T⟩⟩ := x
  refine bk9 ?_
  clear bk9 G9
  refine codeAny_call_function hroom (X _ _ ho) rfl hco hgen rfl (codeRec_of X hcd) (hbind _ _ _ _ ?_)
  refine wpAny_mono (wpAny_toks_of (n := s.toks) (by first | exact Nat.le_refl _ | exact Nat.le_add_right _ _) (wpAny_newFunctionEnv_cells hk (kindsX hkind _) (Q := fun env' s' => env' = envOfC qual scope s.heap.objs.size f cdv ∧ s'.heap.NoLimit ∧ ∃ h₁ tk cells, s' = { s with heap := h₁, toks := tk } ∧ Fr s.heap s.heap.objs.size h₁ (bindL (envOfC qual scope s.heap.objs.size f cdv).kindOf binds fun _ => none) ∧ News s.heap s.heap.objs.size h₁ cells ∧ CellsAre (bindC (envOfC qual scope s.heap.objs.size f cdv).kindOf binds fun _ => none) (cellsFrom (s.heap.objs.size + 1) scope.names []) cells) fun env' he s' x => ?_)) (fun env' s' hq => ?_) fun _ _ e => e.2
  · subst he
    refine hide fun G9 bk9 => ?_
    obtain ⟨h₁, tk, rfl, _⟩ := x.done
    have hk₁ := x.toInCall.keep
    obtain ⟨cells, NC, Y⟩ := Cl.news (h₀ := s.heap) (Nat.le_refl _) fun n c hm => ⟨x.cell n c (lookup_of_mem_nodup (cellsFrom_names scope.names 0 (s.heap.objs.size + 1) [] [] rfl ▸ hnd) hm), x.above n c hm⟩
    refine bk9 ?_
    clear bk9 G9
    exact ⟨rfl, T.nolimit.keeps hk₁, h₁, tk, cells, rfl, ⟨x.toInCall.ns, hk₁, Nat.le_refl _⟩, NC, Y⟩
  · refine hide fun G9 bk9 => ?_
    obtain ⟨htk, rfl, hnl, h₁, tk, cells, rfl, F, NC, Y⟩ := hq
    refine bk9 ?_
    clear bk9 G9
    refine ⟨hnl, codeAny_func ?_⟩
    refine wpAny_mono (h p loose mean mg mb base s.heap.objs.size h₁ tk cells rfl htk B F NC Y X T) (fun fl s' hl => ?_) fun _ _ y => y.elim
    exact ⟨fl, by cases fl <;> rfl, hl⟩
end
end
section
theorem News.none {h₀ h : Heap} {L : Addr} : News h₀ L h [] := fun _ hq => nomatch hq
theorem Apart.none {h₀ : Heap} {L : Addr} {news : List (Addr × Obj)} {wr : List Addr} (x : Apart h₀ L news wr) : Apart h₀ L [] wr := fun b hb => ⟨(x b hb).1, (x b hb).2.1, fun _ hq => nomatch hq⟩
theorem sum_bd5 : ∀ (l : List Int) (n : Nat), l.length = n → (∀ z ∈ l, 0 ≤ z ∧ z < 1000000) → 0 ≤ l.sum ∧ l.sum ≤ 1000000 * (n : Int)
  | [], n, h, _ => by simp only [List.sum_nil]; omega
  | z :: r, n, h, hb => by
    obtain ⟨h1, h2⟩ := hb z List.mem_cons_self
    have := sum_bd5 r r.length rfl fun y hy => hb y (List.mem_cons_of_mem _ hy)
    rw [List.sum_cons]
    rw [List.length_cons] at h
    omega
theorem sum_bd (l : List Int) (h : l.length = 5) (hb : ∀ z ∈ l, 0 ≤ z ∧ z < 1000000) : 0 ≤ l.sum ∧ l.sum ≤ 5000000 := by
  have := sum_bd5 l 5 h hb
  omega
theorem ints_all : ∀ (zs : List Value), (∀ i, i < zs.length → ∃ k t, zs[i]? = some (.int k t) ∧ 2 ≤ k ∧ k ≤ 4) → ∃ ks, IntsAre zs ks ∧ ∀ k ∈ ks, 2 ≤ k ∧ k ≤ 4
  | [], _ => ⟨[], .nil, fun _ h => nomatch h⟩
  | z :: r, h => by
    refine hide fun G9 bk9 => ?_
    obtain ⟨k, t, e, hk⟩ := h 0 (by simp)
    obtain ⟨ks, hks, hb⟩ := ints_all r fun i hi => h (i + 1) (by simpa using hi)
    refine bk9 ?_
    clear bk9 G9
    have e' : z = .int k t := Option.some.inj e
    subst e'
    exact ⟨k :: ks, .cons _ _ hks, fun x hx => (List.mem_cons.mp hx).elim (fun e => e ▸ hk) (hb x)⟩
theorem ints_of {zs : List Value} (h : szOk ⟨zs⟩) : ∃ ks, IntsAre zs ks ∧ ∀ k ∈ ks, 2 ≤ k ∧ k ≤ 4 := ints_all zs fun i hi => by
  refine hide fun G9 bk9 => ?_
  obtain ⟨k, t, e, h1, h2⟩ := h.2 i hi
  refine bk9 ?_
  clear bk9 G9
  exact ⟨k, t, by simpa using e, h1, h2⟩
theorem told_len {ws : List Value} {ks : List Int} (h : IntsAre ws ((ks ++ [3, 3]).take 5)) (hk : ks.length = 3 ∨ ks.length = 5) : ws.length = 5 := by
  rw [h.length, List.length_take, List.length_append]
  show min 5 (ks.length + 2) = 5
  omega
theorem told_bd {ks : List Int} (hb : ∀ k ∈ ks, 2 ≤ k ∧ k ≤ 4) : ∀ k ∈ (ks ++ [3, 3]).take 5, (2 : Int) ≤ k ∧ k ≤ 4 := fun k hk => by
  rcases List.mem_append.mp (List.mem_of_mem_take hk) with h | h
  · exact hb k h
  · rcases List.mem_cons.mp h with rfl | h
    · decide
    · obtain rfl := List.mem_singleton.mp h
      decide
theorem sized_at {ws : List Value} {ks : List Int} (h : IntsAre ws ks) (hb : ∀ k ∈ ks, (2 : Int) ≤ k ∧ k ≤ 4) {i : Nat} {y : Value} (e : ws[i]? = some y) : ∃ (b : Nat) (t : Tok), y = .int b t ∧ 2 ≤ b ∧ b ≤ 4 := by
  induction h generalizing i with
  | nil => simp at e
  | cons n t _ ih =>
    cases i with
    | zero =>
      have := Option.some.inj e
      obtain ⟨h1, h2⟩ := hb n List.mem_cons_self
      exact ⟨n.toNat, t, by rw [Int.toNat_of_nonneg (by omega)]; exact this.symm, by omega, by omega⟩
    | succ i => exact ih (fun z hz => hb z (List.mem_cons_of_mem _ hz)) (i := i) (by simpa using e)
theorem mails_cs {P : List (Fin 6) → Prop} : ∀ (ys : List Value), (∀ (i : Nat) (y : Value), ys[i]? = some y → ∃ c t, y = .str (mailOf c) t ∧ P c) → ∃ cs : List (List (Fin 6)), cs.length = ys.length ∧ (∀ (i : Nat) (v : Value), ys[i]? = some v → ∃ c t, cs[i]? = some c ∧ v = .str (mailOf c) t) ∧ ∀ c ∈ cs, P c
  | [], _ => ⟨[], rfl, fun i v e => by simp at e, fun c hc => by cases hc⟩
  | y :: r, h => by
    refine hide fun G9 bk9 => ?_
    obtain ⟨c, t, e, hc⟩ := h 0 y rfl
    obtain ⟨cs, h1, h2, h3⟩ := mails_cs r fun i v e => h (i + 1) v e
    refine bk9 ?_
    clear bk9 G9
    refine ⟨c :: cs, congrArg (· + 1) h1, fun i v ev => ?_, fun d hd => ?_⟩
    · cases i with
      | zero => exact ⟨c, t, rfl, (Option.some.inj ev).symm.trans e⟩
      | succ i => exact h2 i v ev
    · rcases List.mem_cons.mp hd with rfl | hd
      · exact hc
      · exact h3 d hd
noncomputable abbrev Bdd (k : Nat) (T : List (Addr × Obj)) : Prop := ∀ q ∈ T, @LT.lt Nat _ k q.1
inductive Mails (s : Shared) (L : Nat) (gs : Array GenState) (s' : Shared) : Prop
  | mk (h : Heap) (tk : Nat) (m : Str → Option Value) (lm : Addr) (cm : Nat) (its : Array Value) (cs : List (List (Fin 6))) (o1 o2 o3 o4 o5 o6 o7 : Obj) (v1 v2 v3 v4 v5 v6 v7 : Option Value) (T : List (Addr × Obj))
    (es : s' = { s with heap := h, gens := gs, toks := tk }) (F : Fr s.heap L h m) (hm : m (Str.ofString "mails") = some (.ref lm))
    (N : News s.heap L h ((L + 1 + 1 + 1 + 1 + 1 + 1 + 1, o7) :: (L + 1 + 1 + 1 + 1 + 1 + 1, o6) :: (L + 1 + 1 + 1 + 1 + 1, o5) :: (L + 1 + 1 + 1 + 1, o4) :: (L + 1 + 1 + 1, o3) :: (L + 1 + 1, o2) :: (L + 1, o1) :: T))
    (mT : (lm, ({ cls := .type "list", data := .seq its cm } : Obj)) ∈ T) (hp : Bdd (L + 1 + 1 + 1 + 1 + 1 + 1 + 1) T)
    (e7 : o7.data = .cell v7) (e6 : o6.data = .cell v6) (e5 : o5.data = .cell v5) (e4 : o4.data = .cell v4) (e3 : o3.data = .cell v3) (e2 : o2.data = .cell v2) (e1 : o1.data = .cell v1)
    (h5 : cs.length = 5) (hsz : its.size = 5) (hI : ∀ (i : Nat) (v : Value), its[i]? = some v → ∃ c t, cs[i]? = some c ∧ v = .str (mailOf c) t) (hcs : ∀ c ∈ cs, 2 ≤ c.length ∧ c.length ≤ 4) : Mails s L gs s'
theorem in7 {α : Type} {q a b c d e f g : α} {T : List α} (h : q ∈ T) : q ∈ a :: b :: c :: d :: e :: f :: g :: T := .tail _ (.tail _ (.tail _ (.tail _ (.tail _ (.tail _ (.tail _ h))))))
theorem out7 {α : Type} {q a b c d e f g : α} {X T : List α} (h : q ∈ a :: b :: c :: d :: e :: f :: g :: (X ++ T)) : q ∈ X ++ a :: b :: c :: d :: e :: f :: g :: T := by
  have h : q ∈ [a, b, c, d, e, f, g] ++ (X ++ T) := h
  show q ∈ X ++ ([a, b, c, d, e, f, g] ++ T)
  simp only [List.mem_append] at h ⊢
  rcases h with h | h | h
  · exact .inr (.inl h)
  · exact .inl h
  · exact .inr (.inr h)
theorem mem_mid {α : Type} {q x y : α} {X Y Z : List α} (h : q ∈ (X ++ [x]) ++ Z) : q ∈ X ++ x :: (Y ++ y :: Z) := by
  rcases List.mem_append.mp h with h | h
  · rcases List.mem_append.mp h with h | h
    · exact List.mem_append_left _ h
    · obtain rfl := List.mem_singleton.mp h
      exact List.mem_append_right _ (.head _)
  · exact List.mem_append_right _ (.tail _ (List.mem_append_right _ (.tail _ h)))
theorem mem_put {α : Type} {q x : α} {X Z : List α} (h : q ∈ (X ++ [x]) ++ Z) : q ∈ X ++ x :: Z := by simpa using h
theorem mem_put2 {α : Type} {q x y : α} {Z : List α} (h : q ∈ [x] ++ Z) : q ∈ x :: y :: Z := (List.mem_cons.mp h).elim (· ▸ .head _) fun h => .tail _ (.tail _ h)
theorem push7 {h₀ h : Heap} {L k : Nat} {X T : List (Addr × Obj)} {a b c d e f g : Addr × Obj} (N : News h₀ L h (X ++ a :: b :: c :: d :: e :: f :: g :: T)) (hX : Bdd k X) (hp : Bdd k T) :
    ∃ T', News h₀ L h (a :: b :: c :: d :: e :: f :: g :: T') ∧ Bdd k T' ∧ (∀ q ∈ X, q ∈ T') ∧ ∀ q ∈ T, q ∈ T' :=
  ⟨X ++ T, fun q hq => N q (out7 hq), fun q hq => (List.mem_append.mp hq).elim (hX q) (hp q), fun _ => List.mem_append_left _, fun _ => List.mem_append_right _⟩
theorem bdd1 {k : Nat} {x : Addr × Obj} (h : @LT.lt Nat _ k x.1) : Bdd k [x] := fun q hq => by
  obtain rfl := List.mem_singleton.mp hq
  exact h
theorem rows_news {P : List (Fin 6) → List Value → Prop} {k : Nat} {h₀ h : Heap} {L : Addr} {news : List (Addr × Obj)} {ys : List Value} {cs : List (List (Fin 6))} (hL : L = h₀.objs.size) (hk : @LE.le Nat _ L k) (N : News h₀ L h news)
    (hall : ∀ (i : Nat) (y : Value), ys[i]? = some y → ∃ c l n zs, cs[i]? = some c ∧ y = .ref l ∧ @LT.lt Nat _ k l ∧ h.get? l = some { cls := .type "list", data := .seq zs n } ∧ P c zs.toList) :
    ∃ X : List (Addr × Obj), News h₀ L h (X ++ news) ∧ Bdd k X ∧ ∀ (i : Nat) (y : Value), ys[i]? = some y → ∃ c l n zs, cs[i]? = some c ∧ y = .ref l ∧ (l, ({ cls := .type "list", data := .seq zs n } : Obj)) ∈ X ∧ P c zs.toList := by
  have key : ∀ q ∈ ys.filterMap (fun y => match y with | .ref l => (h.get? l).map fun o => (l, o) | _ => none), h.get? q.1 = some q.2 ∧ @LT.lt Nat _ k q.1 := fun q hq => by
    refine hide fun G9 bk9 => ?_
    obtain ⟨y, hy, e⟩ := List.mem_filterMap.mp hq
    obtain ⟨i, hi⟩ := List.mem_iff_getElem?.mp hy
    obtain ⟨c, l, n, zs, _, rfl, hlt, hget, _⟩ := hall i y hi
    refine bk9 ?_
    clear bk9 G9
    simp only [hget, Option.map_some, Option.some.injEq] at e
    subst e
    exact ⟨hget, hlt⟩
  refine ⟨_, fun q hq => ?_, fun q hq => (key q hq).2, fun i y hy => ?_⟩
  · rcases List.mem_append.mp hq with hq | hq
    · obtain ⟨h1, h2⟩ := key q hq
      have h3 : @LT.lt Nat _ L q.1 := Nat.lt_of_le_of_lt hk h2
      exact ⟨h1, fun e => Nat.lt_irrefl _ (e ▸ h3), Heap.get?_none_of_le (hL ▸ Nat.le_of_lt h3)⟩
    · exact N q hq
  · refine hide fun G9 bk9 => ?_
    obtain ⟨c, l, n, zs, h1, rfl, hlt, hget, hi⟩ := hall i y hy
    refine bk9 ?_
    clear bk9 G9
    refine ⟨c, l, n, zs, h1, rfl, List.mem_filterMap.mpr ⟨.ref l, List.mem_of_getElem? hy, ?_⟩, hi⟩
    simp only [hget, Option.map_some]
theorem fwd {P : Nat → Value → Prop} {ys : List Value} {n : Nat} (hl : ys.length = n) (h : ∀ (i : Nat) (y : Value), ys[i]? = some y → P i y) (i : Nat) (hi : i < n) : ∃ y, ys[i]? = some y ∧ P i y :=
  have e := List.getElem?_eq_getElem (hl.symm ▸ hi)
  ⟨_, e, h i _ e⟩
theorem texts_read : ∀ {ys : List Value} {cs : List (List (Fin 6))}, ys.length = cs.length → (∀ (i : Nat) (y : Value), ys[i]? = some y → ∃ c t, cs[i]? = some c ∧ y = .str (textOf c) t) → CarriedAll ys (cs.map fun c => PyData.str (textOf c))
  | [], [], _, _ => .nil
  | [], _ :: _, h, _ => by cases h
  | _ :: _, [], h, _ => by cases h
  | y :: r, c :: cs, h, ha => by
    refine hide fun G9 bk9 => ?_
    obtain ⟨d, t, e, rfl⟩ := ha 0 y rfl
    refine bk9 ?_
    clear bk9 G9
    obtain rfl := Option.some.inj e
    exact .cons (.str _ t) (texts_read (Nat.succ.inj h) fun i y e => ha (i + 1) y e)
theorem rows_read {h : Heap} : ∀ {ys : List Value} {cs : List (List (Fin 6))}, ys.length = cs.length → (∀ (i : Nat) (y : Value), ys[i]? = some y → ∃ c l n zs, cs[i]? = some c ∧ y = .ref l ∧ h.get? l = some { cls := .type "list", data := .seq zs n } ∧ IntsAre zs.toList (countsZ (textOf c))) → ∃ as, ReadsAll h ys (cs.map fun c => PyData.list ((countsZ (textOf c)).map PyData.int)) as
  | [], [], _, _ => ⟨_, .nil⟩
  | [], _ :: _, h, _ => by cases h
  | _ :: _, [], h, _ => by cases h
  | y :: r, c :: cs, hl, ha => by
    refine hide fun G9 bk9 => ?_
    obtain ⟨d, l, n, zs, e, rfl, hg, hi⟩ := ha 0 y rfl
    obtain rfl := Option.some.inj e
    obtain ⟨as, hr⟩ := rows_read (ys := r) (cs := cs) (Nat.succ.inj hl) fun i y e => ha (i + 1) y e
    refine bk9 ?_
    clear bk9 G9
    exact ⟨_, .cons (reads_newData (ys := zs.toList) ⟨_, hg, rfl, n, rfl⟩ (ke_carried hi)) hr⟩
theorem eqv_map {f : List (Fin 6) → PyData} (hf : ∀ c, PyData.eqv (f c) (f c) = true) : ∀ cs : List (List (Fin 6)), PyData.eqv (.list (cs.map f)) (.list (cs.map f)) = true
  | [] => by simp [PyData.eqv, PyData.eqvAll]
  | c :: cs => by
    have h := eqv_map hf cs
    simp only [PyData.eqv] at h
    simp [PyData.eqv, PyData.eqvAll, hf c, h]
theorem lay_map {f : List (Fin 6) → PyData} : ∀ cs : List (List (Fin 6)), (∀ c ∈ cs, PyData.canLay0 (f c) = true) → PyData.canLayAll0 (cs.map f) = true
  | [], _ => rfl
  | c :: cs, hc => by simp [PyData.canLayAll0, hc c List.mem_cons_self, lay_map cs fun d hd => hc d (List.mem_cons_of_mem _ hd)]
theorem depth_map {k : Nat} {f : List (Fin 6) → PyData} (hf : ∀ c, PyData.depth (f c) ≤ k) : ∀ cs : List (List (Fin 6)), PyData.depthAll (cs.map f) ≤ k
  | [] => Nat.zero_le _
  | c :: cs => by
    simp only [List.map_cons, PyData.depthAll]
    exact Nat.max_le.mpr ⟨hf c, depth_map hf cs⟩
theorem mail_args {ws : List Value} {xs : List Int} (h : IntsAre ws xs) (hb : ∀ z ∈ xs, 0 ≤ z ∧ z < 1000000) {i : Nat} {v : Value} (hv : ws[i]? = some v) : ∃ a t, v = .int a t ∧ 0 ≤ a ∧ a < 1000000 := by
  induction h generalizing i with
  | nil => simp at hv
  | cons n t _ ih =>
    cases i with
    | zero =>
      have := Option.some.inj hv
      exact ⟨n, t, this.symm, (hb n List.mem_cons_self).1, (hb n List.mem_cons_self).2⟩
    | succ i => exact ih (fun z hz => hb z (List.mem_cons_of_mem _ hz)) (i := i) (by simpa using hv)
theorem IntsTok.mono {u T : Nat} {vs : List Value} {ns : List Int} (h : IntsTok u vs ns) (hT : u ≤ T) : IntsTok T vs ns :=
  ⟨h.1, fun i v e => let ⟨n, t, a, b, c, d⟩ := h.2 i v e; ⟨n, t, a, b, c, Nat.lt_of_lt_of_le d hT⟩⟩
theorem kinds4 {i : Nat} {v : Value} {t : Tok} (h : (#[.int 52 t, .int 23 (t + 1), .int 27 (t + 1 + 1), .int 22 (t + 1 + 1 + 1)] : Array Value)[i]? = some v) : ∃ (b : Int) (u : Tok), v = .int b u ∧ ([52, 23, 27, 22] : List Int)[i]? = some b ∧ smallInt b = true ∧ @LE.le Nat _ t u := by
  match i, h with
  | 0, h => exact ⟨_, _, (Option.some.inj h).symm, rfl, by decide, Nat.le_refl _⟩
  | 1, h => exact ⟨_, _, (Option.some.inj h).symm, rfl, by decide, Nat.le_succ _⟩
  | 2, h => exact ⟨_, _, (Option.some.inj h).symm, rfl, by decide, Nat.le_add_right _ 2⟩
  | 3, h => exact ⟨_, _, (Option.some.inj h).symm, rfl, by decide, Nat.le_add_right _ 3⟩
  | n + 4, h => exact absurd h (by simp)
theorem kinds_at {a : Str} {i : Nat} {b : Int} (h : ([52, 23, 27, 22] : List Int)[i]? = some b) : (kindsZ a)[i]? = some ((((readZ a a.length 0).filter (· == b)).length : Nat) : Int) := by
  unfold kindsZ
  rw [List.getElem?_map, h]
  rfl
theorem ints_by : ∀ {ys : List Value} {zs : List Int}, ys.length = zs.length → (∀ (i : Nat) (y : Value), ys[i]? = some y → ∃ z t, zs[i]? = some z ∧ y = Value.int z t) → IntsAre ys zs
  | [], [], _, _ => .nil
  | [], _ :: _, h, _ => by cases h
  | _ :: _, [], h, _ => by cases h
  | y :: ys, z :: zs, h, ha => by
    refine hide fun G9 bk9 => ?_
    obtain ⟨z', t, e, rfl⟩ := ha 0 y rfl
    refine bk9 ?_
    clear bk9 G9
    obtain rfl := Option.some.inj e
    exact .cons _ _ (ints_by (by simpa using h) fun i y hy => ha (i + 1) y (by simpa using hy))
theorem Vals.count {α : Type} {cs : List α} {f : α → Bool} {F : Nat → Value → Heap → Prop} {h : Heap} {n : Nat} {ys : List Value} (x : Vals (fun i => (cs[i]?.map f).getD false) F h n ys) (hn : n ≤ cs.length) : ys.length = ((cs.take n).filter f).length := by
  induction x with
  | nil => simp
  | @yes i ys y x hp hf ih =>
    have hi : i < cs.length := hn
    have e : cs[i]? = some cs[i] := List.getElem?_eq_getElem hi
    rw [e] at hp
    have hp' : f cs[i] = true := hp
    rw [List.take_add_one, e, List.filter_append, List.length_append, List.length_append, ih (Nat.le_of_lt hi)]
    simp [hp']
  | @no i ys x hp ih =>
    have hi : i < cs.length := hn
    have e : cs[i]? = some cs[i] := List.getElem?_eq_getElem hi
    rw [e] at hp
    have hp' : f cs[i] = false := hp
    rw [List.take_add_one, e, List.filter_append, List.length_append, ih (Nat.le_of_lt hi)]
    simp [hp']
theorem fresh_ref {h₃ h₄ : Heap} {C lr : Addr} (hlC : @LT.lt Nat _ C h₄.objs.size) (hfr : @LE.le Nat _ h₄.objs.size lr) (hkb : KB [C] h₃ h₄) : h₃.get? lr = none := by
  cases e : h₃.get? lr with
  | none => rfl
  | some o =>
    by_cases hc : lr = C
    · exact absurd hlC (by rw [← hc]; exact Nat.not_lt.mpr hfr)
    · exact absurd (Heap.lt_size (hkb _ _ (fun q => hc (List.mem_singleton.mp q)) e)) (Nat.not_lt.mpr hfr)
theorem shaped_map {k : Nat} {f : List (Fin 6) → PyData} (hf : ∀ c, PyData.depth (f c) ≤ k) (hk : k ≤ 63) (cs : List (List (Fin 6))) (hc : ∀ c ∈ cs, PyData.canLay0 (f c) = true) : SeqAt.shaped (.list (cs.map f)) = true := by
  have h1 := lay_map cs hc
  have h2 := depth_map hf cs
  show (PyData.canLayAll0 (cs.map f) && decide (PyData.depthAll (cs.map f) + 1 ≤ 64)) = true
  rw [h1]
  exact decide_eq_true (by omega)
theorem put4 {h₀ h : Heap} {L : Addr} {x y z v : Addr × Obj} {X : List (Addr × Obj)} (N : News h₀ L h X) (hx : x ∈ X) (hy : y ∈ X) (hz : z ∈ X) (hv : v ∈ X) : News h₀ L h (x :: y :: z :: v :: X) := fun q hq => by
  rcases List.mem_cons.mp hq with rfl | hq
  · exact N _ hx
  rcases List.mem_cons.mp hq with rfl | hq
  · exact N _ hy
  rcases List.mem_cons.mp hq with rfl | hq
  · exact N _ hz
  rcases List.mem_cons.mp hq with rfl | hq
  · exact N _ hv
  exact N q hq
theorem toks_fwd {F : List (Fin 6) → Tok → Value} {ys : List Value} {cs : List (List (Fin 6))} (hl : ys.length = 5) (h : ∀ (i : Nat) (y : Value), ys[i]? = some y → ∃ c t, cs[i]? = some c ∧ y = F c t) (i : Nat) (hi : i < 5) : ∃ c t, cs[i]? = some c ∧ (⟨ys⟩ : Array Value)[i]? = some (F c t) := by
  refine hide fun G9 bk9 => ?_
  obtain ⟨y, e, c, t, e1, e2⟩ := fwd hl h i hi
  refine bk9 ?_
  clear bk9 G9
  exact ⟨c, t, e1, by simpa [e2] using e⟩
theorem rows_fwd {pk : List (Addr × Obj)} {ys : List Value} {cs : List (List (Fin 6))} (hl : ys.length = 5) (h : ∀ (i : Nat) (y : Value), ys[i]? = some y → ∃ c l n zs, cs[i]? = some c ∧ y = .ref l ∧ (l, ({ cls := .type "list", data := .seq zs n } : Obj)) ∈ pk ∧ IntsAre zs.toList (countsZ (textOf c))) : RowsIn pk ⟨ys⟩ cs := fun i hi => by
  refine hide fun G9 bk9 => ?_
  obtain ⟨y, e, c, l, n, zs, e1, e2, e3, e4⟩ := fwd hl h i hi
  refine bk9 ?_
  clear bk9 G9
  exact ⟨c, l, n, zs, e1, by simpa [e2] using e, e3, e4⟩
theorem rows_up {T T' : List (Addr × Obj)} {P : List (Fin 6) → List Value → Prop} {ys : List Value} {cs : List (List (Fin 6))} (up : ∀ q ∈ T, q ∈ T') (h : ∀ (i : Nat) (y : Value), ys[i]? = some y → ∃ c l n zs, cs[i]? = some c ∧ y = .ref l ∧ (l, ({ cls := .type "list", data := .seq zs n } : Obj)) ∈ T ∧ P c zs.toList) (i : Nat) (y : Value) (e : ys[i]? = some y) : ∃ c l n zs, cs[i]? = some c ∧ y = .ref l ∧ (l, ({ cls := .type "list", data := .seq zs n } : Obj)) ∈ T' ∧ P c zs.toList := by
  refine hide fun G9 bk9 => ?_
  obtain ⟨c, l, n, zs, e1, e2, e3, e4⟩ := h i y e
  refine bk9 ?_
  clear bk9 G9
  exact ⟨c, l, n, zs, e1, e2, up _ e3, e4⟩
theorem rows_heap {h₀ h : Heap} {L : Addr} {T X : List (Addr × Obj)} {P : List (Fin 6) → List Value → Prop} {ys : List Value} {cs : List (List (Fin 6))} (N : News h₀ L h X) (up : ∀ q ∈ T, q ∈ X) (hh : ∀ (i : Nat) (y : Value), ys[i]? = some y → ∃ c l n zs, cs[i]? = some c ∧ y = .ref l ∧ (l, ({ cls := .type "list", data := .seq zs n } : Obj)) ∈ T ∧ P c zs.toList) (i : Nat) (y : Value) (e : ys[i]? = some y) : ∃ c l n zs, cs[i]? = some c ∧ y = .ref l ∧ h.get? l = some { cls := .type "list", data := .seq zs n } ∧ P c zs.toList := by
  refine hide fun G9 bk9 => ?_
  obtain ⟨c, l, n, zs, e1, e2, e3, e4⟩ := hh i y e
  refine bk9 ?_
  clear bk9 G9
  exact ⟨c, l, n, zs, e1, e2, News.get N (up _ e3), e4⟩
end
section
local macro_rules | `(tactic| walk_at "eval Name") => `(tactic| (k_here; (with_reducible show wpAny _ _ (eval (PySem.Expr.Name _ _) (envOfC _ _ _ _ _)) _ _ _); k_dflt (refine' ldC ?k1 ?k2 ?_; (case k1 => with_reducible assumption); (case k2 => first | with_reducible assumption | ((try dsimp only); (repeat (refine (if_neg (by decide +kernel)).trans ?_)); with_reducible assumption)))))
local macro_rules | `(tactic| walk_at "execs cons") => `(tactic| (k_here; refine wpAny_execs_cons (wpAny_with_toks (n := 650) (by ((try dsimp only); omega)) ?_)))
local macro_rules | `(tactic| walk_at "execs cons") => `(tactic| (k_here; (with_reducible show wpAny _ _ (execs (PySem.Stmt.Assign [PySem.Expr.Name (Str.ofString "signs") _] _ _ :: _) _) _ _ _); refine halt ?_))
local macro_rules | `(tactic| walk_at "newTuple") => `(tactic| (k_here; (rename Grow _ _ => gg9); (with_unfolding_all refine' tuple_up (by assumption) (by assumption) (Nat.le_of_ble_eq_true rfl) ?_); intro D9 h9 F9 N9 g9; (have gg8 := Grow.trans gg9 g9); (try dsimp only); (try k_sweep)))
local macro_rules | `(tactic| walk_at "compareOp NotEq ref ref") => `(tactic| (k_here; refine halt ?_))
local macro_rules | `(tactic| walk_at "pyIter ref") => `(tactic| (k_here; refine halt ?_))
local macro_rules | `(tactic| walk_at "call ref") => `(tactic| (k_here; refine halt ?_))
local macro_rules | `(tactic| walk_at "binaryOp Add ref ref") => `(tactic| (k_here; refine halt ?_))
local macro_rules | `(tactic| is_list) => `(tactic| exact ⟨_, News.get (by assumption) (in7 (by assumption)), rfl, _, rfl⟩)
local macro_rules | `(tactic| k_all) => `(tactic| (refine pk_ne (by assumption) ?_; first | ((repeat (first | exact Nat.le_refl _ | exact Nat.le_of_lt (by with_reducible assumption) | refine Nat.le_succ_of_le ?_)); done) | omega))
local macro_rules | `(tactic| walk_at "call type:zip") => `(tactic| (k_here; refine halt ?_))
local macro_rules | `(tactic| walk_at "exec Assign cons ListComp") => `(tactic| (k_here; refine halt ?_))
local macro_rules | `(tactic| walk_at "eval ListComp") => `(tactic| (k_here; refine halt ?_))
theorem t_law1 (w : World) (l : Addr) (vs : List Value) (ns : List Int) (hv : IntsAre vs ns) (hsz : vs.length ≤ 63) (dp un : Nat) (gd : Option (List Code)) (s : Shared) (fit : Fit w dp un gd [] s.heap)
    (hpre : s.heap.IsList l vs.toArray ∧ 650 ≤ s.toks ∧ s.heap.get? 139 = some (tabObj #[])) (hd : dp + 40 < recursionLimit) (hu : un + 8 * 40 < cLine) :
    codeAny (model PySem.Challenge.rw_to0015_01.row.prog w) (spot dp un gd []) (.call (.ref 142) ⟨[.ref l], []⟩) (fun r s' => ∃ fl, r = .ok (.ret (flowVal fl)) ∧ LawOut s fl s') s := by
  (have hX := fit.X; revert hX; k_fill; intro hX)
  refine hide fun G9 bk9 => ?_
  obtain ⟨hpos, hpt, h139⟩ := hpre
  refine bk9 ?_
  clear bk9 G9
  k_dflt (refine enter_cellsZ (binds := [(Str.ofString "script", .ref l)]) (by assumption) (by k_is) (by k_is) (by omega) (BindsTo.of_eq rfl) rfl (by decide +kernel) ?_ rfl rfl rfl; intro p loose mean mg mb base L' h₁ tk cells eL' htk0 B F' N' Y' X' T'; k_cells Y'; (try simp only [List.cons_append, List.nil_append] at N'); (try dsimp only); (try k_fold))
  refine with_ho (K := Mine.h39 w.params) (f := 142) (by k_is) ?_
  intro ho2
  have T2 := fun (h : Heap) (tk : Nat) (gs : Array GenState) (m : Str → Option Value) => @t_law2 w dp un gd s base p loose mean mg mb L' h tk gs m _ _ _ _ _ _ _ _ _ _ _ _ _ _ _ ho2 hd hu eL' B X' T'
  clear ho2
  have hpt1 : 650 ≤ tk := Nat.le_trans hpt htk0
  rename_i o7 o6 o5 o4 o3 o2 o1 e7 e6 e5 e4 e3 e2 e1
  k_steps
  refine unhalt ?_
  (rename Fr _ _ _ _ => F8); (rename News _ _ _ _ => N8)
  refine Tells.use (t_numbers w l vs ns hv hsz) B F8 X' T' rfl rfl ?pre (by first | exact upd (by assumption) | omega) (by first | exact upu (by assumption) | omega) ?_
  case pre => exact Heap.IsList.at hpos fun o e => F8.keep _ o e
  intro v9 h9 tk9 g9 ht9 p9
  refine hide fun G9 bk9 => ?_
  obtain ⟨ln, ws, rfl, hnl, hws⟩ := p9
  have F9 := Fr.keeps F8 g9
  have h7 : @LT.lt Nat _ (L' + 1 + 1 + 1 + 1 + 1 + 1 + 1) ln := Nat.lt_of_lt_of_le (Heap.lt_size (News.get N8 List.mem_cons_self)) hnl.2
  obtain ⟨cn, N9⟩ := hnl.news F8 N8 g9
  refine bk9 ?_
  clear bk9 G9
  clear F8 N8 hnl g9
  refine hide fun G9 bk9 => ?_
  obtain ⟨T, N8, hp, hX, _⟩ := push7 (X := [_]) N9 (bdd1 h7) (fun _ h => nomatch h)
  refine bk9 ?_
  clear bk9 G9
  have mN := hX _ (.head _)
  clear N9 hX h7
  obtain ⟨hn5, hnb⟩ := numsOf_ok ns
  have hwl : ws.length = 5 := hws.length.trans hn5
  (try dsimp only)
  k_steps
  refine unhalt ?_
  (rename Fr _ _ _ _ => F8); (rename News _ _ _ _ => N8)
  refine TellsG.use (t_sizes w _ _ (sum_bd _ hn5 hnb)) B F8 X' T' rfl rfl trivial (by first | exact upd (by assumption) | omega) (by first | exact upu (by assumption) | omega) ?_
  intro v9 h9 gs9 tk9 g9 ht9 hb9 p9
  refine hide fun G9 bk9 => ?_
  obtain ⟨T9, la, lb, zs, rfl, hT, hna, hnb', hzs⟩ := p9
  have F9 := Fr.keeps F8 g9
  obtain ⟨ca, Na⟩ := hna.news F8 N8 g9
  obtain ⟨cb, Nb⟩ := hnb'.news F8 N8 g9
  refine bk9 ?_
  clear bk9 G9
  have h7 : @LT.lt Nat _ (L' + 1 + 1 + 1 + 1 + 1 + 1 + 1) la := Nat.lt_of_lt_of_le (Heap.lt_size (News.get N8 List.mem_cons_self)) hna.2
  have h7b : @LT.lt Nat _ (L' + 1 + 1 + 1 + 1 + 1 + 1 + 1) lb := Nat.lt_of_lt_of_le (Heap.lt_size (News.get N8 List.mem_cons_self)) hnb'.2
  have N9 : News s.heap L' h9 ((la, _) :: (lb, _) :: _) := fun q hq => by
    rcases List.mem_cons.mp hq with rfl | hq
    · exact Na _ List.mem_cons_self
    · exact Nb q hq
  clear Na Nb hna hnb' g9 F8 N8
  refine hide fun G9 bk9 => ?_
  obtain ⟨T0, N8, hp0, hX, up⟩ := push7 (X := [_, _]) N9 (fun q hq => by
    rcases List.mem_cons.mp hq with rfl | hq
    · exact h7
    · exact bdd1 h7b q hq) hp
  refine bk9 ?_
  clear bk9 G9
  have mN0 := up _ mN
  have mA := hX _ (.head _)
  have mB := hX _ (.tail _ (.head _))
  clear N9 hX hp mN up h7 h7b
  refine hide fun G9 bk9 => ?_
  obtain ⟨zs⟩ := zs
  obtain ⟨ks, hks, hk24⟩ := ints_of hzs
  refine bk9 ?_
  clear bk9 G9
  (try dsimp only)
  k_steps
  refine unhalt ?_
  (rename News _ _ _ _ => N8)
  refine ke_ne_ints (xs := zs) (ys := zs) ⟨_, News.get N8 (in7 mA), rfl, _, rfl⟩ ⟨_, News.get N8 (in7 mB), rfl, _, rfl⟩ hks hks (by show un + 3 + 64 < cLine; omega) ?_
  rw [decide_eq_true (rfl : ks = ks)]
  (try dsimp only)
  k_steps
  refine unhalt ?_
  (rename Fr _ _ _ _ => F8); (rename News _ _ _ _ => N8)
  refine wpAny_mono (Q := fun f s' => f = .next ∧ Mails s L' gs9 s') (E := fun _ _ => False) ?a ?b (fun _ _ e => e.elim)
  case b =>
    clear F8 N8 e1 e2 e3 e4 e5 e6 e7 hp0 mN0 mA mB
    rintro f s' ⟨rfl, ⟨h, tk5, m, lm, cm, its, cs, o1, o2, o3, o4, o5, o6, o7, w1, w2, w3, w4, w5, w6, w7, T, rfl, F5, hm, N5, mM, hp, e7, e6, e5, e4, e3, e2, e1, h5, hsz, hI, hcs⟩⟩
    (try dsimp only)
    intro htk5
    k_steps
    refine unhalt ?_
    walk_at "exec Assign"
    k_steps
    refine unhalt ?_
    k_dflt (refine comp_eval (by with_unfolding_all rfl) (by decide) (by rfl) (by decide) ?_)
    k_steps
    refine unhalt ?_
    (rename Fr _ _ _ _ => F5); (rename News _ _ _ _ => N5)
    refine src_list (its := its) (h₀ := s.heap) (L := L') ?hh5 F5 N5 ?hl5 ?hsz5 (fun _ => true) (fun i y _ => ∃ c t, cs[i]? = some c ∧ y = .str (textOf c) t) ?tn5 ?fn5
    case hh5 => rfl
    case hl5 => exact ⟨_, News.get N5 (in7 mM), rfl, _, rfl⟩
    case hsz5 => exact hsz ▸ (show 5 ≤ 16777216 by decide)
    case tn5 =>
      intro h₂ F2 N2 ap g2 C i v h₃ tk₃ mC E' hC hi hV hn hk htk
      refine hide fun G9 bk9 => ?_
      obtain ⟨c, tv, hci, rfl⟩ := hI i v hV
      refine bk9 ?_
      clear bk9 G9
      have hok := mail_ok c (hcs c (List.mem_of_getElem? hci))
      clear hI hcs mM hp N5 F5
      replace ap := Apart.none ap
      replace N2 : News s.heap L' h₂ [] := News.none
      refine turn_name F2 N2 ap hC hn hk htk (by rfl) (by rfl) ?_
      intro h₄ oC mC' tk₄ F₄ N₄ hoC hx hkb gg htk₄
      have hn4 := hoC.ns (N₄ (C, oC) List.mem_cons_self).1
      refine tests0 ?_
      (try k_unmd)
      (try dsimp only)
      k_fold
      k_steps
      refine unhalt ?_
      (rename Fr _ _ _ _ => F6)
      refine Tells.use (t_quote w (mailOf c) tv) B F6 X' T' rfl rfl (Nat.le_trans hok.a (by omega)) (by first | exact upd (by assumption) | omega) (by first | exact upu (by assumption) | omega) ?_
      intro v9 h9 tk9 g9 ht9 p9
      obtain ⟨tz, rfl⟩ := p9
      (try dsimp only)
      exact ⟨rfl, eout2 hkb g9 hn4 fun _ _ _ => ⟨c, tz, hci, congrArg (fun z => Value.str z tz) hok.e⟩⟩
    case fn5 =>
      intro h₂ F2 N2 ap g2 D h' tk ys5 hD hl hv hk htk
      have hD7 : @LT.lt Nat _ (L' + 1 + 1 + 1 + 1 + 1 + 1 + 1) D := Nat.lt_of_lt_of_le (Heap.lt_size (News.get N2 List.mem_cons_self)) hD
      refine hide fun G9 bk9 => ?_
      obtain ⟨n5, F3, N3⟩ := fin_start F2 N2 ap hk hD hl
      obtain ⟨ys5⟩ := ys5
      obtain ⟨hlen, hS⟩ := hv.all
      have hlen : ys5.length = 5 := hlen.trans hsz
      obtain ⟨T5, N9, hp5, hX, up⟩ := push7 (X := [_]) N3 (bdd1 hD7) hp
      refine bk9 ?_
      clear bk9 G9
      have mD := hX _ (.head _)
      have mM5 := up _ mM
      clear hv hk hl hD ap N5 F5 N2 F2 N3 hX up mM hp hD7 g2
      (try k_sweep)
      (try dsimp only)
      (try k_fold)
      k_steps
      refine unhalt ?_
      walk_at "exec Assign"
      k_steps
      refine unhalt ?_
      k_dflt (refine comp_evalC (xc := Str.ofString "read") (by with_unfolding_all rfl) (by intro _ _; rfl) (by intro _; rfl) (by rfl) (by decide) ?_)
      k_steps
      refine unhalt ?_
      k_dflt (refine comp_evalT (by with_unfolding_all rfl) (by decide) (by rfl) (by decide) ?_)
      k_steps
      refine unhalt ?_
      (rename Fr _ _ _ _ => F5); (rename News _ _ _ _ => N5)
      refine src_listT (its := ⟨ys5⟩) (h₀ := s.heap) (L := L') ?hh6 F5 N5 ?hl6 ?hsz6 (fun _ => true) (fun i y h T => ∃ c l n ys5, cs[i]? = some c ∧ y = .ref l ∧ @LT.lt Nat _ (L' + 1 + 1 + 1 + 1 + 1 + 1 + 1) l ∧ h.get? l = some { cls := .type "list", data := .seq ys5 n } ∧ IntsTok T ys5.toList (readZ (textOf c) (textOf c).length 0)) ?tn6 ?fn6
      case hh6 => rfl
      case hl6 => exact ⟨_, News.get N5 (in7 mD), rfl, _, rfl⟩
      case hsz6 => exact szl hlen
      case tn6 =>
        intro h₂ F2 N2 ap g2 C i v h₃ tk₃ mC E' hC hi hV hn hk htk
        refine hide fun G9 bk9 => ?_
        obtain ⟨c, tv, hci, rfl⟩ := hS i v (by simpa using hV)
        refine bk9 ?_
        clear bk9 G9
        have hok := mail_ok c (hcs c (List.mem_of_getElem? hci))
        have hl7 : @LT.lt Nat _ (L' + 1 + 1 + 1 + 1 + 1 + 1 + 1) h₂.objs.size := Heap.lt_size (News.get N2 (o := o7) List.mem_cons_self)
        clear hS hI hcs mD mM5 hp5 N5 F5
        replace ap := Apart.none ap
        replace N2 : News s.heap L' h₂ [] := News.none
        refine wpAny_with_toks (n := tk₃) (Nat.le_refl _) (turn_name F2 N2 ap hC hn hk htk (by rfl) (by rfl) ?_)
        intro h₄ oC mC' tk₄ F₄ N₄ hoC hx hkb gg htk₄ htk34
        have hn4 := hoC.ns (N₄ (C, oC) List.mem_cons_self).1
        refine tests0 ?_
        (try k_unmd)
        (try dsimp only)
        k_fold
        k_steps
        refine unhalt ?_
        (rename Fr _ _ _ _ => F6)
        have hlC : @LT.lt Nat _ C h₄.objs.size := Heap.lt_size (News.get N₄ List.mem_cons_self)
        refine Tells.use (t_read w (textOf c) tv hok.f) B F6 X' T' rfl rfl (by (try dsimp only at *); omega) (by first | exact upd (by assumption) | omega) (by first | exact upu (by assumption) | omega) ?_
        intro v9 h9 tk9 g9 ht9 p9
        refine hide fun G9 bk9 => ?_
        obtain ⟨lr, yr, rfl, ⟨⟨nr, er⟩, hfr⟩, hir⟩ := p9
        refine bk9 ?_
        clear bk9 G9
        (try dsimp only at hfr hir ht9 ⊢)
        have hfr' : @LE.le Nat _ h₄.objs.size lr := hfr
        refine ⟨rfl, eoutT hkb g9 hn4 (Nat.le_trans htk34 ht9) fun h'' T hT k1 k2 => ⟨c, lr, nr, yr, hci, rfl, Nat.lt_of_lt_of_le hl7 (Nat.le_trans (Nat.le_trans hC (Nat.le_of_lt hlC)) hfr'), k2 lr _ ?_ er, hir.mono hT⟩⟩
        exact fresh_ref hlC hfr' hkb
      case fn6 =>
        intro h₂ F2 N2 ap g2 D6 h' tk ys hD hl hv hk htk
        refine hide fun G9 bk9 => ?_
        obtain ⟨n6, F3, N3⟩ := fin_start F2 N2 ap hk hD hl
        obtain ⟨ys⟩ := ys
        obtain ⟨hlen6, hall⟩ := hv.all
        have hlen6 : ys.length = 5 := hlen6.trans hlen
        obtain ⟨newsR, NR, _, hmem⟩ := rows_news (k := L' + 1 + 1 + 1 + 1 + 1 + 1 + 1) (P := fun c zs => IntsTok tk zs (readZ (textOf c) (textOf c).length 0)) eL' (Nat.le_add_right _ 7) N3 hall
        refine bk9 ?_
        clear bk9 G9
        clear hall hv hk hl ap N3 F2 N2 F5 N5 hD g2
        (try k_sweep)
        (try dsimp only)
        refine src_listC (its := ⟨ys⟩) (h₀ := s.heap) (L := L') ?ha6 F3 NR ?hb6 ?hc6 (fun _ => true) (fun i y h => ∃ c R n rv, cs[i]? = some c ∧ y = .ref R ∧ @LT.lt Nat _ (L' + 1 + 1 + 1 + 1 + 1 + 1 + 1) R ∧ h.get? R = some { cls := .type "list", data := .seq rv n } ∧ IntsAre rv.toList (countsZ (textOf c))) ?tm6 ?fm6
        case ha6 => rfl
        case hb6 => exact ⟨_, News.get NR (List.mem_append_right _ List.mem_cons_self), rfl, _, rfl⟩
        case hc6 => exact szl hlen6
        case tm6 =>
          intro h₂ F2 N2 ap g2 C K i v h₃ tk₃ mC E' hC hK hKC hi hV hn hc hk htk2
          refine hide fun G9 bk9 => ?_
          obtain ⟨c, lr, nr, zr, hci, rfl, hlr, hir⟩ := hmem i v (by simpa using hV)
          refine bk9 ?_
          clear bk9 G9
          have hg : kindsZ (textOf c) = countsZ (textOf c) := (mail_ok c (hcs c (List.mem_of_getElem? hci))).g
          clear hS hI hcs mD mM5 hp5 hmem NR F3
          refine turn_cell F2 N2 ap hC hK hKC hn hc hk htk2 (by rfl) rfl ?_
          intro h₄ oC oK tk₄ F₄ N₄ hoC hdK hkb gg htk₄
          have hn4 := hoC.ns (N₄ (C, oC) (List.mem_cons_of_mem _ List.mem_cons_self)).1
          have heK := (N₄ (K, oK) List.mem_cons_self).1
          refine tests0 ?_
          (try k_unmd)
          (try dsimp only)
          k_fold
          k_steps
          refine unhalt ?_
          k_dflt (refine comp_eval (by with_unfolding_all rfl) (by decide) (by rfl) (by decide) ?_)
          k_steps
          refine unhalt ?_
          (rename Fr _ _ _ _ => F5); (rename News _ _ _ _ => N5'); (rename Grow _ _ => G5)
          refine' src_tuple (h₀ := s.heap) (L := L') ?hx6 F5 N5' ?hT6 ?hS6 (fun _ => true) (fun i y _ => ∃ z t, (kindsZ (textOf c))[i]? = some z ∧ y = .int z t) ?tz6 ?fz6
          case hT6 => exact ⟨_, head_at N5', rfl, _, rfl⟩
          case hx6 => rfl
          case hS6 => show 4 ≤ 16777216; decide
          case tz6 =>
            intro h₅ F7 N7 ap7 g7 C7 i7 v7 h₈ tk₈ mC7 E7 hC7 hi7 hV7 hn7 hk7 htk7
            refine hide fun G9 bk9 => ?_
            obtain ⟨b, ub, rfl, hb4, hbs, hub⟩ := kinds4 hV7
            refine bk9 ?_
            clear bk9 G9
            clear F5 N5' ap
            refine turn_name F7 N7 ap7 hC7 hn7 hk7 htk7 (by rfl) (by rfl) ?_
            intro h₆ oC6 mC6 tk₆ F₆ N₆ hoC6 hx6 hkb6 gg6 htk₆
            have hn6 := hoC6.ns (N₆ (C7, oC6) List.mem_cons_self).1
            refine tests0 ?_
            (try k_unmd)
            (try dsimp only)
            k_fold
            k_steps
            refine unhalt ?_
            (rename Fr _ _ _ _ => F8); (rename News _ _ _ _ => N8)
            refine Tells.use (t_countOf w lr zr.toList (readZ (textOf c) (textOf c).length 0) b ub hbs (hir.mono (Nat.le_trans htk₄ hub))) B F8 X' T' rfl rfl ?pr6 (by first | exact upd (by assumption) | omega) (by first | exact upu (by assumption) | omega) ?_
            case pr6 => exact ⟨_, News.get N8 (by repeat (first | exact List.mem_append_left _ hlr | apply List.mem_cons_of_mem)), rfl, _, rfl⟩
            intro v9 h9 tk9 g9 ht9 p9
            obtain ⟨tz, rfl⟩ := p9
            (try dsimp only)
            exact ⟨rfl, eout2 hkb6 g9 hn6 fun _ _ _ => ⟨_, tz, kinds_at hb4, rfl⟩⟩
          case fz6 =>
            intro h₅ F7 N7 ap7 g7 D7 h7 tk7 ys7 hD7 hl7 hv7 hk7 htk7
            obtain ⟨hlen7, hall7⟩ := hv7.all
            have hints := ints_by (zs := kindsZ (textOf c)) hlen7 hall7
            rw [hg] at hints
            have G7 : Grow h₄ h7 := fun b o e => hk7 b o (fun q => Nat.lt_irrefl _ ((List.mem_singleton.mp q) ▸ Heap.lt_size (G5 b o e))) (g7 b o (G5 b o e))
            obtain ⟨n7, e7'⟩ := hl7
            have h57 : ∀ b o, h₄.get? b = some o → b ≠ D7 := fun b o e q => absurd (Heap.lt_size (g7 b o (G5 b o e))) (Nat.not_lt.mpr (q ▸ hD7))
            have hl7 : @LT.lt Nat _ (L' + 1 + 1 + 1 + 1 + 1 + 1 + 1) D7 := Nat.lt_of_lt_of_le (Heap.lt_size (News.get N7 (o := o7) (List.mem_cons_of_mem _ (List.mem_cons_of_mem _ (List.mem_cons_of_mem _ (List.mem_append_right _ (.tail _ List.mem_cons_self))))))) hD7
            refine ⟨rfl, eoutC hkb G7 hn4 heK hdK fun h'' k1 k2 => ⟨c, D7, n7, ys7, hci, rfl, hl7, k2 D7 _ ?_ e7', hints⟩⟩
            cases e : h₃.get? D7 with
            | none => rfl
            | some o =>
              exfalso
              by_cases hcm : D7 ∈ [C, K]
              · rcases List.mem_cons.mp hcm with q | q
                · refine hide fun G9 bk9 => ?_
                  obtain ⟨o', _, _, e', _⟩ := hn4
                  refine bk9 ?_
                  clear bk9 G9
                  exact h57 C o' e' q.symm
                · exact h57 K oK heK (List.mem_singleton.mp q).symm
              · exact h57 D7 o (hkb _ _ hcm e) rfl
        case fm6 =>
          intro h₂ F2 N2 ap g2 D8 h' tk8 ys8 hD8 hl8 hv8 hk8 htk8
          have hD87 : @LT.lt Nat _ (L' + 1 + 1 + 1 + 1 + 1 + 1 + 1) D8 := Nat.lt_of_lt_of_le (Heap.lt_size (News.get N2 (o := o7) (List.mem_append_right _ (.tail _ List.mem_cons_self)))) hD8
          refine hide fun G9 bk9 => ?_
          obtain ⟨n8, F3, N3⟩ := fin_start F2 N2 ap hk8 hD8 hl8
          obtain ⟨ys8⟩ := ys8
          obtain ⟨hlen8, hall8⟩ := hv8.all
          have hlen8 : ys8.length = 5 := hlen8.trans hlen6
          obtain ⟨X8, NX, hX8, hR⟩ := rows_news (k := L' + 1 + 1 + 1 + 1 + 1 + 1 + 1) (P := fun c zs => IntsAre zs (countsZ (textOf c))) eL' (Nat.le_add_right _ 7) N3 hall8
          obtain ⟨T8, N9, hp8, hX, up⟩ := push7 (X := X8 ++ [_]) (fun q hq => NX q (mem_mid hq)) (fun q hq => (List.mem_append.mp hq).elim (hX8 q) (bdd1 hD87 q)) hp5
          refine bk9 ?_
          clear bk9 G9
          have hR := rows_up (P := fun c zs => IntsAre zs (countsZ (textOf c))) (fun q hq => hX q (List.mem_append_left _ hq)) hR
          have mD8 := hX _ (List.mem_append_right _ List.mem_cons_self)
          have mDb := up _ mD
          have mMb := up _ mM5
          clear hall8 hv8 hk8 hl8 hD8 ap g2 N2 F2 N3 NX hX8 hX up mD mM5 hp5 NR hmem
          (try k_sweep)
          (try dsimp only)
          (try k_fold)
          k_steps
          refine unhalt ?_
          walk_at "exec Assign"
          k_steps
          refine unhalt ?_
          k_dflt (refine comp_eval (by with_unfolding_all rfl) (by decide) (by rfl) (by decide) ?_)
          k_steps
          refine unhalt ?_
          (rename Fr _ _ _ _ => F5); (rename News _ _ _ _ => N5)
          refine src_list (its := its) (h₀ := s.heap) (L := L') ?hh7 F5 N5 ?hl7 ?hsz7 (fun _ => true) (fun i y _ => ∃ c t, cs[i]? = some c ∧ y = .str (textOf c) t) ?tn7 ?fn7
          case hh7 => rfl
          case hl7 => exact ⟨_, News.get N5 (in7 mMb), rfl, _, rfl⟩
          case hsz7 => exact hsz ▸ (show 5 ≤ 16777216 by decide)
          case tn7 =>
            intro h₂ F2 N2 ap g2 C i v h₃ tk₃ mC E' hC hi hV hn hk htk
            refine hide fun G9 bk9 => ?_
            obtain ⟨c, tv, hci, rfl⟩ := hI i v hV
            refine bk9 ?_
            clear bk9 G9
            have hok := mail_ok c (hcs c (List.mem_of_getElem? hci))
            clear hS hI hcs hR mD8 mDb mMb hp8 N5 F5
            replace ap := Apart.none ap
            replace N2 : News s.heap L' h₂ [] := News.none
            refine turn_name F2 N2 ap hC hn hk htk (by rfl) (by rfl) ?_
            intro h₄ oC mC' tk₄ F₄ N₄ hoC hx hkb gg htk₄
            have hn4 := hoC.ns (N₄ (C, oC) List.mem_cons_self).1
            refine tests0 ?_
            (try k_unmd)
            (try dsimp only)
            k_fold
            k_steps
            refine unhalt ?_
            (rename Fr _ _ _ _ => F6)
            refine Tells.use (t_sent w (mailOf c) tv (Nat.le_trans hok.a (by omega)) hok.b hok.c hok.d) B F6 X' T' rfl rfl (by (try dsimp only at *); omega) (by first | exact upd (by assumption) | omega) (by first | exact upu (by assumption) | omega) ?_
            intro v9 h9 tk9 g9 ht9 p9
            obtain ⟨tz, rfl⟩ := p9
            (try dsimp only)
            exact ⟨rfl, eout2 hkb g9 hn4 fun _ _ _ => ⟨c, tz, hci, rfl⟩⟩
          case fn7 =>
            intro h₂ F2 N2 ap g2 D7 h' tk7 ys7 hD hl hv hk htk
            have hD7 : @LT.lt Nat _ (L' + 1 + 1 + 1 + 1 + 1 + 1 + 1) D7 := Nat.lt_of_lt_of_le (Heap.lt_size (News.get N2 (o := o7) List.mem_cons_self)) hD
            refine hide fun G9 bk9 => ?_
            obtain ⟨n7, F3, N3⟩ := fin_start F2 N2 ap hk hD hl
            obtain ⟨ys7⟩ := ys7
            obtain ⟨hlen7, hS7⟩ := hv.all
            have hlen7 : ys7.length = 5 := hlen7.trans hsz
            obtain ⟨T9, N9, hp9, hX, up⟩ := push7 (X := [_]) N3 (bdd1 hD7) hp8
            refine bk9 ?_
            clear bk9 G9
            have mD7 := hX _ (.head _)
            have mDc := up _ mDb
            have mD8c := up _ mD8
            have hR := rows_up (P := fun c zs => IntsAre zs (countsZ (textOf c))) up hR
            clear hv hk hl hD ap N5 F5 N2 F2 N3 hX up mDb mD8 mMb hp8 hD7 g2
            (try k_sweep)
            (try dsimp only)
            (try k_fold)
            k_steps
            refine unhalt ?_
            walk_at "exec Assign"
            k_steps
            refine unhalt ?_
            k_dflt (refine comp_eval (by with_unfolding_all rfl) (by decide) (by rfl) (by decide) ?_)
            k_steps
            refine unhalt ?_
            (rename Fr _ _ _ _ => F5); (rename News _ _ _ _ => N5)
            refine src_list (its := ⟨ys7⟩) (h₀ := s.heap) (L := L') ?hh8 F5 N5 ?hl8 ?hsz8 (fun _ => true) (fun i y h => ∃ c R n rv, cs[i]? = some c ∧ y = .ref R ∧ @LT.lt Nat _ (L' + 1 + 1 + 1 + 1 + 1 + 1 + 1) R ∧ h.get? R = some { cls := .type "list", data := .seq rv n } ∧ IntsAre rv.toList (countsZ (textOf c))) ?tn8 ?fn8
            case hh8 => rfl
            case hl8 => exact ⟨_, News.get N5 (in7 mD7), rfl, _, rfl⟩
            case hsz8 => exact szl hlen7
            case tn8 =>
              intro h₂ F2 N2 ap g2 C i v h₃ tk₃ mC E' hC hi hV hn hk htk
              refine hide fun G9 bk9 => ?_
              obtain ⟨c, tv, hci, rfl⟩ := hS7 i v (by simpa using hV)
              refine bk9 ?_
              clear bk9 G9
              have hok := mail_ok c (hcs c (List.mem_of_getElem? hci))
              have hl7 : @LT.lt Nat _ (L' + 1 + 1 + 1 + 1 + 1 + 1 + 1) h₂.objs.size := Heap.lt_size (News.get N2 (o := o7) List.mem_cons_self)
              clear hS hS7 hI hcs hR mD7 mDc mD8c hp9 N5 F5
              replace ap := Apart.none ap
              replace N2 : News s.heap L' h₂ [] := News.none
              refine turn_name F2 N2 ap hC hn hk htk (by rfl) (by rfl) ?_
              intro h₄ oC mC' tk₄ F₄ N₄ hoC hx hkb gg htk₄
              have hn4 := hoC.ns (N₄ (C, oC) List.mem_cons_self).1
              have hlC : @LT.lt Nat _ C h₄.objs.size := Heap.lt_size (News.get N₄ List.mem_cons_self)
              refine tests0 ?_
              (try k_unmd)
              (try dsimp only)
              k_fold
              k_steps
              refine unhalt ?_
              (rename Fr _ _ _ _ => F6)
              refine Tells.use (t_counts w (textOf c) tv) B F6 X' T' rfl rfl (Nat.le_trans hok.f (by omega)) (by first | exact upd (by assumption) | omega) (by first | exact upu (by assumption) | omega) ?_
              intro v9 h9 tk9 g9 ht9 p9
              refine hide fun G9 bk9 => ?_
              obtain ⟨lr, y0, y1, y2, y3, rfl, ⟨⟨nr, er⟩, hfr⟩⟩ := p9
              refine bk9 ?_
              clear bk9 G9
              (try dsimp only at hfr ⊢)
              have hfr' : @LE.le Nat _ h₄.objs.size lr := hfr
              refine ⟨rfl, eout2 hkb g9 hn4 fun h'' k1 k2 => ⟨c, lr, nr, _, hci, rfl, Nat.lt_of_lt_of_le hl7 (Nat.le_trans (Nat.le_trans hC (Nat.le_of_lt hlC)) hfr'), k2 lr _ ?_ er, .cons _ _ (.cons _ _ (.cons _ _ (.cons _ _ .nil)))⟩⟩
              exact fresh_ref hlC hfr' hkb
            case fn8 =>
              intro h₂ F2 N2 ap g2 D9 h' tk8 ys9 hD hl hv hk htk
              have hD9 : @LT.lt Nat _ (L' + 1 + 1 + 1 + 1 + 1 + 1 + 1) D9 := Nat.lt_of_lt_of_le (Heap.lt_size (News.get N2 (o := o7) List.mem_cons_self)) hD
              refine hide fun G9 bk9 => ?_
              obtain ⟨n9, F3, N3⟩ := fin_start F2 N2 ap hk hD hl
              obtain ⟨ys9⟩ := ys9
              obtain ⟨hlen9, hall⟩ := hv.all
              have hlen9 : ys9.length = 5 := hlen9.trans hlen7
              obtain ⟨X9, NX, hX9, hR9⟩ := rows_news (k := L' + 1 + 1 + 1 + 1 + 1 + 1 + 1) (P := fun c zs => IntsAre zs (countsZ (textOf c))) eL' (Nat.le_add_right _ 7) N3 hall
              obtain ⟨Ta, N9, hpa, hX, up⟩ := push7 (X := X9 ++ [_]) (fun q hq => NX q (mem_put hq)) (fun q hq => (List.mem_append.mp hq).elim (hX9 q) (bdd1 hD9 q)) hp9
              refine bk9 ?_
              clear bk9 G9
              have hR9 := rows_up (P := fun c zs => IntsAre zs (countsZ (textOf c))) (fun q hq => hX q (List.mem_append_left _ hq)) hR9
              have hR8 := rows_up (P := fun c zs => IntsAre zs (countsZ (textOf c))) up hR
              have mD9 := hX _ (List.mem_append_right _ List.mem_cons_self)
              have mDd := up _ mDc
              have mD8d := up _ mD8c
              have mD7d := up _ mD7
              clear hall hv hk hl hD ap N5 F5 N2 F2 N3 NX hX up mDc mD8c mD7 hp9 hX9 hR hD9 g2
              (try k_sweep)
              (try dsimp only)
              (try k_fold)
              k_steps
              refine unhalt ?_
              (rename Fr _ _ _ _ => F8); (rename News _ _ _ _ => N8)
              have hjj : ∀ c ∈ cs, PyData.canLay0 (PyData.str (textOf c)) = true := fun c hc => (mail_ok c (hcs c hc)).j
              refine ne_dataH (reads_newData ⟨_, News.get N8 (in7 mDd), rfl, _, rfl⟩ (texts_read (hlen.trans h5.symm) hS)) (reads_newData ⟨_, News.get N8 (in7 mD7d), rfl, _, rfl⟩ (texts_read (hlen7.trans h5.symm) hS7)) (shaped_map (fun _ => Nat.zero_le 0) (by decide) cs hjj) (shaped_map (fun _ => Nat.zero_le 0) (by decide) cs hjj) (by show un + 3 + 64 < cLine; omega) ?_
              rw [eqv_map fun c => by simp [PyData.eqv]]
              (try dsimp only)
              k_steps
              refine unhalt ?_
              (rename News _ _ _ _ => N9)
              have hh := rows_heap (P := fun c zs => IntsAre zs (countsZ (textOf c))) N9 (fun _ => in7) hR8
              have hh9 := rows_heap (P := fun c zs => IntsAre zs (countsZ (textOf c))) N9 (fun _ => in7) hR9
              refine hide fun G9 bk9 => ?_
              obtain ⟨as8, r8⟩ := rows_read (hlen8.trans h5.symm) hh
              obtain ⟨as9, r9⟩ := rows_read (hlen9.trans h5.symm) hh9
              refine bk9 ?_
              clear bk9 G9
              have hjj : ∀ c ∈ cs, PyData.canLay0 (PyData.list ((countsZ (textOf c)).map PyData.int)) = true := fun c hc => ke_canLayAll0 _
              have hdd : ∀ c, PyData.depth (PyData.list ((countsZ (textOf c)).map PyData.int)) ≤ 1 := fun c => Nat.le_of_eq (congrArg (· + 1) (ke_depthAll _))
              refine ne_dataH (reads_list_at (News.get N9 (in7 mD8d)) rfl rfl r8) (reads_list_at (News.get N9 (in7 mD9)) rfl rfl r9) (shaped_map hdd (by decide) cs hjj) (shaped_map hdd (by decide) cs hjj) (by show un + 3 + 64 < cLine; omega) ?_
              rw [eqv_map fun c => by simp only [PyData.eqv, ked_eqvAll, decide_true]]
              clear hjj hdd r8 r9 hh hh9 as8 as9
              (try dsimp only)
              k_steps
              refine unhalt ?_
              walk_at "exec Assign"
              k_steps
              refine unhalt ?_
              k_dflt (refine comp_evalC (xc := Str.ofString "text") (by with_unfolding_all rfl) (by intro _ _; rfl) (by intro _; rfl) (by rfl) (by decide) ?_)
              k_steps
              refine unhalt ?_
              (rename Fr _ _ _ _ => F5); (rename News _ _ _ _ => N5)
              refine src_listC (its := ⟨ys7⟩) (h₀ := s.heap) (L := L') ?ha10 F5 N5 ?hb10 ?hc10 (fun _ => true) (fun i y _ => ∃ c t, cs[i]? = some c ∧ y = .int (rankZ cs c) t) ?tm10 ?fm10
              case ha10 => rfl
              case hb10 => exact ⟨_, News.get N5 (in7 mD7d), rfl, _, rfl⟩
              case hc10 => exact szl hlen7
              case tm10 =>
                intro h₂ F2 N2 ap g2 C K i v h₃ tk₃ mC E' hC hK hKC hi hV hn hc hk htk2
                refine hide fun G9 bk9 => ?_
                obtain ⟨c, tv, hci, rfl⟩ := hS7 i v (by simpa using hV)
                refine bk9 ?_
                clear bk9 G9
                clear hS hI hcs hR8 hR9 mD9 mDd mD8d N5 F5
                refine turn_cell F2 N2 ap hC hK hKC hn hc hk htk2 (by rfl) rfl ?_
                intro h₄ oC oK tk₄ F₄ N₄ hoC hdK hkb gg htk₄
                have hn4 := hoC.ns (N₄ (C, oC) (List.mem_cons_of_mem _ List.mem_cons_self)).1
                have heK := (N₄ (K, oK) List.mem_cons_self).1
                refine tests0 ?_
                (try k_unmd)
                (try dsimp only)
                k_fold
                k_steps
                refine unhalt ?_
                k_dflt (refine comp_eval (by with_unfolding_all rfl) (by decide) (by rfl) (by decide) ?_)
                k_steps
                refine unhalt ?_
                (rename Fr _ _ _ _ => F5); (rename News _ _ _ _ => N5'); (rename Grow _ _ => G5)
                refine src_list (its := ⟨ys7⟩) (h₀ := s.heap) (L := L') ?hd10 F5 N5' ?he10 ?hf10 (fun i => (cs[i]?.map fun d => ltZ (textOf d) (textOf c)).getD false) (fun i y _ => True) ?to10 ?fo10
                case hd10 => rfl
                case he10 => exact ⟨_, News.get N5' (.tail _ (.tail _ (in7 mD7d))), rfl, _, rfl⟩
                case hf10 => exact szl hlen7
                case to10 =>
                  intro h₅ F7 N7 ap7 g7 C7 i7 v7 h₈ tk₈ mC7 E7 hC7 hi7 hV7 hn7 hk7 htk7
                  refine hide fun G9 bk9 => ?_
                  obtain ⟨d, td, hdi, rfl⟩ := hS7 i7 v7 (by simpa using hV7)
                  refine bk9 ?_
                  clear bk9 G9
                  clear hS7 mD7d
                  refine turn_name F7 N7 ap7 hC7 hn7 hk7 htk7 (by rfl) (by rfl) ?_
                  intro h₆ oC6 mC6 tk₆ F₆ N₆ hoC6 hx6 hkb6 gg6 htk₆
                  have hn6 := hoC6.ns (N₆ (C7, oC6) List.mem_cons_self).1
                  refine tests1 ?_
                  (try k_unmd)
                  (try dsimp only)
                  k_fold
                  k_steps
                  all_goals first
                    | exact eout2 hkb6 (Grow.rfl' _) hn6 (fun _ _ _ => trivial)
                    | exact nout2 hkb6 (Grow.rfl' _) hn6
                    | (simp only [hdi, Option.map_some, Option.getD_some]; first | exact decide_eq_true (by assumption) | exact decide_eq_false (by assumption))
                    | (refine ⟨?_, eout2 hkb6 (Grow.rfl' _) hn6 (fun _ _ _ => trivial)⟩; simp only [hdi, Option.map_some, Option.getD_some]; exact decide_eq_true (by assumption))
                    | (refine ⟨?_, nout2 hkb6 (Grow.rfl' _) hn6⟩; simp only [hdi, Option.map_some, Option.getD_some]; exact decide_eq_false (by assumption))
                case fo10 =>
                  intro h₅ F7 N7 ap7 g7 D0' h7 tk7 zs7 hD7 hl7 hv7 hk7 htk7
                  have hcnt := hv7.count (cs := cs) (f := fun d => ltZ (textOf d) (textOf c)) (Nat.le_of_eq (hlen7.trans h5.symm))
                  have G7 : Grow h₄ h7 := fun b o e => hk7 b o (fun q => Nat.lt_irrefl _ ((List.mem_singleton.mp q) ▸ Heap.lt_size (G5 b o e))) (g7 b o (G5 b o e))
                  refine hide fun G9 bk9 => ?_
                  obtain ⟨n7', F3, N3⟩ := fin_start F7 N7 ap7 hk7 hD7 hl7
                  obtain ⟨zs7⟩ := zs7
                  refine bk9 ?_
                  clear bk9 G9
                  clear F7 N7 ap7 g7 hv7 hk7 hl7 F5 N5'
                  (try k_sweep)
                  (try dsimp only)
                  k_steps
                  have hy5 : zs7.length ≤ 5 := by
                    have e : zs7.length = _ := hcnt
                    rw [e]
                    exact Nat.le_trans (List.length_filter_le _ _) (by rw [List.length_take]; exact Nat.le_trans (Nat.min_le_right _ _) (Nat.le_of_eq h5))
                  refine call_len_list (items := ⟨zs7⟩) ⟨_, head_at N3, rfl, _, rfl⟩ (by show ((zs7.length : Nat) : Int) < 2 ^ 63; omega) ?_
                  have hcnt : zs7.length = ((cs.take ys7.length).filter fun d => ltZ (textOf d) (textOf c)).length := hcnt
                  rw [hlen7, ← h5, List.take_length] at hcnt
                  exact ⟨rfl, eoutC hkb G7 hn4 heK hdK fun _ _ _ => ⟨c, _, hci, congrArg (fun (z : Nat) => Value.int (z : Int) _) hcnt⟩⟩
              case fm10 =>
                intro h₂ F2 N2 ap g2 D10 h' tk10 yr hD hl hv hk htk
                have hD10 : @LT.lt Nat _ (L' + 1 + 1 + 1 + 1 + 1 + 1 + 1) D10 := Nat.lt_of_lt_of_le (Heap.lt_size (News.get N2 (o := o7) List.mem_cons_self)) hD
                refine hide fun G9 bk9 => ?_
                obtain ⟨n10, F3, N3⟩ := fin_start F2 N2 ap hk hD hl
                obtain ⟨yr⟩ := yr
                obtain ⟨hlen10, hK⟩ := hv.all
                have hlen10 : yr.length = 5 := hlen10.trans hlen7
                obtain ⟨Tb, N9, hpb, hX, up⟩ := push7 (X := [_]) N3 (bdd1 hD10) hpa
                refine bk9 ?_
                clear bk9 G9
                have mD10 := hX _ (.head _)
                have mDe := up _ mDd
                have mD8e := up _ mD8d
                have mD9e := up _ mD9
                have hR8 := rows_up (P := fun c zs => IntsAre zs (countsZ (textOf c))) up hR8
                have hR9 := rows_up (P := fun c zs => IntsAre zs (countsZ (textOf c))) up hR9
                clear hv hk hl hD ap N5 F5 N2 F2 N3 hX up mDd mD8d mD9 g2
                (try k_sweep)
                (try dsimp only)
                (try k_fold)
                k_steps
                refine unhalt ?_
                (rename Fr _ _ _ _ => F20); (rename News _ _ _ _ => N20)
                refine @T2 _ _ _ _ F20 hpt (by first | assumption | (dsimp only; omega)) hb9 h139 cs h5 hcs D D8 D9 D10 ⟨ys5⟩ ⟨ys8⟩ ⟨ys9⟩ ⟨yr⟩
                  n5 n8 n9 n10 _ _ _ _ o5 o6 _ (some (.ref D7)) w5 w6 _ (put4 N20 (in7 mD10) (in7 mD9e) (in7 mD8e) (in7 mDe))
                  (by assumption) e6 e5 (by assumption) (by assumption) (by assumption) (by assumption) hD10 (hpb _ mD9e) (hpb _ mD8e) (hpb _ mDe) hpb hlen hlen8 hlen9 hlen10 (toks_fwd (F := fun c t => .str (textOf c) t) hlen hS) (toks_fwd (F := fun c t => .int (rankZ cs c) t) hlen10 hK) (rows_fwd hlen8 hR8) (rows_fwd hlen9 hR9)
  case a =>
    (k_dflt (refine comp_assign (by with_unfolding_all rfl) (by with_unfolding_all rfl) (by decide) (by rfl) (by decide) (by rfl) (by rfl) ?_))
    k_steps
    refine unhalt ?_
    have hzl : zs.length = 3 ∨ zs.length = 5 := hzs.1
    (rename Fr _ _ _ _ => F7); (rename News _ _ _ _ => N7)
    refine add_upG F7 N7 (Grow.rfl' _) (.tail _ (in7 mA)) (.head _) rfl (by show zs.length + 2 ≤ 16777216; omega) ?_
    intro D1 h1 F9 N9 g1
    (try dsimp only)
    (try k_sweep)
    k_steps
    refine unhalt ?_
    (rename Fr _ _ _ _ => F7); (rename News _ _ _ _ => N7); (rename IntsAre _ (List.take 5 _) => hsd)
    refine' src_zip2 (h₀ := s.heap) (L := L') (xs := ws.toArray) ?hh F7 N7 ?ha ?hb ?hsz (fun _ => true) (fun i y _ => ∃ c t, y = .str (mailOf c) t ∧ 2 ≤ c.length ∧ c.length ≤ 4) ?tn ?fn
    case hb => exact ⟨_, head_at N7, rfl, _, rfl⟩
    case hh => rfl
    case ha => exact ⟨_, News.get N7 (.tail _ (.tail _ (.tail _ (in7 mN0)))), rfl, _, rfl⟩
    case hsz => exact Nat.le_trans (Nat.min_le_left _ _) (by rw [List.size_toArray, hwl]; decide)
    case tn =>
      intro h₂ wr tk2 F2 N2 ap g2 htk2 C i v h₃ tk₃ mC E' hC hi hV hn hk htk3
      refine hide fun G9 bk9 => ?_
      obtain ⟨T, vals, rfl, ⟨x, y, hx, hy, rfl⟩, hTT⟩ := hV
      refine bk9 ?_
      clear bk9 G9
      refine turn_pair rfl hTT F2 N2 ap hC hn hk htk3 rfl rfl (by decide) rfl ?_
      intro h₄ oC mC' tk₄ F₄ N₄ hoC hxa hxb hkb gg htk₄
      have hn4 := hoC.ns (N₄ (C, oC) List.mem_cons_self).1
      refine hide fun G9 bk9 => ?_
      obtain ⟨a, ta, rfl, ha0, ha1⟩ := mail_args hws hnb (by simpa using hx)
      obtain ⟨b, tb, rfl, hb2, hb4⟩ := sized_at hsd (told_bd hk24) (by simpa using hy)
      refine bk9 ?_
      clear bk9 G9
      clear F7 N7 hp0 mN0 mA mB
      refine tests0 ?_
      (try k_unmd)
      (try dsimp only)
      k_fold
      k_steps
      refine unhalt ?_
      (rename Fr _ _ _ _ => F6)
      refine Tells.use (t_mail w a ta b tb ⟨ha0, ha1⟩ ⟨hb2, hb4⟩) B F6 X' T' rfl rfl trivial (by first | exact upd (by assumption) | omega) (by first | exact upu (by assumption) | omega) ?_
      intro v9 h9 tk9 g9 ht9 p9
      refine hide fun G9 bk9 => ?_
      obtain ⟨cs, tz, hcl, rfl⟩ := p9
      refine bk9 ?_
      clear bk9 G9
      (try dsimp only)
      exact ⟨rfl, eout2 hkb g9 hn4 fun _ _ _ => ⟨cs, tz, rfl, by omega, by omega⟩⟩
    case fn =>
      intro h₂ wr tk2 F2 N2 ap g2 htk2
      refine fin_as_start2 (w := w) (s := { s with gens := gs9, toks := tk2 }) F2 N2 ap (fun i y h h' x => x) ?_
      intro D h' tk ys c hD F3 N3 hv htk
      refine ⟨rfl, ?_⟩
      refine hide fun G9 bk9 => ?_
      obtain ⟨ys⟩ := ys
      obtain ⟨hlen, hall⟩ := hv.all
      have hlen : ys.length = 5 := hlen.trans (by rw [List.size_toArray, List.size_toArray, hwl, told_len hsd (hks.length ▸ hzl)]; rfl)
      have hD7 : @LT.lt Nat _ (L' + 1 + 1 + 1 + 1 + 1 + 1 + 1) D := Nat.lt_of_lt_of_le (Heap.lt_size (News.get N2 (o := o7) (.tail _ (.tail _ (.tail _ List.mem_cons_self))))) hD
      obtain ⟨cs, hcl, hI, hcs⟩ := mails_cs ys hall
      obtain ⟨T9, N9, hp9, hX, _⟩ := push7 (X := [_]) (fun q hq => N3 q ((List.mem_cons.mp hq).elim (· ▸ .head _) fun h => .tail _ (.tail _ (.tail _ (.tail _ h))))) (bdd1 hD7) hp0
      refine bk9 ?_
      clear bk9 G9
      exact ⟨h', tk, _, D, c, ⟨ys⟩, cs, o1, o2, o3, o4, o5, o6, o7, _, _, _, _, _, _, _, T9, rfl, F3, if_pos rfl, N9, hX _ (.head _), hp9, e7, e6, e5, e4, e3, e2, e1, hcl.trans hlen, hlen, fun i v e => hI i v (by simpa using e), hcs⟩
end
section
theorem lookup_in {as : List Addr} {b : Addr} {o : Obj} : ∀ (K : Frag), (K.filter fun p => as.contains p.1).lookup b = some o → as.contains b = true ∧ K.lookup b = some o
  | [], h => by cases h
  | (x, y) :: r, h => by
    have ih := lookup_in (as := as) (b := b) (o := o) r
    rw [List.filter_cons] at h
    rw [List.lookup_cons]
    cases hc : as.contains x with
    | true =>
      rw [hc, if_pos rfl, List.lookup_cons] at h
      cases e : b == x with
      | true =>
        rw [e] at h
        rw [eq_of_beq e]
        exact ⟨hc, h⟩
      | false =>
        rw [e] at h
        exact ih h
    | false =>
      rw [hc] at h
      have h := ih (by simpa using h)
      cases e : b == x with
      | true =>
        rw [eq_of_beq e, hc] at h
        cases h.1
      | false => exact h
theorem in_sub {K K' : Frag} {h : Heap} (X : K.In h) (as : List Addr) (e : K' = K.filter fun p => as.contains p.1) : K'.In h := fun b o hb => by
  subst e
  exact X b o (lookup_in K hb).2
theorem fin_law {w : World} {s : Shared} {ns : List Int} {vs : List Value} {a : Addr} {p : Program} {loose : List Str} {mean : ExcName → Option Value} {mg mb : Str → Option Value} (T : Top p loose mean mg mb s.heap) (X : (h39 w.params).In s.heap) (h139 : s.heap.get? 139 = some (tabObj #[]))
    (hL : s.heap.IsList a vs.toArray) (hI : IntsAre vs ns) (hlen : ¬ (63 : Int) < ns.length) (htk : 669 ≤ s.toks) (hg : s.gens = #[]) :
    wpAny (model PySem.Challenge.rw_to0015_01.row.prog w) callerA (call (.ref 142) [.ref a]) (fun v s' => v = .bool true ∧ OldK s.heap s'.heap ∧ s'.os = s.os ∧ AllBare s'.gens) (fun _ _ => False) s := by
  have hvl : vs.length ≤ 63 := by rw [hI.length]; omega
  have H := t_law1 w a vs ns hI hvl (1 + claimMargin) 4 (some []) s ⟨⟨s.heap, ⟨rfl, fun _ _ e => e, trivial⟩⟩, X, ⟨_, _, _, _, _, T⟩⟩ ⟨hL, Nat.le_trans (by decide) htk, h139⟩ (by decide +kernel) (by decide +kernel)
  refine wpAny_call (codeAny_mono H fun r s' hr => ?_)
  refine hide fun G9 bk9 => ?_
  obtain ⟨fl, rfl, rfl, h', gs', tk', more, rfl, hk, ht, hb⟩ := hr
  have C := codeHd_of_K (c := 141) (P := 139) X (by kernel_rfl)
  obtain ⟨o, cvs, _, _, _, _, _, _, _, c1, c2, c3, c4, _⟩ := C
  refine bk9 ?_
  clear bk9 G9
  refine ⟨rfl, ⟨fun b o hb' => ?_, fun b o hb' => ?_⟩, rfl, ?_⟩
  · by_cases q : b = 139
    · subst q
      rw [h139] at hb'
      obtain rfl := Option.some.inj hb'
      exact .inr (.inl ⟨⟨141, o, cvs, c1, c2, c3, c4⟩, rfl, #[], more, rfl, by simpa using ht⟩)
    · exact .inl (hk b o q hb')
  · by_cases q : b = 139
    · exact ⟨_, q ▸ ht⟩
    · exact ⟨o, hk b o q hb'⟩
  · have : AllB gs' := hb (by rw [hg]; intro y hy; simp at hy)
    exact this
end
end Mine
namespace Mine
def zz.tw15644613132440466186 : Nat := 0
def zz.tw18242034866331357201 : Nat := 0
def zz.tw5238273697137443015 : Nat := 0
def zz.tw671408887610253350 : Nat := 0
def zz.tw7956743074768046431 : Nat := 0
def zz.tw6905704798382653389 : Nat := 0
def zz.tw13271441523142938983 : Nat := 0
def zz.tw15933379830353737208 : Nat := 0
def zz.tw348033869452705946 : Nat := 0
def zz.tw6571971515203078505 : Nat := 0
def zz.tw6542208850825262481 : Nat := 0
def zz.tw11863415790640443004 : Nat := 0
def zz.tw10554396802740165527 : Nat := 0
def zz.tw2731022138677407101 : Nat := 0
def zz.tw7355811586131255705 : Nat := 0
def zz.tw6094238267445625823 : Nat := 0
def zz.tw5750208296451946394 : Nat := 0
def zz.tw18047081245547825590 : Nat := 0
def zz.tw8556593879520435300 : Nat := 0
def zz.tw13508100943065069045 : Nat := 0
def zz.tw3311024063359453719 : Nat := 0
def zz.tw5993648844150430651 : Nat := 0
def zz.tw16237288631099908065 : Nat := 0
def zz.tw18038149258852250468 : Nat := 0
def zz.tw4901718344966620855 : Nat := 0
def zz.tw17833249948860222727 : Nat := 0
def zz.tw1801226776478258814 : Nat := 0
def zz.tw2582023268121078058 : Nat := 0
def zz.tw12114061939684898005 : Nat := 0
def zz.tw14149974846178833572 : Nat := 0
def zz.tw14841815283528214678 : Nat := 0
def zz.tw8074587433803705429 : Nat := 0
def zz.tw6506934442519081175 : Nat := 0
def zz.tw831142186755163438 : Nat := 0
def zz.tw1158386545980699172 : Nat := 0
def zz.tw4954234632933828792 : Nat := 0
def zz.tw2518375855730965983 : Nat := 0
def zz.tw4393544397584839373 : Nat := 0
def zz.tw16526099009473714670 : Nat := 0
def zz.tw11868540308379893840 : Nat := 0
def zz.tw17287222736072874678 : Nat := 0
def zz.tw14134081317221190767 : Nat := 0
def zz.tw10521820047187333708 : Nat := 0
def zz.tw357293859861918163 : Nat := 0
def zz.tw10545514880107976359 : Nat := 0
def zz.tw3194215557131579165 : Nat := 0
def zz.tw15218966565117809695 : Nat := 0
def zz.tw7447458136613414850 : Nat := 0
def zz.tw8691198446946011708 : Nat := 0
def zz.tw12128046541699092723 : Nat := 0
def zz.tw18256015373427534309 : Nat := 0
def zz.tw1071156920717880852 : Nat := 0
def zz.tw7529399936119619388 : Nat := 0
def zz.tw9270732580327264566 : Nat := 0
def zz.tw9148254577191034028 : Nat := 0
def zz.tw5054727475603475766 : Nat := 0
def zz.tw1930031577641736525 : Nat := 0
def zz.tw2836727863810332060 : Nat := 0
open PySem.W.X in
set_option Elab.async true in
theorem zz : PySem.Challenge.rw_to0015_01.Holds := by
  w_on
  o_law
  z_head
  (case hw => w_witness2)
  intro w s₀ s₁ mg mb G y fa o pm cd doc dV kV ho hd hcd hD hmg hg args vals as L hpre hlay hrd hwl hlo
  z_open y L KX ZH ZN ZT
  refine Ground.open G ?_
  intro T B D TE TW
  wrow_args hpre hlay hrd hwl hlo
  obtain ⟨hat, hsz⟩ := script_at L
  have htk := script_toks L ZT
  rename_i ns hs0 hlay0 hLy hr0 hl2 as4 as3 a vs as1 hL ra w1 r0 hI hr hc1 hc2
  x_fa T KX hmg
  have X39 : (Mine.h39 w.params).In s₁.heap := Mine.in_sub KX ((Mine.h39 w.params).map (·.1)) (by kernel_rfl)
  have h139 : s₁.heap.get? 139 = some (tabObj #[]) := KX 139 _ (by kernel_rfl)
  refine wpAny_mono (Mine.fin_law T X39 h139 hL hI hc1 htk hg) (fun v s' h => ?_) (fun _ _ e => e.elim)
  obtain ⟨rfl, hK, hos, hb⟩ := h
  refine ⟨.inl ⟨.bool true, .bool true, [], rfl, raisesW_false (by wrow_none_raised), ReadsW.bool true, ?_, unshared_nil⟩, hK, hos, hb⟩
  wrow_post
end Mine
theorem PySem.Challenge.cw_to0015_01_holds : PySem.Challenge.rw_to0015_01.Holds := by
  exact Mine.zz
