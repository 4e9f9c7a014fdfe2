import PyProof.Rows.All
import Wide.All
import OpenK.AllK
import Wide.FinOn
import PySem.Challenge.RW_rx0051_01
set_option Elab.async false
set_option compiler.extract_closed false
namespace Mine
section
open PySem PySem.W PyProof.Rows
set_option maxRecDepth 100000
set_option maxHeartbeats 8000000
noncomputable def fnK (i : Nat) (pm cd : Value) : Obj := match PySem.Challenge.pw_rx0051_01.main.body.drop i with
  | .FunctionDef n ps b _ _ _ sc _ _ _ :: _ => { cls := .type "function", data := .func (fnOf n n ps b sc .none .none .none pm none cd .none) }
  | _ => { cls := .none, data := .fields #[] }
noncomputable def o43 : Obj := by
  refine (fun (_ : True) => (?a : Obj)) ?h
  case h =>
    have e : ?a = fnK 3 (Value.str (Str.ofString "cpy313.fnmatch") 282) (Value.ref 42) := by
      dsimp only [fnK, PySem.Challenge.pw_rx0051_01, List.drop]
      exact rfl
    exact True.intro
noncomputable def o62 : Obj := by
  refine (fun (_ : True) => (?a : Obj)) ?h
  case h =>
    have e : ?a = fnK 8 (Value.str (Str.ofString "cpy313.fnmatch") 486) (Value.ref 61) := by
      dsimp only [fnK, PySem.Challenge.pw_rx0051_01, List.drop]
      exact rfl
    exact True.intro
noncomputable def o69 : Obj := by
  refine (fun (_ : True) => (?a : Obj)) ?h
  case h =>
    have e : ?a = fnK 9 (Value.str (Str.ofString "cpy313.fnmatch") 486) (Value.ref 68) := by
      dsimp only [fnK, PySem.Challenge.pw_rx0051_01, List.drop]
      exact rfl
    exact True.intro
noncomputable def o76 : Obj := by
  refine (fun (_ : True) => (?a : Obj)) ?h
  case h =>
    have e : ?a = fnK 11 (Value.str (Str.ofString "cpy313.imaplib") 520) (Value.ref 75) := by
      dsimp only [fnK, PySem.Challenge.pw_rx0051_01, List.drop]
      exact rfl
    exact True.intro
noncomputable def o83 : Obj := by
  refine (fun (_ : True) => (?a : Obj)) ?h
  case h =>
    have e : ?a = fnK 13 (Value.str (Str.ofString "cpy313.stat") 532) (Value.ref 82) := by
      dsimp only [fnK, PySem.Challenge.pw_rx0051_01, List.drop]
      exact rfl
    exact True.intro
noncomputable def o123 : Obj := by
  refine (fun (_ : True) => (?a : Obj)) ?h
  case h =>
    have e : ?a = fnK 34 (Value.str (Str.ofString "cpy313.stat") 532) (Value.ref 122) := by
      dsimp only [fnK, PySem.Challenge.pw_rx0051_01, List.drop]
      exact rfl
    exact True.intro
noncomputable def o130 : Obj := by
  refine (fun (_ : True) => (?a : Obj)) ?h
  case h =>
    have e : ?a = fnK 36 (Value.str (Str.ofString "law_rx0051_01") 617) (Value.ref 129) := by
      dsimp only [fnK, PySem.Challenge.pw_rx0051_01, List.drop]
      exact rfl
    exact True.intro
noncomputable def o135 : Obj := by
  refine (fun (_ : True) => (?a : Obj)) ?h
  case h =>
    have e : ?a = fnK 37 (Value.str (Str.ofString "law_rx0051_01") 617) (Value.ref 134) := by
      dsimp only [fnK, PySem.Challenge.pw_rx0051_01, List.drop]
      exact rfl
    exact True.intro
noncomputable def o142 : Obj := by
  refine (fun (_ : True) => (?a : Obj)) ?h
  case h =>
    have e : ?a = fnK 38 (Value.str (Str.ofString "law_rx0051_01") 617) (Value.ref 141) := by
      dsimp only [fnK, PySem.Challenge.pw_rx0051_01, List.drop]
      exact rfl
    exact True.intro
noncomputable def o149 : Obj := by
  refine (fun (_ : True) => (?a : Obj)) ?h
  case h =>
    have e : ?a = fnK 39 (Value.str (Str.ofString "law_rx0051_01") 617) (Value.ref 148) := by
      dsimp only [fnK, PySem.Challenge.pw_rx0051_01, List.drop]
      exact rfl
    exact True.intro
noncomputable def o156 : Obj := by
  refine (fun (_ : True) => (?a : Obj)) ?h
  case h =>
    have e : ?a = fnK 40 (Value.str (Str.ofString "law_rx0051_01") 617) (Value.ref 155) := by
      dsimp only [fnK, PySem.Challenge.pw_rx0051_01, List.drop]
      exact rfl
    exact True.intro
noncomputable def o161 : Obj := by
  refine (fun (_ : True) => (?a : Obj)) ?h
  case h =>
    have e : ?a = fnK 41 (Value.str (Str.ofString "law_rx0051_01") 617) (Value.ref 160) := by
      dsimp only [fnK, PySem.Challenge.pw_rx0051_01, List.drop]
      exact rfl
    exact True.intro
noncomputable def o168 : Obj := by
  refine (fun (_ : True) => (?a : Obj)) ?h
  case h =>
    have e : ?a = fnK 42 (Value.str (Str.ofString "law_rx0051_01") 617) (Value.ref 167) := by
      dsimp only [fnK, PySem.Challenge.pw_rx0051_01, List.drop]
      exact rfl
    exact True.intro
noncomputable def o175 : Obj := by
  refine (fun (_ : True) => (?a : Obj)) ?h
  case h =>
    have e : ?a = fnK 43 (Value.str (Str.ofString "law_rx0051_01") 617) (Value.ref 174) := by
      dsimp only [fnK, PySem.Challenge.pw_rx0051_01, List.drop]
      exact rfl
    exact True.intro
noncomputable def o182 : Obj := by
  refine (fun (_ : True) => (?a : Obj)) ?h
  case h =>
    have e : ?a = fnK 44 (Value.str (Str.ofString "law_rx0051_01") 617) (Value.ref 181) := by
      dsimp only [fnK, PySem.Challenge.pw_rx0051_01, List.drop]
      exact rfl
    exact True.intro
noncomputable def o187 : Obj := by
  refine (fun (_ : True) => (?a : Obj)) ?h
  case h =>
    have e : ?a = fnK 45 (Value.str (Str.ofString "law_rx0051_01") 617) (Value.ref 186) := by
      dsimp only [fnK, PySem.Challenge.pw_rx0051_01, List.drop]
      exact rfl
    exact True.intro
noncomputable def o192 : Obj := by
  refine (fun (_ : True) => (?a : Obj)) ?h
  case h =>
    have e : ?a = fnK 46 (Value.str (Str.ofString "law_rx0051_01") 617) (Value.ref 191) := by
      dsimp only [fnK, PySem.Challenge.pw_rx0051_01, List.drop]
      exact rfl
    exact True.intro
noncomputable def o199 : Obj := by
  refine (fun (_ : True) => (?a : Obj)) ?h
  case h =>
    have e : ?a = fnK 47 (Value.str (Str.ofString "law_rx0051_01") 617) (Value.ref 198) := by
      dsimp only [fnK, PySem.Challenge.pw_rx0051_01, List.drop]
      exact rfl
    exact True.intro
noncomputable def K39 (P : Params) : Frag :=
(nat_lit 3, { cls := Value.type "dict", data := Data.dict #[{ hash := PyData.keyHash P (Str.ofString "__name__"), key := Value.str (Str.ofString "__name__") 165, val := Value.str (Str.ofString "law_rx0051_01") 617 }, { hash := PyData.keyHash P (Str.ofString "__doc__"), key := Value.str (Str.ofString "__doc__") 166, val := Value.none }, { hash := PyData.keyHash P (Str.ofString "__package__"), key := Value.str (Str.ofString "__package__") 167, val := Value.none }, { hash := PyData.keyHash P (Str.ofString "__loader__"), key := Value.str (Str.ofString "__loader__") 168, val := Value.builtin "__main__.__loader__#opaque" }, { hash := PyData.keyHash P (Str.ofString "__spec__"), key := Value.str (Str.ofString "__spec__") 169, val := Value.none }, { hash := PyData.keyHash P (Str.ofString "__annotations__"), key := Value.str (Str.ofString "__annotations__") 170, val := Value.ref 6 }, { hash := PyData.keyHash P (Str.ofString "__builtins__"), key := Value.str (Str.ofString "__builtins__") 171, val := Value.ref 4 }, { hash := PyData.keyHash P (Str.ofString "__file__"), key := Value.str (Str.ofString "__file__") 173, val := Value.str (Str.ofString "/claim/cut.py") 172 }, { hash := PyData.keyHash P (Str.ofString "__cached__"), key := Value.str (Str.ofString "__cached__") 174, val := Value.none }, { hash := PyData.keyHash P (Str.ofString "_sre"), key := Value.str (Str.ofString "_sre") 275, val := Value.ref 12 }, { hash := PyData.keyHash P (Str.ofString "_twin_re_1"), key := Value.str (Str.ofString "_twin_re_1") 321, val := Value.ref 36 }, { hash := PyData.keyHash P (Str.ofString "translate"), key := Value.str (Str.ofString "translate") 330, val := Value.ref 43 }, { hash := PyData.keyHash P (Str.ofString "_special_chars_map"), key := Value.str (Str.ofString "_special_chars_map") 478, val := Value.ref 45 }, { hash := PyData.keyHash P (Str.ofString "escape"), key := Value.str (Str.ofString "escape") 485, val := Value.ref 55 }, { hash := PyData.keyHash P (Str.ofString "_translate"), key := Value.str (Str.ofString "_translate") 506, val := Value.ref 62 }, { hash := PyData.keyHash P (Str.ofString "_join_translated_parts"), key := Value.str (Str.ofString "_join_translated_parts") 519, val := Value.ref 69 }, { hash := PyData.keyHash P (Str.ofString "Int2AP"), key := Value.str (Str.ofString "Int2AP") 531, val := Value.ref 76 }, { hash := PyData.keyHash P (Str.ofString "S_IFMT"), key := Value.str (Str.ofString "S_IFMT") 540, val := Value.ref 83 }, { hash := PyData.keyHash P (Str.ofString "S_IFDIR"), key := Value.str (Str.ofString "S_IFDIR") 542, val := Value.int 16384 541 }, { hash := PyData.keyHash P (Str.ofString "S_IFCHR"), key := Value.str (Str.ofString "S_IFCHR") 544, val := Value.int 8192 543 }, { hash := PyData.keyHash P (Str.ofString "S_IFBLK"), key := Value.str (Str.ofString "S_IFBLK") 546, val := Value.int 24576 545 }, { hash := PyData.keyHash P (Str.ofString "S_IFREG"), key := Value.str (Str.ofString "S_IFREG") 548, val := Value.int 32768 547 }, { hash := PyData.keyHash P (Str.ofString "S_IFIFO"), key := Value.str (Str.ofString "S_IFIFO") 550, val := Value.int 4096 549 }, { hash := PyData.keyHash P (Str.ofString "S_IFLNK"), key := Value.str (Str.ofString "S_IFLNK") 552, val := Value.int 40960 551 }, { hash := PyData.keyHash P (Str.ofString "S_IFSOCK"), key := Value.str (Str.ofString "S_IFSOCK") 554, val := Value.int 49152 553 }, { hash := PyData.keyHash P (Str.ofString "S_ISUID"), key := Value.str (Str.ofString "S_ISUID") 556, val := Value.int 2048 555 }, { hash := PyData.keyHash P (Str.ofString "S_ISGID"), key := Value.str (Str.ofString "S_ISGID") 558, val := Value.int 1024 557 }, { hash := PyData.keyHash P (Str.ofString "S_ISVTX"), key := Value.str (Str.ofString "S_ISVTX") 560, val := Value.int 512 559 }, { hash := PyData.keyHash P (Str.ofString "S_IRUSR"), key := Value.str (Str.ofString "S_IRUSR") 562, val := Value.int 256 561 }, { hash := PyData.keyHash P (Str.ofString "S_IWUSR"), key := Value.str (Str.ofString "S_IWUSR") 564, val := Value.int 128 563 }, { hash := PyData.keyHash P (Str.ofString "S_IXUSR"), key := Value.str (Str.ofString "S_IXUSR") 566, val := Value.int 64 565 }, { hash := PyData.keyHash P (Str.ofString "S_IRGRP"), key := Value.str (Str.ofString "S_IRGRP") 568, val := Value.int 32 567 }, { hash := PyData.keyHash P (Str.ofString "S_IWGRP"), key := Value.str (Str.ofString "S_IWGRP") 570, val := Value.int 16 569 }, { hash := PyData.keyHash P (Str.ofString "S_IXGRP"), key := Value.str (Str.ofString "S_IXGRP") 572, val := Value.int 8 571 }, { hash := PyData.keyHash P (Str.ofString "S_IROTH"), key := Value.str (Str.ofString "S_IROTH") 574, val := Value.int 4 573 }, { hash := PyData.keyHash P (Str.ofString "S_IWOTH"), key := Value.str (Str.ofString "S_IWOTH") 576, val := Value.int 2 575 }, { hash := PyData.keyHash P (Str.ofString "S_IXOTH"), key := Value.str (Str.ofString "S_IXOTH") 578, val := Value.int 1 577 }, { hash := PyData.keyHash P (Str.ofString "_filemode_table"), key := Value.str (Str.ofString "_filemode_table") 604, val := Value.ref 116 }, { hash := PyData.keyHash P (Str.ofString "filemode"), key := Value.str (Str.ofString "filemode") 616, val := Value.ref 123 }, { hash := PyData.keyHash P (Str.ofString "_law_cells"), key := Value.str (Str.ofString "_law_cells") 627, val := Value.ref 130 }, { hash := PyData.keyHash P (Str.ofString "_law_word"), key := Value.str (Str.ofString "_law_word") 633, val := Value.ref 135 }, { hash := PyData.keyHash P (Str.ofString "_law_spelled"), key := Value.str (Str.ofString "_law_spelled") 642, val := Value.ref 142 }, { hash := PyData.keyHash P (Str.ofString "_law_row"), key := Value.str (Str.ofString "_law_row") 653, val := Value.ref 149 }, { hash := PyData.keyHash P (Str.ofString "_law_inside"), key := Value.str (Str.ofString "_law_inside") 663, val := Value.ref 156 }, { hash := PyData.keyHash P (Str.ofString "_law_taken"), key := Value.str (Str.ofString "_law_taken") 669, val := Value.ref 161 }, { hash := PyData.keyHash P (Str.ofString "_law_told"), key := Value.str (Str.ofString "_law_told") 679, val := Value.ref 168 }, { hash := PyData.keyHash P (Str.ofString "_law_sign"), key := Value.str (Str.ofString "_law_sign") 687, val := Value.ref 175 }, { hash := PyData.keyHash P (Str.ofString "_law_read"), key := Value.str (Str.ofString "_law_read") 698, val := Value.ref 182 }, { hash := PyData.keyHash P (Str.ofString "_law_members"), key := Value.str (Str.ofString "_law_members") 704, val := Value.ref 187 }, { hash := PyData.keyHash P (Str.ofString "_law_run"), key := Value.str (Str.ofString "_law_run") 710, val := Value.ref 192 }, { hash := PyData.keyHash P (Str.ofString "law"), key := Value.str (Str.ofString "law") 719, val := Value.ref 199 }] 51 }) ::
(nat_lit 35, { cls := Value.type "tuple", data := Data.seq #[Value.int 14 0, Value.int 14 0, Value.int 4 0, Value.int 1 0, Value.int 1 0, Value.int 9 0, Value.int 0 0, Value.int 64 0, Value.int 0 0, Value.int 1342177280 0, Value.int 0 0, Value.int 0 0, Value.int 0 0, Value.int 0 0, Value.int 0 0, Value.int 17 0, Value.int 0 0, Value.int 13 0, Value.int 11 0, Value.int 9 0, Value.int 0 0, Value.int 64 0, Value.int 0 0, Value.int 1342177280 0, Value.int 0 0, Value.int 0 0, Value.int 0 0, Value.int 0 0, Value.int 0 0, Value.int 17 0, Value.int 1 0, Value.int 1 0] }) ::
(nat_lit 36, { cls := Value.type "re.Pattern", data := Data.fields #[Value.str (Str.ofString "([&~|])") 285, Value.int 32 320, Value.int 1 0, Value.none, Value.none, Value.ref 35, Value.int 0 0] }) ::
(nat_lit 42, { cls := Value.type "code", data := Data.fields #[Value.str (Str.ofString "translate") 322, Value.str (Str.ofString "translate") 323, Value.str (Str.ofString "/claim/cut.py") 324, Value.int 4 0, Value.int 1 0, Value.int 0 0, Value.int 0 0, Value.int 3 0, Value.ref 37, Value.bool true, Value.int 276 0, Value.ref 38, Value.none, Value.ref 39, Value.ref 40, Value.ref 41, Value.int 328 0, Value.int 4 0, Value.str (Str.ofString "/claim/cut.py") 329] }) ::
(nat_lit 43, o43) ::
(nat_lit 61, { cls := Value.type "code", data := Data.fields #[Value.str (Str.ofString "_translate") 488, Value.str (Str.ofString "_translate") 489, Value.str (Str.ofString "/claim/cut.py") 490, Value.int 17 0, Value.int 3 0, Value.int 0 0, Value.int 0 0, Value.int 3 0, Value.ref 56, Value.bool true, Value.int 276 0, Value.ref 57, Value.none, Value.ref 58, Value.ref 59, Value.ref 60, Value.int 504 0, Value.int 17 0, Value.str (Str.ofString "/claim/cut.py") 505] }) ::
(nat_lit 62, o62) ::
(nat_lit 68, { cls := Value.type "code", data := Data.fields #[Value.str (Str.ofString "_join_translated_parts") 507, Value.str (Str.ofString "_join_translated_parts") 508, Value.str (Str.ofString "/claim/cut.py") 509, Value.int 79 0, Value.int 2 0, Value.int 0 0, Value.int 0 0, Value.int 3 0, Value.ref 63, Value.bool true, Value.int 276 0, Value.ref 64, Value.none, Value.ref 65, Value.ref 66, Value.ref 67, Value.int 517 0, Value.int 79 0, Value.str (Str.ofString "/claim/cut.py") 518] }) ::
(nat_lit 69, o69) ::
(nat_lit 75, { cls := Value.type "code", data := Data.fields #[Value.str (Str.ofString "Int2AP") 522, Value.str (Str.ofString "Int2AP") 523, Value.str (Str.ofString "/claim/cut.py") 524, Value.int 107 0, Value.int 1 0, Value.int 0 0, Value.int 0 0, Value.int 3 0, Value.ref 70, Value.bool true, Value.int 276 0, Value.ref 71, Value.none, Value.ref 72, Value.ref 73, Value.ref 74, Value.int 529 0, Value.int 107 0, Value.str (Str.ofString "/claim/cut.py") 530] }) ::
(nat_lit 76, o76) ::
(nat_lit 82, { cls := Value.type "code", data := Data.fields #[Value.str (Str.ofString "S_IFMT") 534, Value.str (Str.ofString "S_IFMT") 535, Value.str (Str.ofString "/claim/cut.py") 536, Value.int 116 0, Value.int 1 0, Value.int 0 0, Value.int 0 0, Value.int 3 0, Value.ref 77, Value.bool true, Value.int 276 0, Value.ref 78, Value.none, Value.ref 79, Value.ref 80, Value.ref 81, Value.int 538 0, Value.int 116 0, Value.str (Str.ofString "/claim/cut.py") 539] }) ::
(nat_lit 83, o83) ::
(nat_lit 84, { cls := Value.type "tuple", data := Data.seq #[Value.int 40960 551, Value.str (Str.ofString "l") 579] }) ::
(nat_lit 85, { cls := Value.type "tuple", data := Data.seq #[Value.int 49152 553, Value.str (Str.ofString "s") 580] }) ::
(nat_lit 86, { cls := Value.type "tuple", data := Data.seq #[Value.int 32768 547, Value.str (Str.ofString "-") 581] }) ::
(nat_lit 87, { cls := Value.type "tuple", data := Data.seq #[Value.int 24576 545, Value.str (Str.ofString "b") 582] }) ::
(nat_lit 88, { cls := Value.type "tuple", data := Data.seq #[Value.int 16384 541, Value.str (Str.ofString "d") 583] }) ::
(nat_lit 89, { cls := Value.type "tuple", data := Data.seq #[Value.int 8192 543, Value.str (Str.ofString "c") 584] }) ::
(nat_lit 90, { cls := Value.type "tuple", data := Data.seq #[Value.int 4096 549, Value.str (Str.ofString "p") 585] }) ::
(nat_lit 91, { cls := Value.type "tuple", data := Data.seq #[Value.ref 84, Value.ref 85, Value.ref 86, Value.ref 87, Value.ref 88, Value.ref 89, Value.ref 90] }) ::
(nat_lit 92, { cls := Value.type "tuple", data := Data.seq #[Value.int 256 561, Value.str (Str.ofString "r") 586] }) ::
(nat_lit 93, { cls := Value.type "tuple", data := Data.seq #[Value.ref 92] }) ::
(nat_lit 94, { cls := Value.type "tuple", data := Data.seq #[Value.int 128 563, Value.str (Str.ofString "w") 587] }) ::
(nat_lit 95, { cls := Value.type "tuple", data := Data.seq #[Value.ref 94] }) ::
(nat_lit 96, { cls := Value.type "tuple", data := Data.seq #[Value.int 2112 588, Value.str (Str.ofString "s") 589] }) ::
(nat_lit 97, { cls := Value.type "tuple", data := Data.seq #[Value.int 2048 555, Value.str (Str.ofString "S") 590] }) ::
(nat_lit 98, { cls := Value.type "tuple", data := Data.seq #[Value.int 64 565, Value.str (Str.ofString "x") 591] }) ::
(nat_lit 99, { cls := Value.type "tuple", data := Data.seq #[Value.ref 96, Value.ref 97, Value.ref 98] }) ::
(nat_lit 100, { cls := Value.type "tuple", data := Data.seq #[Value.int 32 567, Value.str (Str.ofString "r") 592] }) ::
(nat_lit 101, { cls := Value.type "tuple", data := Data.seq #[Value.ref 100] }) ::
(nat_lit 102, { cls := Value.type "tuple", data := Data.seq #[Value.int 16 569, Value.str (Str.ofString "w") 593] }) ::
(nat_lit 103, { cls := Value.type "tuple", data := Data.seq #[Value.ref 102] }) ::
(nat_lit 104, { cls := Value.type "tuple", data := Data.seq #[Value.int 1032 594, Value.str (Str.ofString "s") 595] }) ::
(nat_lit 105, { cls := Value.type "tuple", data := Data.seq #[Value.int 1024 557, Value.str (Str.ofString "S") 596] }) ::
(nat_lit 106, { cls := Value.type "tuple", data := Data.seq #[Value.int 8 571, Value.str (Str.ofString "x") 597] }) ::
(nat_lit 107, { cls := Value.type "tuple", data := Data.seq #[Value.ref 104, Value.ref 105, Value.ref 106] }) ::
(nat_lit 108, { cls := Value.type "tuple", data := Data.seq #[Value.int 4 573, Value.str (Str.ofString "r") 598] }) ::
(nat_lit 109, { cls := Value.type "tuple", data := Data.seq #[Value.ref 108] }) ::
(nat_lit 110, { cls := Value.type "tuple", data := Data.seq #[Value.int 2 575, Value.str (Str.ofString "w") 599] }) ::
(nat_lit 111, { cls := Value.type "tuple", data := Data.seq #[Value.ref 110] }) ::
(nat_lit 112, { cls := Value.type "tuple", data := Data.seq #[Value.int 513 600, Value.str (Str.ofString "t") 601] }) ::
(nat_lit 113, { cls := Value.type "tuple", data := Data.seq #[Value.int 512 559, Value.str (Str.ofString "T") 602] }) ::
(nat_lit 114, { cls := Value.type "tuple", data := Data.seq #[Value.int 1 577, Value.str (Str.ofString "x") 603] }) ::
(nat_lit 115, { cls := Value.type "tuple", data := Data.seq #[Value.ref 112, Value.ref 113, Value.ref 114] }) ::
(nat_lit 116, { cls := Value.type "tuple", data := Data.seq #[Value.ref 91, Value.ref 93, Value.ref 95, Value.ref 99, Value.ref 101, Value.ref 103, Value.ref 107, Value.ref 109, Value.ref 111, Value.ref 115] }) ::
(nat_lit 122, { cls := Value.type "code", data := Data.fields #[Value.str (Str.ofString "filemode") 605, Value.str (Str.ofString "filemode") 606, Value.str (Str.ofString "/claim/cut.py") 607, Value.int 138 0, Value.int 1 0, Value.int 0 0, Value.int 0 0, Value.int 3 0, Value.ref 117, Value.bool true, Value.int 276 0, Value.ref 118, Value.none, Value.ref 119, Value.ref 120, Value.ref 121, Value.int 614 0, Value.int 138 0, Value.str (Str.ofString "/claim/cut.py") 615] }) ::
(nat_lit 123, o123) ::
(nat_lit 129, { cls := Value.type "code", data := Data.fields #[Value.str (Str.ofString "_law_cells") 619, Value.str (Str.ofString "_law_cells") 620, Value.str (Str.ofString "/claim/cut.py") 621, Value.int 156 0, Value.int 1 0, Value.int 0 0, Value.int 0 0, Value.int 3 0, Value.ref 124, Value.bool true, Value.int 276 0, Value.ref 125, Value.none, Value.ref 126, Value.ref 127, Value.ref 128, Value.int 625 0, Value.int 156 0, Value.str (Str.ofString "/claim/cut.py") 626] }) ::
(nat_lit 130, o130) ::
(nat_lit 134, { cls := Value.type "code", data := Data.fields #[Value.str (Str.ofString "_law_word") 628, Value.str (Str.ofString "_law_word") 629, Value.str (Str.ofString "/claim/cut.py") 630, Value.int 161 0, Value.int 1 0, Value.int 0 0, Value.int 0 0, Value.int 3 0, Value.ref 131, Value.bool true, Value.int 276 0, Value.ref 132, Value.none, Value.none, Value.none, Value.ref 133, Value.int 631 0, Value.int 161 0, Value.str (Str.ofString "/claim/cut.py") 632] }) ::
(nat_lit 135, o135) ::
(nat_lit 141, { cls := Value.type "code", data := Data.fields #[Value.str (Str.ofString "_law_spelled") 634, Value.str (Str.ofString "_law_spelled") 635, Value.str (Str.ofString "/claim/cut.py") 636, Value.int 166 0, Value.int 1 0, Value.int 0 0, Value.int 0 0, Value.int 3 0, Value.ref 136, Value.bool true, Value.int 276 0, Value.ref 137, Value.none, Value.ref 138, Value.ref 139, Value.ref 140, Value.int 640 0, Value.int 166 0, Value.str (Str.ofString "/claim/cut.py") 641] }) ::
(nat_lit 142, o142) ::
(nat_lit 148, { cls := Value.type "code", data := Data.fields #[Value.str (Str.ofString "_law_row") 643, Value.str (Str.ofString "_law_row") 644, Value.str (Str.ofString "/claim/cut.py") 645, Value.int 173 0, Value.int 1 0, Value.int 0 0, Value.int 0 0, Value.int 3 0, Value.ref 143, Value.bool true, Value.int 276 0, Value.ref 144, Value.none, Value.ref 145, Value.ref 146, Value.ref 147, Value.int 651 0, Value.int 173 0, Value.str (Str.ofString "/claim/cut.py") 652] }) ::
(nat_lit 149, o149) ::
(nat_lit 155, { cls := Value.type "code", data := Data.fields #[Value.str (Str.ofString "_law_inside") 654, Value.str (Str.ofString "_law_inside") 655, Value.str (Str.ofString "/claim/cut.py") 656, Value.int 180 0, Value.int 4 0, Value.int 0 0, Value.int 0 0, Value.int 3 0, Value.ref 150, Value.bool true, Value.int 276 0, Value.ref 151, Value.none, Value.ref 152, Value.ref 153, Value.ref 154, Value.int 661 0, Value.int 180 0, Value.str (Str.ofString "/claim/cut.py") 662] }) ::
(nat_lit 156, o156) ::
(nat_lit 160, { cls := Value.type "code", data := Data.fields #[Value.str (Str.ofString "_law_taken") 664, Value.str (Str.ofString "_law_taken") 665, Value.str (Str.ofString "/claim/cut.py") 666, Value.int 182 0, Value.int 2 0, Value.int 0 0, Value.int 0 0, Value.int 3 0, Value.ref 157, Value.bool true, Value.int 276 0, Value.ref 158, Value.none, Value.none, Value.none, Value.ref 159, Value.int 667 0, Value.int 182 0, Value.str (Str.ofString "/claim/cut.py") 668] }) ::
(nat_lit 161, o161) ::
(nat_lit 167, { cls := Value.type "code", data := Data.fields #[Value.str (Str.ofString "_law_told") 670, Value.str (Str.ofString "_law_told") 671, Value.str (Str.ofString "/claim/cut.py") 672, Value.int 188 0, Value.int 1 0, Value.int 0 0, Value.int 0 0, Value.int 3 0, Value.ref 162, Value.bool true, Value.int 276 0, Value.ref 163, Value.none, Value.ref 164, Value.ref 165, Value.ref 166, Value.int 677 0, Value.int 188 0, Value.str (Str.ofString "/claim/cut.py") 678] }) ::
(nat_lit 168, o168) ::
(nat_lit 174, { cls := Value.type "code", data := Data.fields #[Value.str (Str.ofString "_law_sign") 680, Value.str (Str.ofString "_law_sign") 681, Value.str (Str.ofString "/claim/cut.py") 682, Value.int 198 0, Value.int 2 0, Value.int 0 0, Value.int 0 0, Value.int 3 0, Value.ref 169, Value.bool true, Value.int 276 0, Value.ref 170, Value.none, Value.ref 171, Value.ref 172, Value.ref 173, Value.int 685 0, Value.int 198 0, Value.str (Str.ofString "/claim/cut.py") 686] }) ::
(nat_lit 175, o175) ::
(nat_lit 181, { cls := Value.type "code", data := Data.fields #[Value.str (Str.ofString "_law_read") 688, Value.str (Str.ofString "_law_read") 689, Value.str (Str.ofString "/claim/cut.py") 690, Value.int 202 0, Value.int 1 0, Value.int 0 0, Value.int 0 0, Value.int 3 0, Value.ref 176, Value.bool true, Value.int 276 0, Value.ref 177, Value.none, Value.ref 178, Value.ref 179, Value.ref 180, Value.int 696 0, Value.int 202 0, Value.str (Str.ofString "/claim/cut.py") 697] }) ::
(nat_lit 182, o182) ::
(nat_lit 186, { cls := Value.type "code", data := Data.fields #[Value.str (Str.ofString "_law_members") 699, Value.str (Str.ofString "_law_members") 700, Value.str (Str.ofString "/claim/cut.py") 701, Value.int 212 0, Value.int 1 0, Value.int 0 0, Value.int 0 0, Value.int 3 0, Value.ref 183, Value.bool true, Value.int 276 0, Value.ref 184, Value.none, Value.none, Value.none, Value.ref 185, Value.int 702 0, Value.int 212 0, Value.str (Str.ofString "/claim/cut.py") 703] }) ::
(nat_lit 187, o187) ::
(nat_lit 191, { cls := Value.type "code", data := Data.fields #[Value.str (Str.ofString "_law_run") 705, Value.str (Str.ofString "_law_run") 706, Value.str (Str.ofString "/claim/cut.py") 707, Value.int 224 0, Value.int 2 0, Value.int 0 0, Value.int 0 0, Value.int 3 0, Value.ref 188, Value.bool true, Value.int 276 0, Value.ref 189, Value.none, Value.none, Value.none, Value.ref 190, Value.int 708 0, Value.int 224 0, Value.str (Str.ofString "/claim/cut.py") 709] }) ::
(nat_lit 192, o192) ::
(nat_lit 198, { cls := Value.type "code", data := Data.fields #[Value.str (Str.ofString "law") 711, Value.str (Str.ofString "law") 712, Value.str (Str.ofString "/claim/cut.py") 713, Value.int 236 0, Value.int 1 0, Value.int 0 0, Value.int 0 0, Value.int 3 0, Value.ref 193, Value.bool true, Value.int 276 0, Value.ref 194, Value.none, Value.ref 195, Value.ref 196, Value.ref 197, Value.int 717 0, Value.int 236 0, Value.str (Str.ofString "/claim/cut.py") 718] }) ::
(nat_lit 199, o199) :: []
end
section
open PySem PySem.W PyProof.Rows
set_option maxRecDepth 100000
set_option maxHeartbeats 8000000
noncomputable def myq : Program := { PySem.Challenge.pw_rx0051_01 with main := { PySem.Challenge.pw_rx0051_01.main with body := PySem.Challenge.pw_rx0051_01.main.body.drop 47 } }
noncomputable def myl : List Str := [PySem.Str.ofString "_twin_re_1", PySem.Str.ofString "translate", PySem.Str.ofString "_special_chars_map", PySem.Str.ofString "escape", PySem.Str.ofString "_translate", PySem.Str.ofString "_join_translated_parts", PySem.Str.ofString "Int2AP", PySem.Str.ofString "S_IFMT", PySem.Str.ofString "S_IFDIR", PySem.Str.ofString "S_IFCHR", PySem.Str.ofString "S_IFBLK", PySem.Str.ofString "S_IFREG", PySem.Str.ofString "S_IFIFO", PySem.Str.ofString "S_IFLNK", PySem.Str.ofString "S_IFSOCK", PySem.Str.ofString "S_ISUID", PySem.Str.ofString "S_ISGID", PySem.Str.ofString "S_ISVTX", PySem.Str.ofString "S_IRUSR", PySem.Str.ofString "S_IWUSR", PySem.Str.ofString "S_IXUSR", PySem.Str.ofString "S_IRGRP", PySem.Str.ofString "S_IWGRP", PySem.Str.ofString "S_IXGRP", PySem.Str.ofString "S_IROTH", PySem.Str.ofString "S_IWOTH", PySem.Str.ofString "S_IXOTH", PySem.Str.ofString "_filemode_table", PySem.Str.ofString "filemode", PySem.Str.ofString "_law_cells", PySem.Str.ofString "_law_word", PySem.Str.ofString "_law_spelled", PySem.Str.ofString "_law_row", PySem.Str.ofString "_law_inside", PySem.Str.ofString "_law_taken", PySem.Str.ofString "_law_told", PySem.Str.ofString "_law_sign", PySem.Str.ofString "_law_read", PySem.Str.ofString "_law_members", PySem.Str.ofString "_law_run", PySem.Str.ofString "_sre"]
noncomputable abbrev myX : Shared → Bool := fun s => xlAt myq [] s && recOk (RowW.records (OpenRow.toRowW (OpenLaw.row PySem.Challenge.rw_rx0051_01))) s
noncomputable def myA : List Addr := [3, 35, 36, 42, 43, 61, 62, 68, 69, 75, 76, 82, 83, 84, 85, 86, 87, 88, 89, 90, 91, 92, 93, 94, 95, 96, 97, 98, 99, 100, 101, 102, 103, 104, 105, 106, 107, 108, 109, 110, 111, 112, 113, 114, 115, 116, 122, 123, 129, 130, 134, 135, 141, 142, 148, 149, 155, 156, 160, 161, 167, 168, 174, 175, 181, 182, 186, 187, 191, 192, 198, 199]
noncomputable def myH : Hook := kmHook K39 myA (fun _ => by kernel_rfl) [57]
noncomputable def LeftAt (w : World) : Prop := (openEnds treeTable (OpenLaw.row PySem.Challenge.rw_rx0051_01).prog w 2500).map (fun s => (openSeen myq myl (importedModules (OpenLaw.row PySem.Challenge.rw_rx0051_01).prog.main.body) myX true s, Hook.obs myH s)) = some (openGood myq myl, Hook.val myH w)
theorem h_ff (w : World) : LeftAt ((w.withFollow "special-get-raises" false).withFollow "comprehension-iter-twice" false) := by
  unfold LeftAt
  kernel_rfl
theorem h_ft (w : World) : LeftAt ((w.withFollow "special-get-raises" false).withFollow "comprehension-iter-twice" true) := by
  unfold LeftAt
  kernel_rfl
theorem h_tf (w : World) : LeftAt ((w.withFollow "special-get-raises" true).withFollow "comprehension-iter-twice" false) := by
  unfold LeftAt
  kernel_rfl
theorem h_tt (w : World) : LeftAt ((w.withFollow "special-get-raises" true).withFollow "comprehension-iter-twice" true) := by
  unfold LeftAt
  kernel_rfl
theorem left_all (w : World) : LeftAt w :=
  byRow2 "comprehension-iter-twice" (P := LeftAt)
    (byRow2 "special-get-raises" (P := fun w => LeftAt (w.withFollow "comprehension-iter-twice" false)) h_ff h_tf)
    (byRow2 "special-get-raises" (P := fun w => LeftAt (w.withFollow "comprehension-iter-twice" true)) h_ft h_tt) w
end
section
open PySem PySem.W PySem.Calls PySem.Spec PyProof.Rows
set_option maxRecDepth 100000
set_option maxHeartbeats 8000000

noncomputable abbrev Prg : Program := PySem.Challenge.rw_rx0051_01.row.prog
noncomputable abbrev KK (w : World) : Frag := K39 w.params

/-- what a call finds: its caller's frame, the written part of the heap, room -/
noncomputable def PureC (b : Nat) (w : World) (f : Addr) (vs : List Value) (Pre : Heap → Prop) (P : Value → Heap → Heap → Prop) : Prop :=
  ∀ (p : Program) (loose : List Str) (mean : ExcName → Option Value) (mg mb : Str → Option Value)
    (dp un : Nat) (gd : Option (List Code)) (cn : Str) (cs : Scope) (a : Addr) (ccd : Value) (cl : List (Str × Addr)) (outer : List Env)
    (A₀ : Around) (base h₀ : Heap) (L : Addr) (m : Str → Option Value) (s : Shared) (Q E : Value → Shared → Prop),
    Below A₀ base outer h₀ → Fr h₀ L s.heap m → (KK w).In h₀ → Top p loose mean mg mb h₀ → cs.kind = .function →
    dp + b < recursionLimit → un + 20 * b < cLine → Pre s.heap →
    (∀ v h' tk', s.heap.StaysIn h' → P v s.heap h' → Q v { s with heap := h', toks := tk' }) →
    wpAny (model Prg w) (ktrTop dp un gd cn cs L a ccd cl outer) (call (.ref f) vs) Q E s

theorem enter_pure {prog : Program} {w : World} {A₀ A : Around} {s : Shared} {base h₀ : Heap} {outer : List Env} {L : Addr} {m : Str → Option Value} {env : Env} {K : Frag}
    {p : Program} {loose : List Str} {mean : ExcName → Option Value} {mg mb : Str → Option Value} {Q E : Value → Shared → Prop}
    {name qual : Str} {params : Arguments} {body : List Stmt} {scope : Scope} {dV kV doc pm cdv ct oc : Value} {an od : Option Addr} {osl : Array (Option Value)} {f : Addr} {args : Args} {binds : List (Str × Value)}
    (B : Below A₀ base outer h₀) (F : Fr h₀ L s.heap m) (X₀ : K.In h₀) (T : Top p loose mean mg mb h₀) (hA : A.frames = some (env :: outer)) (hf : env.frame = some L) (hke : env.scope.kind = .function)
    (ho : K.lookup f = some ⟨oc, od, .func (fnOf name qual params body scope dV kV doc pm an cdv ct), osl⟩) (hcd : codeIn K cdv qual = true) (hroom : A.depth < recursionLimit)
    (hbind : BindsTo s (fnOf name qual params body scope dV kV doc pm an cdv ct) args binds) (hloc : ∀ y ∈ binds, scope.names.lookup y.1 = some .local)
    (h : ∀ L' h₁, Fr s.heap L' h₁ (fun y => binds.reverse.lookup y) → News s.heap L' h₁ [] → Below A base (env :: outer) s.heap → K.In s.heap → Top p loose mean mg mb s.heap →
      wpAny (model prog w) (A.deeper (envOf qual scope L' f cdv)) (execs body (envOf qual scope L' f cdv))
        (fun fl s' => Q (match fl with | .ret v => v | _ => .none) s') (fun _ _ => False)
        { s with heap := h₁, toks := s.toks + binds.length })
    (hcell : ∀ x ∈ scope.names, x.2 ≠ .cell) (hco : scope.isCoroutine = false) (hgen : scope.isGenerator = false) (hk : scope.kind = .function) :
    wpAny (model prog w) A (call (.ref f) args.pos args.kw) Q E s := by
  have hX := X₀.keeps F.keep
  have hT := T.keeps F.keep
  have B' := pushX B F hf hke
  refine wpAny_call (codeAny_call_def (fd := fnOf name qual params body scope dV kV doc pm an cdv ct) (body := body) (binds := binds) hroom (hX _ _ ho) rfl hT.nolimit (codeRec_of hX hcd) rfl hbind hcell hloc (fun h₁ hns hk₁ => ?_) hco hgen hk)
  refine wpAny_mono (h s.heap.objs.size h₁ ⟨hns, hk₁, Nat.le_refl _⟩ News.nil ⟨hA, B'.stays, B'.frames⟩ hX hT) (fun fl s' x => x) fun _ _ x => x.elim

theorem cat_list (a b : Str) : (a ++ b).cps.toList = a.cps.toList ++ b.cps.toList := by show (a.cps ++ b.cps).toList = _; simp
theorem str_ext {a b : Str} (h : a.cps.toList = b.cps.toList) : a = b := by
  cases a with | mk x => cases b with | mk y => exact congrArg Str.mk (Array.ext' h)
theorem len_list (a : Str) : a.length = a.cps.toList.length := by simp [Str.length]
/-- a goal at which the walk stops -/
noncomputable def Stop (P : Prop) : Prop := P
theorem Stop.out {P : Prop} (h : Stop P) : P := h

/-- what a frame's map is known to hold -/
noncomputable def Knows (m : Str → Option Value) : List (Str × Value) → Prop
  | [] => True
  | (x, v) :: r => m x = some v ∧ Knows m r
theorem Knows.get {m : Str → Option Value} : ∀ {l : List (Str × Value)}, Knows m l → ∀ y v, l.lookup y = some v → m y = some v
  | [], _, _, _, h => by cases h
  | (x, u) :: r, ⟨h1, h2⟩, y, v, h => by
    rw [List.lookup_cons] at h
    by_cases e : (y == x) = true
    · rw [e] at h
      cases h
      rw [show y = x from by simpa using e]; exact h1
    · rw [show (y == x) = false from by simpa using e] at h
      exact Knows.get h2 y v h
theorem Knows.fr {h₀ h : Heap} {L : Addr} {m : Str → Option Value} {l : List (Str × Value)} (F : Fr h₀ L h m) (hk : Knows m l) : Fr h₀ L h (fun y => (l.lookup y).or (m y)) := by
  have e : (fun y => (l.lookup y).or (m y)) = m := by
    funext y
    cases q : l.lookup y with
    | none => rfl
    | some v => exact (hk.get y v q).symm
  rw [e]; exact F
theorem lose {h₀ h : Heap} {L : Addr} {p : Addr × Obj} {news : List (Addr × Obj)} (N : News h₀ L h (p :: news)) : News h₀ L h news := fun q hq => N q (.tail _ hq)

theorem fr_stays {h₀ h h' : Heap} {L : Addr} {m : Str → Option Value} (F : Fr h₀ L h m) (st : h.StaysIn h') : Fr h₀ L h' m := by
  obtain ⟨oL, es, ep, hL, r⟩ := F.ns
  exact ⟨⟨oL, es, ep, st _ _ hL, r⟩, fun b o e => st _ _ (F.keep b o e), F.above⟩
theorem news_stays {h₀ h h' : Heap} {L : Addr} {news : List (Addr × Obj)} (N : News h₀ L h news) (st : h.StaysIn h') : News h₀ L h' news := fun p hp => ⟨st _ _ (N p hp).1, (N p hp).2⟩

theorem use {b : Nat} {w : World} {f : Addr} {vs : List Value} {Pre : Heap → Prop} {P : Value → Heap → Heap → Prop} (C : PureC b w f vs Pre P)
    {p : Program} {loose : List Str} {mean : ExcName → Option Value} {mg mb : Str → Option Value}
    {dp un : Nat} {gd : Option (List Code)} {cn : Str} {cs : Scope} {a : Addr} {ccd : Value} {cl : List (Str × Addr)} {outer : List Env}
    {A₀ : Around} {base h₀ : Heap} {L : Addr} {m : Str → Option Value} {s : Shared} {Q E : Value → Shared → Prop} {news : List (Addr × Obj)}
    (B : Below A₀ base outer h₀) (F : Fr h₀ L s.heap m) (X : (K39 w.params).In h₀) (T : Top p loose mean mg mb h₀) (N : News h₀ L s.heap news) (hk : cs.kind = .function)
    (hdp : dp + b < recursionLimit) (hun : un + 20 * b < cLine) (hp : Pre s.heap)
    (h : ∀ v h' tk', P v s.heap h' → s.heap.StaysIn h' → Fr h₀ L h' m → News h₀ L h' news → Q v { s with heap := h', toks := tk' }) :
    wpAny (model PySem.Challenge.rw_rx0051_01.row.prog w) (ktrTop dp un gd cn cs L a ccd cl outer) (call (.ref f) vs) Q E s :=
  C p loose mean mg mb dp un gd cn cs a ccd cl outer A₀ base h₀ L m s Q E B F X T hk hdp hun hp fun v h' tk' st hP => h v h' tk' hP st (fr_stays F st) (news_stays N st)
end
section
open PySem PySem.W PySem.Calls PySem.Spec PyProof.Rows
set_option maxRecDepth 100000
set_option maxHeartbeats 8000000

noncomputable def chrP (p : Nat → Bool) : Value → Bool
  | .str s _ => p (s.cps.getD 0 0)
  | _ => false
noncomputable def chrF (F : Nat → Value → Prop) (v y : Value) : Prop := ∃ c u, v = .str ⟨#[c]⟩ u ∧ F c y
noncomputable def intP (p : Int → Bool) : Value → Bool
  | .int k _ => p k
  | _ => false
noncomputable def intF (F : Int → Value → Prop) (v y : Value) : Prop := ∃ c u, v = .int c u ∧ F c y

theorem paired_back {α : Type} {mk : α → Tok → Value} {pv : Value → Bool} {p : α → Bool} {FV : Value → Value → Prop} {F : α → Value → Prop}
    (hp : ∀ a u, pv (mk a u) = p a) (hF : ∀ a u y, FV (mk a u) y → F a y) :
    ∀ (cs : List α) (vs : List Value) (ys : List Value), vs.length = cs.length → (∀ (j : Nat) (v : Value), vs[j]? = some v → ∃ c u, cs[j]? = some c ∧ v = mk c u) → Paired FV (vs.filter pv) ys → Paired F (cs.filter p) ys
  | [], vs, ys, hl, _, h => by
    have : vs = [] := List.eq_nil_of_length_eq_zero hl
    subst this
    cases h; exact .nil
  | c :: cs, [], ys, hl, _, h => by simp at hl
  | c :: cs, v :: vs, ys, hl, hs, h => by
    obtain ⟨c', u, h1, h2⟩ := hs 0 v rfl
    cases h1
    subst h2
    have hl' : vs.length = cs.length := by simpa using hl
    have hs' : ∀ (j : Nat) (v : Value), vs[j]? = some v → ∃ c u, cs[j]? = some c ∧ v = mk c u := fun j v e => hs (j + 1) v (by simpa using e)
    cases hq : p c with
    | false =>
      rw [List.filter_cons_of_neg (by simp [hq])]
      rw [List.filter_cons_of_neg (by simp [hp, hq])] at h
      exact paired_back hp hF cs vs ys hl' hs' h
    | true =>
      rw [List.filter_cons_of_pos (by simp [hq])]
      rw [List.filter_cons_of_pos (by simp [hp, hq])] at h
      cases h with
      | cons h1 h2 => exact .cons (hF _ _ _ h1) (paired_back hp hF cs vs _ hl' hs' h2)

/-- what the rule for a list comprehension asks behind the iterable -/
noncomputable def LcAt (prog : Program) (w : World) (A : Around) (env : Env) (scope : Scope) (cl : List (Str × Addr)) (x : Str) (ifs : List Expr) (elt : Expr) (p : Value → Bool) (F : Value → Value → Prop) (Q : Value → Shared → Prop) (it : Value) (s₂ : Shared) : Prop :=
  ∃ I fp wr n P St, it = .ref I ∧ Walks prog w A I fp wr n P St ∧ n ≤ sizeLine ∧ St 0 s₂.heap ∧ (∀ b ∈ fp, b < s₂.heap.objs.size) ∧
      QuietOnC prog w A env scope cl x ifs elt wr P p F s₂ ∧
      (∀ D h' tk ys (vs : List Value), s₂.heap.get? D = none → h'.IsList D ys → h'.PlainList D ys → vs.length = n → (∀ j v, vs[j]? = some v → P j v) → Paired F (vs.filter p) ys.toList →
        (∀ b o, b ∉ wr → s₂.heap.get? b = some o → h'.get? b = some o) → Q (.ref D) { s₂ with heap := h', toks := tk })

noncomputable abbrev Tests (prog : Program) (w : World) (A : Around) (ifs : List Expr) (cenv : Env) (s₃ : Shared) (b : Bool) (E' : Value → Shared → Prop) : Prop :=
  wpAny (model prog w) A (forIn ifs true fun c r => if r = true then do let ok ← isTrue c cenv (eval c cenv); pure (ForInStep.yield ok) else pure (ForInStep.yield r)) (fun ok s₄ => ok = b ∧ Keeps s₃ s₄) E' s₃

section
variable {prog : Program} {w : World} {A : Around} {E : Value → Shared → Prop} {s : Shared} {env : Env} {scope : Scope} {cl : List (Str × Addr)} {x : Str} {ifs : List Expr} {elt : Expr} {Q : Value → Shared → Prop}

theorem lc_str {xs : Str} {t : Tok} (p : Nat → Bool) (F : Nat → Value → Prop) (hh : A.handled = none) (hsz : xs.cps.size ≤ sizeLine)
    (tests : ∀ C c u h g d k o m₃ E', c ∈ xs.cps.toList → s.heap.objs.size ≤ C → Heap.Ns h C m₃ → m₃ x = some (.str ⟨#[c]⟩ u) → (∀ b o, s.heap.get? b = some o → h.get? b = some o) →
      Tests prog w A ifs (compEnvC scope cl C env) ⟨h, g, d, k, o⟩ (p c) E')
    (elts : ∀ C c u h g d k o m₃ E', c ∈ xs.cps.toList → p c = true → s.heap.objs.size ≤ C → Heap.Ns h C m₃ → m₃ x = some (.str ⟨#[c]⟩ u) → (∀ b o, s.heap.get? b = some o → h.get? b = some o) →
      wpAny (model prog w) A (eval elt (compEnvC scope cl C env)) (fun y s₄ => F c y ∧ Keeps ⟨h, g, d, k, o⟩ s₄) E' ⟨h, g, d, k, o⟩)
    (fin : ∀ D h' tk (ys : List Value), s.heap.get? D = none → h'.PlainList D ys.toArray → Paired F (xs.cps.toList.filter p) ys → (∀ b o, s.heap.get? b = some o → h'.get? b = some o) → Q (.ref D) { s with heap := h', toks := tk }) :
    wpAny (model prog w) A (pyIter (.str xs t)) (LcAt prog w A env scope cl x ifs elt (chrP p) (chrF F) Q) E s := by
  refine wpAny_pyIter_str fun o St W hst => ?_
  have up : ∀ b o', s.heap.get? b = some o' → b ∉ [s.heap.objs.size] ∧ (s.heap.push o).get? b = some o' := fun b o' e =>
    ⟨by rw [List.mem_singleton]; exact Nat.ne_of_lt (Heap.lt_size e), Heap.get?_push_of_some _ e⟩
  have sz : s.heap.objs.size ≤ (s.heap.push o).objs.size := by rw [Heap.size_push]; exact Nat.le_succ _
  refine ⟨_, _, _, _, _, _, rfl, W A hh, hsz, hst, ?_, ⟨?_, ?_⟩, ?_⟩
  · intro b hb
    rw [List.mem_singleton.mp hb]
    show _ < (s.heap.push o).objs.size
    rw [Heap.size_push]; exact Nat.lt_succ_self _
  · rintro C i v ⟨h, g, d, k, oo⟩ m₃ E' hC ⟨c, u, hc, rfl⟩ hns hm hk _
    exact tests C c u h g d k oo m₃ E' (List.mem_of_getElem? (by simpa using hc)) (Nat.le_trans sz hC) hns hm fun b o' e => hk b o' (up b o' e).1 (up b o' e).2
  · rintro C i v ⟨h, g, d, k, oo⟩ m₃ E' hC ⟨c, u, hc, rfl⟩ hp hns hm hk _
    exact wpAny_mono (elts C c u h g d k oo m₃ E' (List.mem_of_getElem? (by simpa using hc)) (by simpa [chrP] using hp) (Nat.le_trans sz hC) hns hm fun b o' e => hk b o' (up b o' e).1 (up b o' e).2) (fun y s₄ z => ⟨⟨c, u, rfl, z.1⟩, z.2⟩) fun _ _ z => z
  · intro D h' tk ys vs hD _ hl hvl hP hF hk
    have hD' : s.heap.get? D = none := by
      cases e : s.heap.get? D with
      | none => rfl
      | some o' =>
        have e2 : (s.heap.push o).get? D = none := hD
        rw [(up D o' e).2] at e2; cases e2
    exact fin D h' tk ys.toList hD' (by simpa using hl) (paired_back (mk := fun c u => .str ⟨#[c]⟩ u) (fun _ _ => rfl) (fun a u y ⟨c, u', e, hf⟩ => by cases e; exact hf) _ vs _ (by simpa using hvl) (fun j v e => by obtain ⟨c, u, h1, h2⟩ := hP j v e; exact ⟨c, u, by simpa using h1, h2⟩) hF)
      fun b o' e => hk b o' (up b o' e).1 (up b o' e).2

theorem lc_bytes {xs : Array UInt8} {t : Tok} (p : Int → Bool) (F : Int → Value → Prop) (hh : A.handled = none) (hsz : xs.size ≤ sizeLine)
    (tests : ∀ C c u h g d k o m₃ E', c ∈ KBw.bInts xs → s.heap.objs.size ≤ C → Heap.Ns h C m₃ → m₃ x = some (.int c u) → (∀ b o, s.heap.get? b = some o → h.get? b = some o) →
      Tests prog w A ifs (compEnvC scope cl C env) ⟨h, g, d, k, o⟩ (p c) E')
    (elts : ∀ C c u h g d k o m₃ E', c ∈ KBw.bInts xs → p c = true → s.heap.objs.size ≤ C → Heap.Ns h C m₃ → m₃ x = some (.int c u) → (∀ b o, s.heap.get? b = some o → h.get? b = some o) →
      wpAny (model prog w) A (eval elt (compEnvC scope cl C env)) (fun y s₄ => F c y ∧ Keeps ⟨h, g, d, k, o⟩ s₄) E' ⟨h, g, d, k, o⟩)
    (fin : ∀ D h' tk (ys : List Value), s.heap.get? D = none → h'.PlainList D ys.toArray → Paired F ((KBw.bInts xs).filter p) ys → (∀ b o, s.heap.get? b = some o → h'.get? b = some o) → Q (.ref D) { s with heap := h', toks := tk }) :
    wpAny (model prog w) A (pyIter (.bytes xs t)) (LcAt prog w A env scope cl x ifs elt (intP p) (intF F) Q) E s := by
  refine KBw.pyIter_bytes ?_
  generalize ho : ({ cls := .type "bytes_iterator", data := .fields #[.bytes xs t, .int 0 0] } : Obj) = o
  have up : ∀ b o', s.heap.get? b = some o' → b ∉ [s.heap.objs.size] ∧ (s.heap.push o).get? b = some o' := fun b o' e =>
    ⟨by rw [List.mem_singleton]; exact Nat.ne_of_lt (Heap.lt_size e), Heap.get?_push_of_some _ e⟩
  have sz : s.heap.objs.size ≤ (s.heap.push o).objs.size := by rw [Heap.size_push]; exact Nat.le_succ _
  refine ⟨_, _, _, _, _, _, rfl, KBw.walks hh _ xs t, hsz, ⟨_, Heap.get?_push_size _ (by rw [← ho]; rfl), by rw [← ho], by rw [← ho]; rfl⟩, ?_, ⟨?_, ?_⟩, ?_⟩
  · intro b hb
    rw [List.mem_singleton.mp hb]
    show _ < (s.heap.push o).objs.size
    rw [Heap.size_push]; exact Nat.lt_succ_self _
  · rintro C i v ⟨h, g, d, k, oo⟩ m₃ E' hC ⟨c, u, hc, rfl⟩ hns hm hk _
    exact tests C c.toNat u h g d k oo m₃ E' (List.mem_of_getElem? (KBw.ints_get hc)) (Nat.le_trans sz hC) hns hm fun b o' e => hk b o' (up b o' e).1 (up b o' e).2
  · rintro C i v ⟨h, g, d, k, oo⟩ m₃ E' hC ⟨c, u, hc, rfl⟩ hp hns hm hk _
    exact wpAny_mono (elts C c.toNat u h g d k oo m₃ E' (List.mem_of_getElem? (KBw.ints_get hc)) (by simpa [intP] using hp) (Nat.le_trans sz hC) hns hm fun b o' e => hk b o' (up b o' e).1 (up b o' e).2) (fun y s₄ z => ⟨⟨c.toNat, u, rfl, z.1⟩, z.2⟩) fun _ _ z => z
  · intro D h' tk ys vs hD _ hl hvl hP hF hk
    have hD' : s.heap.get? D = none := by
      cases e : s.heap.get? D with
      | none => rfl
      | some o' =>
        have e2 : (s.heap.push o).get? D = none := hD
        rw [(up D o' e).2] at e2; cases e2
    exact fin D h' tk ys.toList hD' (by simpa using hl) (paired_back (mk := fun c u => .int c u) (fun _ _ => rfl) (fun a u y ⟨c, u', e, hf⟩ => by cases e; exact hf) _ vs _ (by simpa [KBw.ints_length] using hvl) (fun j v e => by obtain ⟨c, u, h1, h2⟩ := hP j v e; exact ⟨c.toNat, u, KBw.ints_get h1, h2⟩) hF)
      fun b o' e => hk b o' (up b o' e).1 (up b o' e).2
theorem lc_eval {iter : Expr} {px pos : Pos} (p : Value → Bool) (F : Value → Value → Prop)
    (hclos : closureFor scope env = pure cl) (hcell : ∀ y ∈ scope.names, y.2 ≠ .cell) (hkind : scope.kind = .function)
    (hnames : ∀ y ∈ scope.names, y.2 = .local → scope.names.lookup y.1 = some .local) (hx : scope.names.lookup x = some .local)
    (h : wpAny (model prog w) A (eval iter env) (fun xv s₁ => wpAny (model prog w) A (pyIter xv) (LcAt prog w A env scope cl x ifs elt p F Q) E s₁) E s)
    (hs : ∀ x, foldedSetIterable iter env x = pure x := by intro _; rfl) :
    wpAny (model prog w) A (eval (.ListComp elt [⟨.Name x px, iter, ifs, 0⟩] scope pos) env) Q E s := wpAny_ListComp_free p F hclos hcell hkind hnames hx h hs
end
open PySem PySem.W PySem.Calls PySem.Spec PyProof.Rows
theorem paired_strs {α : Type} {f : α → Str} : ∀ {l : List α} {ys : List Value}, Paired (fun a y => ∃ t, y = .str (f a) t) l ys → StrsAre ys (l.map f)
  | _, _, .nil => .nil
  | _, _, .cons ⟨t, e⟩ r => by subst e; exact .cons _ _ (paired_strs r)
theorem sum_ones {α : Type} : ∀ (l : List α) (f : α → Str), (∀ a ∈ l, (f a).length = 1) → ((l.map f).map (·.length)).sum = l.length
  | [], _, _ => rfl
  | a :: l, f, h => by
    rw [List.map_cons, List.map_cons, List.sum_cons, sum_ones l f fun a ha => h a (.tail _ ha), h a (.head _), List.length_cons]; omega
theorem join_chars (l : List Nat) : Str.join (Str.ofString "") (l.map fun c => ⟨#[c]⟩) = ⟨l.toArray⟩ := by
  have h := join_nil_signs ⟨l.toArray⟩
  rw [show Str.ofString "" = ⟨#[]⟩ from by decide +kernel]
  simpa [signs] using h
open PySem PySem.W PySem.Calls PySem.Spec PyProof.Rows
theorem txt_join (sep : Str) (l : List Str) : Txt.join sep l = Str.join sep l := StrLaws.glued_eq_join sep l
end
section
open PySem PySem.W PySem.Calls PySem.Spec PyProof.Rows PySem.Builtin PySem.Builtin.Str
set_option maxRecDepth 100000
set_option maxHeartbeats 8000000

section
variable {prog : Program} {w : World} {A : Around} {E : Value → Shared → Prop} {s : Shared} {value slice : Expr} {x : Str} {t : Tok} {Q : Value → Shared → Prop}
theorem str_at {i : Int} {u : Tok} (h0 : 0 ≤ i) (h1 : i < (x.cps.size : Int)) (hsz : x.cps.size ≤ 16777216)
    (h : Q (.str ⟨#[x.cps.getD i.toNat 0]⟩ s.toks) { s with toks := s.toks + 1 })
    (hs : subscripted slice false (.str x t) (.int i u) = operate [.str x t, .int i u] (getItem (.str x t) (.int i u)) := by with_unfolding_all rfl)
    (ht : ∀ r, letTemporaryGo value (.str x t) r = pure () := by intro _; with_unfolding_all rfl) :
    wpAny (model prog w) A (subscriptTail value slice (.str x t) (.int i u)) Q E s := by
  have hl : x.length = x.cps.size := rfl
  refine item_str (fitsSsize_of (N := 9223372036854775808) (by omega) (by omega) (Int.le_refl _)) (by omega) (by omega) (fun _ => ?_) hs ht
  have hlt : i.toNat < x.cps.size := by omega
  have e : x.cps[i.toNat]? = some (x.cps.getD i.toNat 0) := by
    rw [Array.getElem?_eq_getElem hlt]; simp [Array.getD, hlt]
  rw [item_meets h0 e]; exact h

theorem tup_at {t : Addr} {items : Array Value} {k : Int} {u : Tok} {v : Value} (ht : IsTup s.heap t items) (h0 : 0 ≤ k) (hh : k < 1000) (hx : items[k.toNat]? = some v) (h : Q v s)
    (hs : subscripted slice false (.ref t) (.int k u) = operate [.ref t, .int k u] (getItem (.ref t) (.int k u)) := by with_unfolding_all rfl) :
    wpAny (model prog w) A (subscriptTail value slice (.ref t) (.int k u)) Q E s := by
  have hlt : k.toNat < items.size := by
    rcases Nat.lt_or_ge k.toNat items.size with q | q
    · exact q
    · rw [Array.getElem?_eq_none q] at hx; cases hx
  refine tail_any ht.typeIs slot_tuple_getitem.lookup (getItem_tuple ht (by omega) (by omega) (j := k.toNat) ?_ hx h) hs
  unfold seqIndex?
  simp only [show ¬ k < 0 from by omega, if_false]
  rw [if_pos (by simp only [Bool.and_eq_true, decide_eq_true_eq]; omega)]
end
theorem unstop {P : Prop} (h : P) : Mine.Stop P := h
open PySem PySem.W in
theorem any_toks {α : Type} {M : Model} {A : Around} {t : Sem α} {Q : α → Shared → Prop} {E : Value → Shared → Prop} {h : Heap} {g : Array GenState} {d : Drawn} {k : Nat} {o : OsState}
    (x : ∀ k, wpAny M A t Q E ⟨h, g, d, k, o⟩) : wpAny M A t Q E ⟨h, g, d, k, o⟩ := x k
end
section
open PySem PySem.W PySem.Calls PySem.Spec PyProof.Rows PySem.Builtin PySem.Builtin.Str
set_option maxRecDepth 100000
set_option maxHeartbeats 8000000
noncomputable def cut (x : Str) (a b : Nat) : Str := ⟨((x.cps.toList.drop a).take (b - a)).toArray⟩
theorem cut_list (x : Str) (a b : Nat) : (cut x a b).cps.toList = (x.cps.toList.drop a).take (b - a) := by simp [cut]
noncomputable def clipI (n d : Nat) : Option Int → Nat
  | none => d
  | some i => (max 0 (min (if i < 0 then i + n else i) (n : Int))).toNat
theorem clipI_le {n d : Nat} (hd : d ≤ n) : ∀ o, clipI n d o ≤ n
  | none => hd
  | some i => by show (max 0 (min (if i < 0 then i + (n : Int) else i) (n : Int))).toNat ≤ n; omega
theorem idx_clip (l u : Option Int) (n : Nat) : strSliceIndices l u 1 n = strSliceIndices (some (clipI n 0 l : Int)) (some (clipI n n u : Int)) 1 n := by
  have g : ∀ (o : Option Int) (d : Nat), d ≤ n → (match o with | none => (d : Int) | some i => max 0 (min (if i < 0 then i + (n : Int) else i) (n : Int))) = max 0 (min (if ((clipI n d o : Nat) : Int) < 0 then ((clipI n d o : Nat) : Int) + n else ((clipI n d o : Nat) : Int)) (n : Int)) := by
    intro o d hd
    have h := clipI_le hd o
    rw [if_neg (by omega)]
    cases o with
    | none => show (d : Int) = max 0 (min (d : Int) n); omega
    | some i =>
      show max 0 (min (if i < 0 then i + (n : Int) else i) (n : Int)) = max 0 (min (((max 0 (min (if i < 0 then i + (n : Int) else i) (n : Int))).toNat : Nat) : Int) n)
      omega
  have g1 := g l 0 (Nat.zero_le _)
  have g2 := g u n (Nat.le_refl _)
  unfold strSliceIndices
  cases l <;> cases u <;> simp only [show (1 : Int) > 0 by decide, if_true] at g1 g2 ⊢ <;> simp only [← g1, ← g2] <;> rfl
theorem slice_cut (x : Str) (l u : Option Int) : Txt.slice x l u = cut x (clipI x.length 0 l) (clipI x.length x.length u) := by
  have e : Txt.slice x l u = Txt.slice x (some (clipI x.length 0 l : Int)) (some (clipI x.length x.length u : Int)) := by
    unfold Txt.slice
    rw [idx_clip]
  rw [e]
  have hb := clipI_le (Nat.le_refl x.length) u
  have ha := clipI_le (Nat.zero_le x.length) l
  generalize clipI x.length 0 l = a at ha
  generalize clipI x.length x.length u = b at hb
  rcases Nat.le_total a b with h | h
  · exact StrLaws.sliceText_nat x h hb
  · have hi : strSliceIndices (some (a : Int)) (some (b : Int)) 1 x.length = [] := by
      unfold strSliceIndices sliceRange
      simp only [show (1 : Int) > 0 by decide, if_true]
      have h1 : ¬ ((a : Int) < 0) := by omega
      have h2 : ¬ ((b : Int) < 0) := by omega
      rw [if_neg h1, if_neg h2, if_neg (by omega)]
      rfl
    unfold Txt.slice
    rw [hi]
    have hc : cut x a b = ⟨#[]⟩ := by unfold cut; rw [show b - a = 0 from by omega]; simp
    rw [hc]
    split
    · rename_i q
      have hx : x.length = 0 := by simp at q; exact q.symm
      have : x.cps = #[] := Array.eq_empty_of_size_eq_zero hx
      exact Str.ext' this
    · rfl
open PySem PySem.W PySem.Calls PySem.Spec PyProof.Rows PySem.Builtin PySem.Builtin.Str
theorem cut_min (x : Str) (a b : Nat) : cut x (min a x.length) (min b x.length) = cut x a b := by
  unfold cut
  have hn : x.cps.toList.length = x.length := by simp [Str.length]
  generalize x.cps.toList = l at hn
  rw [← hn]
  congr 2
  rcases Nat.le_total a l.length with h | h
  · rw [Nat.min_eq_left h]
    rcases Nat.le_total b l.length with h2 | h2
    · rw [Nat.min_eq_left h2]
    · rw [Nat.min_eq_right h2, List.take_of_length_le (by simp), List.take_of_length_le (by simp; omega)]
  · rw [Nat.min_eq_right h, List.drop_of_length_le (Nat.le_refl _), List.drop_of_length_le h]; simp
theorem slice_nat (x : Str) (a b : Nat) : Txt.slice x (some (a : Int)) (some (b : Int)) = cut x a b := by
  rw [slice_cut, ← cut_min x a b]
  have e : ∀ d c : Nat, clipI x.length d (some (c : Int)) = min c x.length := fun d c => by
    show (max 0 (min (if (c : Int) < 0 then (c : Int) + x.length else (c : Int)) (x.length : Int))).toNat = _
    rw [if_neg (by omega)]; omega
  rw [e, e]
/-- a new object that a call hands back -/
noncomputable def NewAt (h h' : Heap) (v : Value) (o : Obj) : Prop := ∃ a, v = .ref a ∧ h'.get? a = some o ∧ h.get? a = none
theorem NewAt.news {h₀ h h' : Heap} {L : Addr} {m : Str → Option Value} {news : List (Addr × Obj)} {v : Value} {o : Obj} (x : NewAt h h' v o) (F : Fr h₀ L h m) (N : News h₀ L h' news) :
    ∃ a, v = .ref a ∧ News h₀ L h' ((a, o) :: news) := by
  obtain ⟨a, rfl, h1, h2⟩ := x
  refine ⟨a, rfl, fun p hp => ?_⟩
  rcases List.mem_cons.mp hp with rfl | hp
  · refine ⟨h1, fun e => ?_, ?_⟩
    · obtain ⟨oL, _, _, hL, _⟩ := F.ns
      have e' : a = L := e
      rw [← e', h2] at hL; cases hL
    · cases q : h₀.get? a with
      | none => rfl
      | some o' => have := F.keep _ _ q; rw [h2] at this; cases this
  · exact N p hp
/-- the other way: what the frame's ledger holds is new to the caller -/
theorem NewAt.of {h h' : Heap} {L a : Addr} {o : Obj} {news : List (Addr × Obj)} (N : News h L h' news) (hm : (a, o) ∈ news) : NewAt h h' (.ref a) o := ⟨a, rfl, (N _ hm).1, (N _ hm).2.2⟩
end
section
open PySem PySem.W PySem.Calls PySem.Spec PyProof.Rows PySem.Builtin PySem.Builtin.Str
set_option maxRecDepth 100000
set_option maxHeartbeats 8000000
noncomputable def tupO (lo hi : Str) (ta tb : Tok) : Obj := { cls := .type "tuple", data := .seq #[.str lo ta, .str hi tb] }
/-- the ledger bears the ranges -/
inductive Rngs (news : List (Addr × Obj)) : List Value → List (Str × Str) → Prop
  | nil : Rngs news [] []
  | cons {a : Addr} {lo hi : Str} {ta tb : Tok} {vs : List Value} {ps : List (Str × Str)} : (a, tupO lo hi ta tb) ∈ news → Rngs news vs ps → Rngs news (.ref a :: vs) ((lo, hi) :: ps)
theorem Rngs.mono {news news' : List (Addr × Obj)} (h : ∀ p ∈ news, p ∈ news') : ∀ {vs : List Value} {ps : List (Str × Str)}, Rngs news vs ps → Rngs news' vs ps
  | _, _, .nil => .nil
  | _, _, .cons m r => .cons (h _ m) (Rngs.mono h r)
theorem Rngs.snoc {news : List (Addr × Obj)} {a : Addr} {lo hi : Str} {ta tb : Tok} (m : (a, tupO lo hi ta tb) ∈ news) : ∀ {vs : List Value} {ps : List (Str × Str)}, Rngs news vs ps → Rngs news (vs ++ [.ref a]) (ps ++ [(lo, hi)])
  | _, _, .nil => .cons m .nil
  | _, _, .cons m' r => .cons m' (Rngs.snoc m r)
theorem Rngs.len {news : List (Addr × Obj)} : ∀ {vs : List Value} {ps : List (Str × Str)}, Rngs news vs ps → vs.length = ps.length
  | _, _, .nil => rfl
  | _, _, .cons _ r => by simp [Rngs.len r]
/-- what a call has made anew -/
noncomputable def Fresh (h h' : Heap) (news : List (Addr × Obj)) : Prop := ∀ p ∈ news, h'.get? p.1 = some p.2 ∧ h.get? p.1 = none
theorem Fresh.of {h h' : Heap} {L : Addr} {news news' : List (Addr × Obj)} (N : News h L h' news) (s : ∀ p ∈ news', p ∈ news) : Fresh h h' news' := fun p hp => ⟨(N p (s p hp)).1, (N p (s p hp)).2.2⟩
theorem Fresh.news {h₀ h h' : Heap} {L : Addr} {m : Str → Option Value} {news news' : List (Addr × Obj)} (x : Fresh h h' news') (F : Fr h₀ L h m) (N : News h₀ L h' news) : News h₀ L h' (news' ++ news) := by
  intro p hp
  rcases List.mem_append.mp hp with hp | hp
  · obtain ⟨h1, h2⟩ := x p hp
    refine ⟨h1, fun e => ?_, ?_⟩
    · obtain ⟨oL, _, _, hL, _⟩ := F.ns
      rw [e, hL] at h2; cases h2
    · cases q : h₀.get? p.1 with
      | none => rfl
      | some o' => have := F.keep _ _ q; rw [h2] at this; cases this
  · exact N p hp
/-- a list of ranges handed back -/
noncomputable def Ranges (h h' : Heap) (v : Value) (ps : List (Str × Str)) : Prop := ∃ a vs k tups, v = .ref a ∧ Rngs tups vs ps ∧ Fresh h h' ((a, listOf vs.toArray k) :: tups)

noncomputable def ch (x : Str) (i : Nat) : Str := ⟨#[x.cps.getD i 0]⟩
noncomputable def toldAt (x : Str) (k : Nat) : List (Str × Str) :=
  if _h : k < x.length then
    if ((cut x (k + 1) (k + 2) == Str.ofString "-") && decide (k + 2 < x.length)) = true then (ch x k, ch x (k + 2)) :: toldAt x (k + 3) else (ch x k, ch x k) :: toldAt x (k + 1)
  else []
termination_by x.length - k
decreasing_by all_goals omega
theorem toldAt_range {x : Str} {k : Nat} (h : k < x.length) (h1 : (cut x (k + 1) (k + 2) == Str.ofString "-") = true) (h2 : k + 2 < x.length) : toldAt x k = (ch x k, ch x (k + 2)) :: toldAt x (k + 3) := by
  rw [toldAt, dif_pos h, if_pos (by rw [h1, decide_eq_true h2]; rfl)]
theorem toldAt_one {x : Str} {k : Nat} (h : k < x.length) (h1 : (cut x (k + 1) (k + 2) == Str.ofString "-") = false ∨ ¬ k + 2 < x.length) : toldAt x k = (ch x k, ch x k) :: toldAt x (k + 1) := by
  rw [toldAt, dif_pos h, if_neg]
  rcases h1 with h1 | h1
  · rw [h1]; simp
  · rw [decide_eq_false h1]; simp
theorem toldAt_end {x : Str} {k : Nat} (h : ¬ k < x.length) : toldAt x k = [] := by rw [toldAt, dif_neg h]
open PySem PySem.W PySem.Calls PySem.Spec PyProof.Rows PySem.Builtin PySem.Builtin.Str
theorem told_turn {h h' : Heap} {L T D : Addr} {vs : List Value} {j : Nat} {tups : List (Addr × Obj)} {lo hi : Str} {ta tb : Tok} {ps : List (Str × Str)}
    (N : News h L h' ((T, { cls := .type "tuple", data := .seq #[.str lo ta, .str hi tb] }) :: (D, listOf (vs.toArray.push (.ref T)) j) :: tups)) (l : D < T) (hD : ∀ p ∈ tups, p.1 ≠ D) (hR : Rngs tups vs ps) :
    ∃ vs' tups', News h L h' ((D, listOf vs'.toArray j) :: tups') ∧ (∀ p ∈ tups', p.1 ≠ D) ∧ Rngs tups' vs' (ps ++ [(lo, hi)]) := by
  refine ⟨vs ++ [Value.ref T], (T, tupO lo hi ta tb) :: tups, ?_, ?_, Rngs.snoc (.head _) (hR.mono fun p hp => .tail _ hp)⟩
  · intro p hp
    have e : vs.toArray.push (Value.ref T) = (vs ++ [Value.ref T]).toArray := by simp
    rw [e] at N
    refine N p ?_
    rcases List.mem_cons.mp hp with rfl | hp
    · exact .tail _ (.head _)
    · rcases List.mem_cons.mp hp with rfl | hp
      · exact .head _
      · exact .tail _ (.tail _ hp)
  · intro p hp
    rcases List.mem_cons.mp hp with rfl | hp
    · exact Nat.ne_of_gt l
    · exact hD p hp
theorem ranges_of {h h' : Heap} {L D : Addr} {vs : List Value} {n : Nat} {tups : List (Addr × Obj)} {ps : List (Str × Str)} (N : News h L h' ((D, listOf vs.toArray n) :: tups)) (hR : Rngs tups vs ps) : Ranges h h' (.ref D) ps :=
  ⟨D, vs, n, tups, rfl, hR, Fresh.of N fun _ h => h⟩
end
section
open PySem PySem.W PySem.Calls PySem.Spec PyProof.Rows PySem.Builtin PySem.Builtin.Str
set_option maxRecDepth 100000
set_option maxHeartbeats 8000000
/-- a list of ranges stands in a heap -/
noncomputable def RowsIn (h : Heap) (l : Addr) (vs : List Value) (ps : List (Str × Str)) : Prop :=
  h.IsList l vs.toArray ∧ vs.length = ps.length ∧ ∀ (i : Nat) (v : Value), vs[i]? = some v → ∃ T lo hi ta tb, v = .ref T ∧ ps[i]? = some (lo, hi) ∧ h.IsTuple T #[.str lo ta, .str hi tb]
theorem Rngs.at {news : List (Addr × Obj)} : ∀ {vs : List Value} {ps : List (Str × Str)}, Rngs news vs ps → ∀ (i : Nat) (v : Value), vs[i]? = some v → ∃ T lo hi ta tb, v = .ref T ∧ ps[i]? = some (lo, hi) ∧ (T, tupO lo hi ta tb) ∈ news
  | _, _, .nil, i, v, e => by simp at e
  | _, _, .cons m r, 0, v, e => by cases e; exact ⟨_, _, _, _, _, rfl, rfl, m⟩
  | _, _, .cons m r, i + 1, v, e => by
    obtain ⟨T, lo, hi, ta, tb, h1, h2, h3⟩ := Rngs.at r i v (by simpa using e)
    exact ⟨T, lo, hi, ta, tb, h1, by simpa using h2, h3⟩
theorem rowsIn_of {h : Heap} {a : Addr} {vs : List Value} {ps : List (Str × Str)} {k : Nat} {tups : List (Addr × Obj)} (hR : Rngs tups vs ps) (hN : ∀ p ∈ (a, listOf vs.toArray k) :: tups, h.get? p.1 = some p.2) : RowsIn h a vs ps := by
  refine ⟨⟨_, hN _ (.head _), rfl, _, rfl⟩, hR.len, fun i v e => ?_⟩
  obtain ⟨T, lo, hi, ta, tb, h1, h2, h3⟩ := hR.at i v e
  exact ⟨T, lo, hi, ta, tb, h1, h2, _, hN _ (.tail _ h3), rfl, _, rfl⟩
theorem RowsIn.keeps {h h' : Heap} {l : Addr} {vs : List Value} {ps : List (Str × Str)} (x : RowsIn h l vs ps) (k : ∀ b o, h.get? b = some o → h'.get? b = some o) : RowsIn h' l vs ps :=
  ⟨x.1.at fun o e => k _ o e, x.2.1, fun i v e => by
    obtain ⟨T, lo, hi, ta, tb, h1, h2, h3⟩ := x.2.2 i v e
    exact ⟨T, lo, hi, ta, tb, h1, h2, h3.at fun o e => k _ o e⟩⟩

section
variable {prog : Program} {w : World} {A : Around} {E : Value → Shared → Prop} {s : Shared} {env : Env} {h₀ : Heap} {Q : Flow → Shared → Prop}
noncomputable def RowPost (h₀ : Heap) (L I : Addr) (oI : Obj) (J : (Str → Option Value) → List (Addr × Obj) → Prop) (s₁ : Shared) (Q : Flow → Shared → Prop) (f : Flow) (s₂ : Shared) : Prop :=
  match f with
  | .ret v => Q (.ret v) s₂
  | .brk => Q .next s₂
  | _ => ∃ h' tk' m' news', s₂ = { s₁ with heap := h', toks := tk' } ∧ Fr h₀ L h' m' ∧ News h₀ L h' ((I, oI) :: news') ∧ (∀ p ∈ news', p.1 ≠ I) ∧ J m' news'

theorem For_rows {a b : Str} {pa pb tp pos : Pos} {kk : Nat} {iter : Expr} {body : List Stmt} {l : Addr} {vs : List Value} {ps : List (Str × Str)} {m₀ : Str → Option Value} {news : List (Addr × Obj)}
    (J : Nat → (Str → Option Value) → List (Addr × Obj) → Prop) (hh : A.handled = none) (hr : RowsIn h₀ l vs ps)
    (F : Fr h₀ env.locals s.heap m₀) (N : News h₀ env.locals s.heap news) (hj : J 0 m₀ news)
    (ha : env.kindOf a = some .local) (hb : env.kindOf b = some .local) (hp : (env.scope.kind == .class || (env.scope.kind == .module && env.locals != env.globals)) = false)
    (hev : wpAny (model prog w) A (eval iter env) (fun v s₁ => v = .ref l ∧ s₁ = s) E s)
    (turn : ∀ (i : Nat) lo hi ta tb m₁ news₁ h tk I oI, ps[i]? = some (lo, hi) → (∀ p ∈ news₁, p.1 ≠ I) → J i m₁ news₁ → Fr h₀ env.locals h (fun z => if z = b then some (.str hi tb) else if z = a then some (.str lo ta) else m₁ z) → News h₀ env.locals h ((I, oI) :: news₁) →
      wpAny (model prog w) A (execs body env) (RowPost h₀ env.locals I oI (J (i + 1)) { s with heap := h, toks := tk } Q) E { s with heap := h, toks := tk })
    (done : ∀ m₁ news₁ h tk, J ps.length m₁ news₁ → Fr h₀ env.locals h m₁ → News h₀ env.locals h news₁ → Q .next { s with heap := h, toks := tk })
    (hs : ∀ x, foldedSetIterable iter env x = pure x := by intro _; rfl)
    (hE : PassesOwn (model prog w) A env E := by passes_own) :
    wpAny (model prog w) A (exec (.For (.Tuple [.Name a pa, .Name b pb] kk tp) iter body [] pos) env) Q E s := by
  refine wpAny_For (wpAny_mono hev (fun xv s₁ h₁ => ?_) fun _ _ e => e) hs
  obtain ⟨rfl, rfl⟩ := h₁
  obtain ⟨hl, hlen, hrow⟩ := hr
  have hls : s₁.heap.IsList l vs.toArray := hl.at fun o e => F.keep _ o e
  have hlt : l < s₁.heap.objs.size := by obtain ⟨_, e, _⟩ := hls; exact Heap.lt_size e
  refine wpAny_pyIter_list hls ?_
  generalize hI : s₁.heap.objs.size = I at hlt
  have hI₀ : h₀.get? I = none := by
    cases q : h₀.get? I with
    | none => rfl
    | some o => have := Heap.lt_size (F.keep _ _ q); rw [hI] at this; exact absurd this (Nat.lt_irrefl _)
  have hIL : env.locals ≠ I := by have := F.ns.lt; rw [hI] at this; exact Nat.ne_of_lt this
  have hlI : l ≠ I := Nat.ne_of_lt hlt
  have up : ∀ b o, s₁.heap.get? b = some o → (s₁.heap.push { cls := .type "list_iterator", data := .fields #[.ref l, .int 0 0] }).get? b = some o := fun b o e => Heap.get?_push_of_some _ e
  have hit0 : (s₁.heap.push { cls := .type "list_iterator", data := .fields #[.ref l, .int 0 0] }).IsListIter I l 0 := ⟨_, by rw [← hI]; exact Heap.get?_push_size _ rfl, rfl, rfl⟩
  have offN : ∀ p ∈ news, p.1 ≠ I := fun p hp => by have := Heap.lt_size (N p hp).1; rw [hI] at this; exact Nat.ne_of_lt this
  refine codeAny_forLoop_any (fun k s' => ∃ h' tk m' news' i, s' = { s₁ with heap := h', toks := tk } ∧ h'.IsListIter I l i ∧ Fr h₀ env.locals h' m' ∧ News h₀ env.locals h' news' ∧ (∀ p ∈ news', p.1 ≠ I) ∧ J i m' news' ∧ i ≤ ps.length ∧ k = ps.length + 1 - i) ?_ (ps.length + 1)
    ⟨_, s₁.toks, m₀, news, 0, rfl, hit0, F.keeps up, N.grown up, offN, hj, Nat.zero_le _, rfl⟩
  rintro k s' ⟨H, tk, m', news', i, rfl, hit, F', N', off, hJ, hi, rfl⟩
  have hlH : H.IsList l vs.toArray := hl.at fun o e => F'.keep _ o e
  have next : ∀ h₁ : Heap, (∀ b o, b ∉ [I] → H.get? b = some o → h₁.get? b = some o) → Fr h₀ env.locals h₁ m' ∧ News h₀ env.locals h₁ news' := fun h₁ hk =>
    ⟨LCg.fr_but F' hk hIL hI₀, LCg.news_but N' hk off⟩
  by_cases hlt' : i < ps.length
  · obtain ⟨v, hv⟩ : ∃ v, vs[i]? = some v := ⟨vs[i], by simp [hlen, hlt']⟩
    obtain ⟨T, lo, hi', ta, tb, rfl, hps, hT⟩ := hrow i v hv
    refine wpAny_pyNext_list_item hit hlH (x := .ref T) (by simpa using hv) fun h₂ hit₂ hs₂ => ?_
    obtain ⟨F₂, N₂⟩ := next h₂ fun b o hb e => hs₂.extBut b o (by simpa using hb) e
    refine wpAny_letOwnedTupleGo_listiter hit₂ ?_
    refine kcp_assign hh (hT.at fun o e => F₂.keep _ o e) ha hb hp F₂.ns fun h₃ tk₃ hn₃ hk₃ => ?_
    have F₃ : Fr h₀ env.locals h₃ (fun z => if z = b then some (.str hi' tb) else if z = a then some (.str lo ta) else m' z) :=
      ⟨hn₃, fun c o e => hk₃ c o (Nat.ne_of_lt (Nat.lt_of_lt_of_le (Heap.lt_size e) F₂.above)) (F₂.keep c o e), F₂.above⟩
    obtain ⟨oI, eI, rI⟩ := id hit₂
    have N₃ : News h₀ env.locals h₃ ((I, oI) :: news') := fun p hp => by
      rcases List.mem_cons.mp hp with rfl | hp
      · exact ⟨hk₃ _ _ (Ne.symm hIL) eI, Ne.symm hIL, hI₀⟩
      · exact ⟨hk₃ _ _ (N₂ p hp).2.1 (N₂ p hp).1, (N₂ p hp).2⟩
    refine wpAny_passesOwn hE (wpAny_mono (turn i lo hi' ta tb m' news' h₃ tk₃ I oI hps off hJ F₃ N₃) (fun f s₃ h₃' => ?_) fun _ _ e => e)
    have fin : (∃ h' tk' m'' news'', s₃ = { s₁ with heap := h', toks := tk' } ∧ Fr h₀ env.locals h' m'' ∧ News h₀ env.locals h' ((I, oI) :: news'') ∧ (∀ p ∈ news'', p.1 ≠ I) ∧ J (i + 1) m'' news'') →
        ∃ m, m < ps.length + 1 - i ∧ ∃ h' tk m' news' i, s₃ = { s₁ with heap := h', toks := tk } ∧ h'.IsListIter I l i ∧ Fr h₀ env.locals h' m' ∧ News h₀ env.locals h' news' ∧ (∀ p ∈ news', p.1 ≠ I) ∧ J i m' news' ∧ i ≤ ps.length ∧ m = ps.length + 1 - i := by
      rintro ⟨h', tk', m'', news'', rfl, F'', N'', off'', J''⟩
      refine ⟨ps.length + 1 - (i + 1), by omega, h', tk', m'', news'', i + 1, rfl, ⟨oI, (N'' _ (.head _)).1, rI⟩, F'', fun p hp => N'' p (.tail _ hp), off'', J'', hlt', rfl⟩
    cases f with
    | ret v => exact h₃'
    | brk => exact h₃'
    | next => exact fin h₃'
    | cont => exact fin h₃'
  · have hin : i = ps.length := by omega
    subst hin
    refine wpAny_pyNext_list_end hh hit hlH (by simp [hlen]) fun h₂ he₂ => wpAny_execs_nil ?_
    obtain ⟨F₂, N₂⟩ := next h₂ fun b o hb e => he₂ b o (by simpa using hb) e
    exact done m' news' h₂ tk hJ F₂ N₂
theorem Knows.fr2 {h : Heap} {L : Addr} {m : Str → Option Value} {l : List (Str × Value)} {a b : Str} {va vb : Option Value} (F : Fr h₀ L h (fun z => if z = b then vb else if z = a then va else m z)) (hk : Knows m l) :
    Fr h₀ L h (fun z => if z = b then vb else if z = a then va else (l.lookup z).or (m z)) := by
  have e : (fun y => (l.lookup y).or (m y)) = m := by
    funext y
    cases q : l.lookup y with
    | none => rfl
    | some v => exact (hk.get y v q).symm
  have e2 : (fun z => if z = b then vb else if z = a then va else (l.lookup z).or (m z)) = fun z => if z = b then vb else if z = a then va else m z := by
    funext z
    rw [show (l.lookup z).or (m z) = m z from congrFun e z]
  rw [e2]; exact F
end
end
section
open PySem PySem.W PySem.Calls PySem.Spec PyProof.Rows
set_option maxRecDepth 100000
set_option maxHeartbeats 8000000
theorem enter_pureC {prog : Program} {w : World} {A₀ A : Around} {s : Shared} {base h₀ : Heap} {outer : List Env} {L : Addr} {m : Str → Option Value} {env : Env} {K : Frag}
    {p : Program} {loose : List Str} {mean : ExcName → Option Value} {mg mb : Str → Option Value} {Q E : Value → Shared → Prop}
    {name qual : Str} {params : Arguments} {body : List Stmt} {scope : Scope} {dV kV doc pm cdv ct oc : Value} {an od : Option Addr} {osl : Array (Option Value)} {f : Addr} {args : Args} {binds : List (Str × Value)}
    (B : Below A₀ base outer h₀) (F : Fr h₀ L s.heap m) (X₀ : K.In h₀) (T : Top p loose mean mg mb h₀) (hA : A.frames = some (env :: outer)) (hf : env.frame = some L) (hke : env.scope.kind = .function)
    (ho : K.lookup f = some ⟨oc, od, .func (fnOf name qual params body scope dV kV doc pm an cdv ct), osl⟩) (hcd : codeIn K cdv qual = true) (hroom : A.depth < recursionLimit)
    (hbind : BindsTo s (fnOf name qual params body scope dV kV doc pm an cdv ct) args binds) (hkind : (binds.all fun y => scope.names.lookup y.1 == some .local || scope.names.lookup y.1 == some .cell) = true)
    (hnd : ((cellsFrom 0 scope.names []).map (·.1)).Nodup)
    (h : ∀ L' h₁ tk cells, Fr s.heap L' h₁ (bindL (envOfC qual scope L' f cdv).kindOf binds fun _ => none) → News s.heap L' h₁ cells →
      CellsAre (bindC (envOfC qual scope L' f cdv).kindOf binds fun _ => none) (cellsFrom (L' + 1) scope.names []) cells → Below A base (env :: outer) s.heap → K.In s.heap → Top p loose mean mg mb s.heap →
      wpAny (model prog w) (A.deeper (envOfC qual scope L' f cdv)) (execs body (envOfC qual scope L' f cdv))
        (fun fl s' => Q (match fl with | .ret v => v | _ => .none) s') (fun _ _ => False)
        { s with heap := h₁, toks := tk })
    (hco : scope.isCoroutine = false) (hgen : scope.isGenerator = false) (hk : scope.kind = .function) :
    wpAny (model prog w) A (call (.ref f) args.pos args.kw) Q E s := by
  have hX := X₀.keeps F.keep
  have hT := T.keeps F.keep
  have B' := pushX B F hf hke
  refine wpAny_call ?_
  refine codeAny_call_function (fd := fnOf name qual params body scope dV kV doc pm an cdv ct) hroom (hX _ _ ho) rfl hco hgen rfl (codeRec_of hX hcd) (hbind _ _ _ _ ?_)
  refine wpAny_newFunctionEnv_cells hk (kindsX hkind _) fun env' he s' x => ?_
  subst he
  refine ⟨hT.nolimit.keeps x.toInCall.keep, codeAny_func ?_⟩
  obtain ⟨h₁, tk, rfl, _⟩ := x.done
  have hk₁ := x.toInCall.keep
  obtain ⟨cells, NC, Y⟩ := Cl.news (h₀ := s.heap) (Nat.le_refl _) fun n c hm => ⟨x.cell n c (lookup_of_mem_nodup (cellsFrom_names scope.names 0 (s.heap.objs.size + 1) [] [] rfl ▸ hnd) hm), x.above n c hm⟩
  refine wpAny_mono (h s.heap.objs.size h₁ tk cells ⟨x.toInCall.ns, hk₁, Nat.le_refl _⟩ NC Y ⟨hA, B'.stays, B'.frames⟩ hX hT) (fun fl s' x => x) fun _ _ x => x.elim
end
section
open PySem PySem.W PySem.Calls PySem.Spec PyProof.Rows
set_option maxRecDepth 100000
set_option maxHeartbeats 8000000
section
variable {prog : Program} {w : World} {A : Around} {E : Value → Shared → Prop} {s : Shared} {env : Env} {Q : Value → Shared → Prop}
/-- a list comprehension over ranges whose test takes none -/
theorem lc_none {a b : Str} {pa pb tp pos : Pos} {kk : Nat} {iter elt c : Expr} {scope : Scope} {cl : List (Str × Addr)} {l : Addr} {vs : List Value} {ps : List (Str × Str)}
    (hh : A.handled = none) (hr : RowsIn s.heap l vs ps)
    (hclos : closureFor scope env = pure cl) (hcell : ∀ y ∈ scope.names, y.2 ≠ .cell) (hkind : scope.kind = .function)
    (hnames : ∀ y ∈ scope.names, y.2 = .local → scope.names.lookup y.1 = some .local) (ha : scope.names.lookup a = some .local) (hb : scope.names.lookup b = some .local) (hab : a ≠ b)
    (hev : wpAny (model prog w) A (eval iter env) (fun v s₁ => v = .ref l ∧ s₁ = s) E s)
    (tests : ∀ C lo hi ta tb h g d k o m₃ E', (lo, hi) ∈ ps → s.heap.objs.size ≤ C → Heap.Ns h C m₃ → m₃ a = some (.str lo ta) → m₃ b = some (.str hi tb) → (∀ b o, s.heap.get? b = some o → h.get? b = some o) →
      wpAny (model prog w) A (isTrue c (compEnvC scope cl C env) (eval c (compEnvC scope cl C env))) (fun ok s₄ => ok = false ∧ Keeps ⟨h, g, d, k, o⟩ s₄) E' ⟨h, g, d, k, o⟩)
    (fin : ∀ D h' tk, s.heap.get? D = none → h'.PlainList D #[] → (∀ b o, s.heap.get? b = some o → h'.get? b = some o) → Q (.ref D) { s with heap := h', toks := tk })
    (hs : ∀ x, foldedSetIterable iter env x = pure x := by intro _; rfl) :
    wpAny (model prog w) A (eval (.ListComp elt [⟨.Tuple [.Name a pa, .Name b pb] kk tp, iter, [c], 0⟩] scope pos) env) Q E s := by
  rw [eval_ListComp]
  refine wpAny_comprehension_free (use := none) rfl hs hclos hkind hnames (wpAny_mono hev (fun xv s₁ h₁ => ?_) fun _ _ e => e)
  obtain ⟨rfl, rfl⟩ := h₁
  obtain ⟨hls, hlen, hrow⟩ := hr
  refine wpAny_pyIter_list hls ?_
  generalize hoI : ({ cls := .type "list_iterator", data := .fields #[.ref l, .int 0 0] } : Obj) = oI
  refine wpAny_newObj_type (wpAny_newFunctionEnv hcell (by intro y hy; simp at hy) (fun h₁ hns₁ hsb₁ => ?_) hkind)
  dsimp only at hns₁ hsb₁ ⊢
  generalize hoD : ({ cls := .type "list", dict := none, data := .seq ([] : List Value).toArray } : Obj) = oD at hns₁ hsb₁ ⊢
  have hD : (s₁.heap.push oI).objs.size = s₁.heap.objs.size + 1 := Heap.size_push ..
  have hC : ((s₁.heap.push oI).push oD).objs.size = s₁.heap.objs.size + 2 := by rw [Heap.size_push, hD]
  rw [hC] at hns₁ hsb₁
  rw [hD, hC]
  have up₁ : ∀ b o, s₁.heap.get? b = some o → h₁.get? b = some o := fun b o e =>
    hsb₁.extBut b o (Nat.ne_of_lt (Nat.lt_add_right 2 (Heap.lt_size e))) (Heap.get?_push_of_some _ (Heap.get?_push_of_some _ (Heap.get?_push_of_some _ e)))
  have hitI : h₁.IsListIter s₁.heap.objs.size l 0 :=
    ⟨oI, hsb₁.extBut _ _ (Nat.ne_of_lt (Nat.lt_add_of_pos_right (by decide))) (Heap.get?_push_of_some _ (Heap.get?_push_of_some _ (Heap.get?_push_size (o := oI) _ (by rw [← hoI]; rfl)))), by rw [← hoI], by rw [← hoI]; rfl⟩
  have hacc : h₁.PlainList (s₁.heap.objs.size + 1) #[] := by
    refine ⟨0, hsb₁.extBut _ _ (Nat.ne_of_lt (Nat.lt_succ_self _)) (Heap.get?_push_of_some _ ?_)⟩
    have := Heap.get?_push_size (s₁.heap.push oI) (o := oD) (by rw [← hoD]; rfl)
    rw [hD] at this
    rw [this, ← hoD]
  have fresh : ∀ a, s₁.heap.objs.size ≤ a → s₁.heap.get? a = none := fun a ha => by
    cases e : s₁.heap.get? a with
    | none => rfl
    | some o' => exact absurd (Heap.lt_size e) (Nat.not_lt.mpr ha)
  have loop : ∀ s₃ : Shared, s₃ = { s₁ with heap := h₁, toks := s₁.toks + ([] : List (Str × Value)).length } →
      codeAny (model prog w) A (.compLoop (.ListComp elt [⟨.Tuple [.Name a pa, .Name b pb] kk tp, iter, [c], 0⟩] scope pos) 0 (.ref s₁.heap.objs.size) (.ref (s₁.heap.objs.size + 1)) (compEnvC scope cl (s₁.heap.objs.size + 2) env))
        (compPost (model prog w) A E none Q (.ref (s₁.heap.objs.size + 1)) (s₁.heap.objs.size + 2)) s₃ := by
    rintro s₃ rfl
    refine kct_loop (fun k s' => ∃ h' tk m' i, s' = { s₁ with heap := h', toks := tk } ∧ h'.IsListIter s₁.heap.objs.size l i ∧ h'.PlainList (s₁.heap.objs.size + 1) #[] ∧ h'.Ns (s₁.heap.objs.size + 2) m' ∧
      (∀ b o, s₁.heap.get? b = some o → h'.get? b = some o) ∧ i ≤ ps.length ∧ k = ps.length + 1 - i) ?_ (ps.length + 1) ⟨h₁, _, _, 0, rfl, hitI, hacc, hns₁, up₁, Nat.zero_le _, rfl⟩
    rintro k s' ⟨H, tk, m', i, rfl, hit, hac, hns, hk, hi, rfl⟩
    have hlH : H.IsList l vs.toArray := hls.at fun o e => hk _ o e
    by_cases hlt : i < ps.length
    · obtain ⟨v, hv⟩ : ∃ v, vs[i]? = some v := ⟨vs[i], by simp [hlen, hlt]⟩
      obtain ⟨T, lo, hi', ta, tb, rfl, hps, hT⟩ := hrow i v hv
      have hTl : T < s₁.heap.objs.size := by obtain ⟨_, e, _⟩ := hT; exact Heap.lt_size e
      refine wpAny_pyNext_list_item hit hlH (x := .ref T) (by simpa using hv) fun h₂ hit₂ hs₂ => ?_
      have up₂ : ∀ b o, b ≠ s₁.heap.objs.size → H.get? b = some o → h₂.get? b = some o := fun b o hb e => hs₂.extBut b o hb e
      have old₂ : ∀ b o, s₁.heap.get? b = some o → h₂.get? b = some o := fun b o e => up₂ b o (Nat.ne_of_lt (Heap.lt_size e)) (hk b o e)
      refine wpAny_letOwnedTupleGo_listiter hit₂ ?_
      have hn₂ : h₂.Ns (s₁.heap.objs.size + 2) m' := hns.at' fun o e => up₂ _ o (Nat.ne_of_gt (Nat.lt_add_of_pos_right (by decide))) e
      refine kcp_assign (env := compEnvC scope cl (s₁.heap.objs.size + 2) env) hh (hT.at fun o e => old₂ _ o e) (lookup_relabel_local ha) (lookup_relabel_local hb) (by simp [compEnvC, relabel, hkind]) hn₂ fun h₃ tk₃ hn₃ hk₃ => ?_
      have old₃ : ∀ b o, s₁.heap.get? b = some o → h₃.get? b = some o := fun b o e => hk₃ b o (Nat.ne_of_lt (Nat.lt_add_right 2 (Heap.lt_size e))) (old₂ b o e)
      refine wpAny_mono (tests _ lo hi' ta tb h₃ _ _ _ _ _ _ (List.mem_of_getElem? hps) (Nat.le_add_right _ 2) hn₃ (by simp [hab]) (by simp) old₃) (fun ok s₄ h₄ => ?_) fun _ _ e => e
      obtain ⟨rfl, h₄', tk₄, rfl, hk₄⟩ := h₄
      rw [if_neg Bool.false_ne_true]
      refine ⟨ps.length + 1 - (i + 1), by omega, h₄', tk₄, _, i + 1, rfl, ?_, ?_, hn₃.keeps hk₄, fun b o e => hk₄ b o (old₃ b o e), hlt, rfl⟩
      · exact hit₂.at fun o e => hk₄ _ o (hk₃ _ o (Nat.ne_of_lt (Nat.lt_add_of_pos_right (by decide))) e)
      · exact hac.at fun o e => hk₄ _ o (hk₃ _ o (Nat.ne_of_lt (Nat.lt_succ_self _)) (up₂ _ o (Nat.succ_ne_self _) e))
    · have hin : i = ps.length := by omega
      subst hin
      refine wpAny_pyNext_list_end hh hit hlH (by simp [hlen]) fun h₂ he₂ => ?_
      have up₂ : ∀ b o, b ≠ s₁.heap.objs.size → H.get? b = some o → h₂.get? b = some o := fun b o hb e => he₂ b o hb e
      refine ⟨m', hns.at' fun o e => up₂ _ o (Nat.ne_of_gt (Nat.lt_add_of_pos_right (by decide))) e, fun h₃ hs₃ => ?_⟩
      refine fin _ h₃ tk (fresh _ (Nat.le_succ _)) (hac.at fun o e => hs₃.extBut _ o (Nat.ne_of_lt (Nat.lt_succ_self _)) (up₂ _ o (Nat.succ_ne_self _) e)) fun b o e => ?_
      exact hs₃.extBut b o (Nat.ne_of_lt (Nat.lt_add_right 2 (Heap.lt_size e))) (up₂ b o (Nat.ne_of_lt (Heap.lt_size e)) (hk b o e))
  exact codeAny_compStart_list (loop _ rfl) (wpAny_pyIter_listiter hitI (loop _ rfl))
end
end
section
open PySem PySem.W PySem.Calls PySem.Spec PyProof.Rows
set_option maxRecDepth 100000
set_option maxHeartbeats 1000000
noncomputable def appOf (a : Addr) : Obj := { cls := .type "builtin_function_or_method", data := .fields #[.builtin "list.append", .ref a] }
theorem md_get : Slot "method_descriptor" "__get__" "method_descriptor.__get__" :=
  .of (owner := "method_descriptor") (n := "__get__") (by rw [typeLookup_type, builtinLookup_eq_fast]; kernel_rfl) (by decide +kernel) (by decide +kernel) (by decide +kernel)
    (by first | exact .inl (by decide +kernel) | exact .inr (by decide +kernel)) (by rw [isSubtype_type]; kernel_rfl)
theorem md_entry : entryFor table "method_descriptor.__get__" = some Builtin.«method_descriptor.__get__» := entryFor_of_tree (by kernel_rfl)
theorem md_args (a b c : Value) : argsOk "method_descriptor.__get__" ⟨[a, b, c], []⟩ := by unfold argsOk; kernel_rfl
theorem md_set : typeLookup (.type "method_descriptor") "__set__" = pure none := by rw [typeLookup_type, builtinLookup_eq_fast]; kernel_rfl
theorem md_del : typeLookup (.type "method_descriptor") "__delete__" = pure none := by rw [typeLookup_type, builtinLookup_eq_fast]; kernel_rfl
theorem ap_type : typeOf (.builtin "list.append") = pure (.type "method_descriptor") := by show builtinType _ = _; rw [builtinType_eq_fast]; kernel_rfl
section
variable {prog : Program} {w : World} {A : Around} {E : Value → Shared → Prop} {s : Shared}
theorem md_run {a : Addr} {xs : Array Value} {k : Nat} {P : Fin → Shared → Prop} (hx : s.heap.get? a = some (listOf xs k))
    (h : P (.done (.ret (.ref s.heap.objs.size))) { s with heap := s.heap.push (appOf a) }) :
    wpAny (model prog w) A (Builtin.«method_descriptor.__get__» ⟨[.builtin "list.append", .ref a, .type "list"], []⟩) P E s := by
  obtain ⟨hp, g, d, tk, os⟩ := s
  have hT : ∀ tk', (⟨hp, g, d, tk', os⟩ : Shared).TypeIs (.ref a) "list" := fun _ => ⟨_, hx, rfl⟩
  have f5 := ap_type
  have f9 : isSubtype (.type "list") (.type "list") = pure true := by rw [isSubtype_type]; kernel_rfl
  unfold Builtin.«method_descriptor.__get__»
  repeat (any_goals (first | assumption | exact hT _ | wp_step))
  refine wpAny_of_eq (a := true) ?_ ?_
  · show isSubtype (.type "list") (.type (".".intercalate ("list.append".cutAt '.').dropLast)) = pure true
    rw [show (".".intercalate ("list.append".cutAt '.').dropLast) = "list" from by decide +kernel]
    exact f9
  · show wpAny _ _ (if (!true) = true then _ else pure ()) _ _ _
    rw [if_neg (by decide)]
    refine wpAny_pure ?_
    exact wpAny_bind (wpAny_newObj_type (wpAny_pure h))

theorem get_append {a : Addr} {xs : Array Value} {k : Nat} {Q : Value → Shared → Prop} (hx : s.heap.get? a = some (listOf xs k))
    (h : ∀ tk, Q (.ref s.heap.objs.size) { s with heap := s.heap.push (appOf a), toks := tk }) :
    wpAny (model prog w) A (getAttr (.ref a) "append" true) Q E s := by
  obtain ⟨hp, g, d, tk, os⟩ := s
  have hT : ∀ tk', (⟨hp, g, d, tk', os⟩ : Shared).TypeIs (.ref a) "list" := fun _ => ⟨_, hx, rfl⟩
  have f1 := F.slot_list_append.lookup
  have f3 := F.slot_list_getattribute.lookup
  have f4 := F.slot_list_getattribute.bind (.ref a)
  have f5 := ap_type
  have f6 := md_get.lookup
  have f7 := md_set
  have f8 := md_del
  have hT5 : ∀ s' : Shared, s'.TypeIs (.builtin "list.append") "method_descriptor" := fun _ => ap_type
  unfold getAttr getAttrBy
  repeat (any_goals (first | assumption | exact hT _ | wp_step))
  refine codeAny_call_builtin F.slot_list_getattribute.plain F.entry_list_ga (F.slot_list_getattribute.check _ _ _ _ _ _ _ _ (hT _) (F.args_list_getattribute_2 _ _) ?_)
  unfold Builtin.«object.__getattribute__»
  repeat (any_goals (first | assumption | exact hT _ | exact hT5 _ | wp_step))
  refine codeAny_call_builtin md_get.plain md_entry (md_get.check _ _ _ _ _ _ _ _ (hT5 _) (md_args _ _ _) ?_)
  refine md_run hx ?_
  refine wpAny_pure ?_
  exact wpAny_pure (h _)
end
end
section
open PySem PySem.W PySem.Calls PySem.Spec PyProof.Rows
set_option maxRecDepth 100000
set_option maxHeartbeats 1000000
section
variable {prog : Program} {w : World} {M : Model} {A : Around} {E : Value → Shared → Prop} {s : Shared} {h₀ : Heap} {L : Addr} {m : Str → Option Value} {news : List (Addr × Obj)}
theorem callWith_appF {pos : Pos} {u l : Addr} {args : List (Bool × Sem Value)} {Q : Value → Shared → Prop} (hplain : args.any (·.1) = false)
    (h : wpAny M A (evalArgs (.ref u) true args []) (fun x s₁ => s₁.heap.get? u = some (appOf l) ∧ wpAny M A (call (.ref u) x.pos x.kw) Q E s₁) E s) : wpAny M A (callWith pos (.ref u) [] args []) Q E s := by
  unfold callWith
  refine wpAny_bind (wpAny_holding (wpAny_mono h (fun x s₁ h₁ => wpAny_bind (wpAny_standAt ?_)) fun _ _ x => x))
  obtain ⟨ho, hcall⟩ := h₁
  simp only [hplain, List.any_nil, Bool.or_false]
  refine wpAny_bind (m := keeperOf (.ref u)) ?_
  unfold keeperOf
  refine wpAny_bind (wpAny_load ho ?_)
  simp only [appOf, show (Value.type "builtin_function_or_method" != Value.type "method") = true by decide, show (Value.type "builtin_function_or_method" == Value.type "builtin_function_or_method" || Value.type "builtin_function_or_method" == Value.type "method-wrapper") = true by decide, if_true]
  refine wpAny_pure ?_
  exact wpAny_bind (wpAny_mono hcall (fun r s₂ hr => wpAny_bind (wpAny_holding (wpAny_point (wpAny_pure hr)))) fun _ _ x => x)
theorem callWith_app {pos : Pos} {u l : Addr} {env : Env} {e : Expr} {Q : Value → Shared → Prop}
    (h : wpAny M A (spliced (backTo pos (starEach [e] env))) (fun vs s₁ => s₁.heap.get? u = some (appOf l) ∧ wpAny M A (call (.ref u) vs) Q E s₁) E s)
    (he : starEach [e] env = (false, eval e env) :: starEach [] env := by rfl) :
    wpAny M A (callWith pos (.ref u) [] (backTo pos (starEach [e] env)) []) Q E s := by
  rw [he] at h ⊢
  refine callWith_appF (l := l) (by show (false || (backTo pos (starEach [] env)).any (·.1)) = false; rfl) ?_
  exact evalArgs_plain h
noncomputable def sigApp := (Manifest.signature? "list.append").get (by kernel_rfl)
theorem sig_app : Manifest.signature? "list.append" = some sigApp := by kernel_rfl
theorem kind_app : builtinKind "list.append" = some .method := by kernel_rfl
theorem args_app {D : Addr} {v : Value} : Bind.checkArgs "list.append" { sigApp with full := toString (Bind.lastOf "list") ++ toString "." ++ toString (Bind.lastOf "list.append") } ⟨[.ref D, v], []⟩ = pure () := by kernel_rfl
theorem check_app {D : Addr} {its : Array Value} {n : Nat} {v : Value} {Q : Unit → Shared → Prop} (hd : s.heap.get? D = some (listOf its n)) (h : Q () s) :
    wpAny (model prog w) A (checkBoundCall "list.append" ⟨[.ref D, v], []⟩) Q E s := by
  obtain ⟨hp, g, d, tk, os⟩ := s
  have hT : ∀ tk', (⟨hp, g, d, tk', os⟩ : Shared).TypeIs (.ref D) "list" := fun _ => ⟨_, hd, rfl⟩
  have f1 : isSubtype (.type "list") (.type "module") = pure false := by rw [isSubtype_type]; kernel_rfl
  have f2 : isSubtype (.type "list") (.type "type") = pure false := by rw [isSubtype_type]; kernel_rfl
  unfold checkBoundCall
  rw [sig_app]
  dsimp only
  rw [kind_app]
  dsimp only
  rw [if_neg (by decide)]
  refine wpAny_bind (wpAny_isInstance (hT _) f1 ?_)
  rw [show (Manifest.varargsMethods.contains "list.append" || false) = false from by decide +kernel, if_neg Bool.false_ne_true]
  refine wpAny_bind ?_
  unfold isType
  refine wpAny_bind (wpAny_load hd (wpAny_pure ?_))
  dsimp only [W.listOf]
  rw [if_neg Bool.false_ne_true]
  refine wpAny_bind (wpAny_typeOf (hT _) ?_)
  exact wpAny_of_eq args_app h
theorem call_app {u D : Addr} {its : Array Value} {n : Nat} {v : Value} {Q : Value → Shared → Prop} (ho : s.heap.get? u = some (appOf D)) (hd : s.heap.get? D = some (listOf its n))
    (h : ∀ h', Heap.SameBut D s.heap h' → h'.get? D = some (listOf (its.push v) (n + 1)) → Q .none { s with heap := h' }) (hsz : its.size ≤ sizeLine := by size_fits) :
    wpAny (model prog w) A (call (.ref u) [v]) Q E s := by
  refine wpAny_call (codeAny_of_tree ?_)
  show wpAny _ A.in1 (callAny (.ref u) ⟨[v], []⟩) _ _ s
  simp only [callAny]
  refine wpAny_bind (wpAny_load ho ?_)
  simp only [appOf, show (Value.type "builtin_function_or_method" == Value.type "method" || Value.type "builtin_function_or_method" == Value.type "builtin_function_or_method" || Value.type "builtin_function_or_method" == Value.type "method-wrapper") = true by decide, if_true]
  refine KFB.if_so (by decide) ?_
  refine wpAny_bind (check_app hd ?_)
  refine wpAny_bind (wpAny_pure (wpAny_pure ?_))
  refine ⟨Code.quiet_builtin _ (by decide +kernel), codeAny_builtin entry_list_append ?_⟩
  show wpAny _ _ (updateSeq D (·.push v) >>= fun _ => ret .none) _ _ s
  refine wpAny_bind ?_
  refine wpAny_updateSeq hd rfl (wpAny_pure (h _ (Heap.SameBut.update ..) ?_))
  rw [Heap.get?_update_self _ hd (by rw [mapSeq_push]; rfl), mapSeq_push]
end
end
section
open PySem PySem.W PySem.Calls PySem.Spec PyProof.Rows
set_option maxHeartbeats 400000
theorem isnot_str {prog : Program} {w : World} {A : Around} {E : Value → Shared → Prop} {s : Shared} {x : Str} {t : Tok} {a : Addr} {Q : Value → Shared → Prop} (h : Q (.bool true) s) :
    wpAny (model prog w) A (compareOp .IsNot (.str x t) (.ref a)) Q E s := by
  unfold compareOp
  repeat (any_goals (first | assumption | wp_step))
theorem call_app_K {prog : Program} {w : World} {A : Around} {E : Value → Shared → Prop} {s : Shared} {h₀ : Heap} {L u D : Addr} {m : Str → Option Value} {own own' : List (Addr × Obj)} {its : Array Value} {n : Nat} {v : Value} {Q : Value → Shared → Prop}
    (F : Fr h₀ L s.heap m) (N : News h₀ L s.heap own) (hu : (u, appOf D) ∈ own) (U : Upd D (W.listOf its n) (W.listOf (its.push v) (n + 1)) own own')
    (h : ∀ h', Fr h₀ L h' m → News h₀ L h' own' → Q .none { s with heap := h' }) (hsz : its.size ≤ sizeLine := by size_fits) :
    wpAny (model prog w) A (call (.ref u) [v]) Q E s := by
  obtain ⟨pre, post, rfl, rfl, a, b⟩ := U.split
  have z := N (D, W.listOf its n) (List.mem_append.mpr (.inr (.head _)))
  exact call_app (hsz := hsz) (N _ hu).1 z.1 fun h' hs ho' => h h' (F.change hs z.2.1 z.2.2) (news_set N a b hs ho')
end
section
open PySem PySem.W PySem.Calls PySem.Spec PyProof.Rows
set_option maxRecDepth 100000
set_option maxHeartbeats 8000000

noncomputable def signS (x : Str) (k : Nat) : Str × Nat := if (cut x k (k + 1) == Str.ofString "\\") = true then (cut x (k + 1) (k + 2), k + 2) else (cut x k (k + 1), k + 1)
theorem slice_one (x : Str) (k : Nat) : Txt.slice x (some (k : Int)) (some ((k : Int) + 1)) = cut x k (k + 1) := slice_nat x k (k + 1)
theorem slice_two (x : Str) (k : Nat) : Txt.slice x (some ((k : Int) + 1)) (some ((k : Int) + 2)) = cut x (k + 1) (k + 2) := slice_nat x (k + 1) (k + 2)
theorem c_sign (w : World) (x : Str) (k : Nat) (t0 t1 : Tok) :
    PureC 4 w 175 [.str x t0, .int k t1] (fun _ => x.length ≤ 100 ∧ k ≤ 1000)
      (fun v h h' => ∃ ta tb, NewAt h h' v { cls := .type "tuple", data := .seq #[.str (signS x k).1 ta, .int ((signS x k).2 : Nat) tb] }) := by
  delta PureC Prg KK
  k_fill
  intro p loose mean mg mb dp un gd cn cs a ccd cl outer A₀ base h₀ L m s Q E B F X T hk hd hu hpre hQ
  refine' enter_pure (args := ⟨_, []⟩) (binds := [(PySem.Str.ofString "inner", .str x t0), (PySem.Str.ofString "at", .int k t1)]) B F X T rfl rfl hk ?k6 ?k7 ?k8 ?k9 ?kB ?_ ?c5 ?c2 ?c3 ?c4
  case k6 => k_is
  case k7 => k_is
  case k8 => (show dp < _; omega)
  case k9 => exact BindsTo.of_eq rfl
  case c5 => decide
  case kB => exact locs rfl
  case c2 => exact rfl
  case c3 => exact rfl
  case c4 => exact rfl
  clear F X T B
  intro L' h' F' N' B' X' T'
  (try dsimp only [List.reverse_cons, List.reverse_nil, List.nil_append, List.cons_append])

  obtain ⟨h1, h2⟩ := hpre
  k_fold
  k_steps
  · rename Fr _ _ _ _ => FF
    rename News _ _ _ _ => NN
    rename (_ == _) = true => hc
    rw [slice_one] at hc
    have r := NewAt.of NN (.head _)
    refine hQ _ _ _ FF.keep ?_
    exact ⟨_, _, by rw [show signS x k = (cut x (k + 1) (k + 2), k + 2) from if_pos hc, ← slice_two]; exact r⟩
  · rename Fr _ _ _ _ => FF
    rename News _ _ _ _ => NN
    rename (_ == _) = false => hc
    rw [slice_one] at hc
    have r := NewAt.of NN (.head _)
    refine hQ _ _ _ FF.keep ?_
    exact ⟨_, _, by rw [show signS x k = (cut x k (k + 1), k + 1) from if_neg (by rw [hc]; exact Bool.false_ne_true), ← slice_one]; exact r⟩
end
section
open PySem PySem.W PySem.Calls PySem.Spec PyProof.Rows PySem.Builtin PySem.Builtin.Str
set_option maxRecDepth 100000
set_option maxHeartbeats 8000000
theorem signS_gt (x : Str) (k : Nat) : k < (signS x k).2 ∧ (signS x k).2 ≤ k + 2 := by
  unfold signS
  split <;> simp
noncomputable def readAt (x : Str) (k : Nat) : List (Str × Str) :=
  if _h : k < x.length then
    if ((cut x (signS x k).2 ((signS x k).2 + 1) == Str.ofString "-") && decide ((signS x k).2 + 1 < x.length)) = true
    then ((signS x k).1, (signS x ((signS x k).2 + 1)).1) :: readAt x (signS x ((signS x k).2 + 1)).2
    else ((signS x k).1, (signS x k).1) :: readAt x (signS x k).2
  else []
termination_by x.length - k
decreasing_by
  · have := signS_gt x k
    have := signS_gt x ((signS x k).2 + 1)
    omega
  · have := signS_gt x k
    omega
theorem readAt_range {x : Str} {k : Nat} (h : k < x.length) (h1 : (cut x (signS x k).2 ((signS x k).2 + 1) == Str.ofString "-") = true) (h2 : (signS x k).2 + 1 < x.length) :
    readAt x k = ((signS x k).1, (signS x ((signS x k).2 + 1)).1) :: readAt x (signS x ((signS x k).2 + 1)).2 := by
  rw [readAt, dif_pos h, if_pos (by rw [h1, decide_eq_true h2]; rfl)]
theorem readAt_one {x : Str} {k : Nat} (h : k < x.length) (h1 : (cut x (signS x k).2 ((signS x k).2 + 1) == Str.ofString "-") = false ∨ ¬ (signS x k).2 + 1 < x.length) :
    readAt x k = ((signS x k).1, (signS x k).1) :: readAt x (signS x k).2 := by
  rw [readAt, dif_pos h, if_neg]
  rcases h1 with h1 | h1
  · rw [h1]; simp
  · rw [decide_eq_false h1]; simp
theorem readAt_end {x : Str} {k : Nat} (h : ¬ k < x.length) : readAt x k = [] := by rw [readAt, dif_neg h]
theorem drop2 {h₀ h : Heap} {L : Addr} {a b : Addr × Obj} {r : List (Addr × Obj)} (N : News h₀ L h (a :: b :: r)) : News h₀ L h (a :: r) := fun p hp => N p (by
  rcases List.mem_cons.mp hp with rfl | hp
  · exact .head _
  · exact .tail _ (.tail _ hp))
end
section
open PySem PySem.W PySem.Calls PySem.Spec PyProof.Rows
set_option maxRecDepth 100000
set_option maxHeartbeats 8000000
open AutoSeq1 (wpAny_loadPart')
section
variable {prog : Program} {w : World} {A : Around} {E : Value → Shared → Prop} {s : Shared}
theorem nextOf_tup {it t : Addr} {i : Nat} {items : Array Value} {x : Value} {Q : Value → Shared → Prop} (hit : s.heap.IsTupleIter it t i) (ht : s.heap.IsTuple t items) (hx : items[i]? = some x)
    (hQ : ∀ h', h'.IsTupleIter it t (i + 1) → Heap.SameBut it s.heap h' → Q x { s with heap := h' }) :
    wpAny (model prog w) A (Builtin.SmallTypes.nextOf (.ref it)) Q E s := by
  obtain ⟨o, ho, hc, hd⟩ := id hit
  obtain ⟨ol, hol, _, nl, hdl⟩ := ht
  unfold Builtin.SmallTypes.nextOf
  refine wpAny_bind (wpAny_callSpecial?_slot (name := Str.ofString "__next__") hit.typeIs F.slot_tuple_iterator_next
    (wpAny_call_entry F.slot_tuple_iterator_next hit.typeIs F.entry_tuple_iterator_next ?_ (F.args_tuple_iterator_next_1 _)))
  show wpAny _ _ (field (.ref it) 0 >>= _) _ _ s
  refine wpAny_bind (wpAny_field ho hd (x := .ref t) rfl ?_)
  show wpAny _ _ (if (Value.ref t == Value.none) = true then _ else _) _ _ s
  rw [if_neg (show ¬ ((Value.ref t == Value.none) = true) from Bool.false_ne_true)]
  show wpAny _ _ (field (.ref it) 1 >>= _) _ _ s
  refine wpAny_bind (wpAny_field ho hd (x := .int i 0) rfl ?_)
  show wpAny _ _ (seqItems? (.ref t) >>= _) _ _ s
  refine wpAny_bind (wpAny_seqItems hol hdl ?_)
  simp only [Int.toNat_natCast, hx]
  refine wpAny_bind (wpAny_setField ho hd (by simp) (wpAny_pure ⟨x, rfl, wpAny_pure (hQ _ ?_ (Heap.SameBut.update ..))⟩))
  exact ⟨_, Heap.get?_update_self _ ho (Obj.isFreed_of_fields (Obj.data_mapFields hd _)), (Obj.cls_mapFields ..).trans hc, by
    rw [Obj.data_mapFields hd]; simp [rawInt]⟩
theorem nextOf_tup_end {it t : Addr} {i : Nat} {items : Array Value} {Q : Value → Shared → Prop} (hh : A.handled = none) (hit : s.heap.IsTupleIter it t i) (ht : s.heap.IsTuple t items) (hx : items[i]? = none)
    (hE : ∀ h' e, Heap.ExtBut it s.heap h' → (∃ o, h'.get? e = some o ∧ o.cls = .type "StopIteration") → E (.ref e) { s with heap := h' }) :
    wpAny (model prog w) A (Builtin.SmallTypes.nextOf (.ref it)) Q E s := by
  obtain ⟨o, ho, hc, hd⟩ := id hit
  obtain ⟨ol, hol, _, nl, hdl⟩ := ht
  unfold Builtin.SmallTypes.nextOf
  refine wpAny_bind (wpAny_callSpecial?_slot (name := Str.ofString "__next__") hit.typeIs F.slot_tuple_iterator_next
    (wpAny_call_entry F.slot_tuple_iterator_next hit.typeIs F.entry_tuple_iterator_next ?_ (F.args_tuple_iterator_next_1 _)))
  show wpAny _ _ (field (.ref it) 0 >>= _) _ _ s
  refine wpAny_bind (wpAny_field ho hd (x := .ref t) rfl ?_)
  show wpAny _ _ (if (Value.ref t == Value.none) = true then _ else _) _ _ s
  rw [if_neg (show ¬ ((Value.ref t == Value.none) = true) from Bool.false_ne_true)]
  show wpAny _ _ (field (.ref it) 1 >>= _) _ _ s
  refine wpAny_bind (wpAny_field ho hd (x := .int i 0) rfl ?_)
  show wpAny _ _ (seqItems? (.ref t) >>= _) _ _ s
  refine wpAny_bind (wpAny_seqItems hol hdl ?_)
  simp only [Int.toNat_natCast, hx]
  refine wpAny_bind (wpAny_rule (wpAny_bind (wpAny_setField ho hd (by simp) ?_)))
  show wpAny _ _ (newExc (.type "StopIteration") [] >>= _) _ _ _
  refine wpAny_bind ?_
  simp only [newExc, newTuple]
  refine wpAny_bind (wpAny_newObj_type ?_ (by size_fits))
  refine wpAny_bind (m := firstArgMember _ _) (wpAny_of_eq (a := Value.none) (by first | rfl | (simp only [firstArgMember]; rfl)) ?_)
  refine wpAny_newObj_type ?_ (by size_fits)
  simp only [raiseNew]
  refine wpAny_bind (wpAny_handled ?_)
  first | rw [show A.in1.handled = none from hh] | rw [hh]
  refine wpAny_bind (wpAny_pure (wpAny_throw ?_))
  exact hE _ _ (((Heap.SameBut.update ..).extBut.push _).push _) ⟨_, Heap.get?_push_size _ rfl, rfl⟩
end
theorem draws_tup {prog : Program} {w : World} {A : Around} (hh : A.handled = none) (it l : Addr) (hne : l ≠ it) (items : Array Value) :
    Draws prog w A it [it, l] items.size (fun i v => items[i]? = some v) (fun i h => h.IsTupleIter it l i ∧ h.IsTuple l items) where
  live := fun _ _ st => let ⟨o, ho, _⟩ := st.1; ⟨o, ho⟩
  frame := fun _ _ _ st hk => ⟨st.1.at fun o e => hk it (by simp) o e, st.2.at fun o e => hk l (by simp) o e⟩
  item := fun i s Q E hi st hQ => by
    refine nextOf_tup st.1 st.2 (x := items[i]) (by simp [hi]) fun h' hit' hs' => ?_
    exact hQ _ h' s.toks (by simp [hi]) ⟨hit', st.2.extBut hs'.extBut hne⟩ hs'
  done := fun s Q E st hE => nextOf_tup_end hh st.1 st.2 (by simp) hE

theorem meets_enumT (l : Addr) (items : Array Value) (n : Nat) (dct : Option Addr) (sl : Array (Option Value)) :
    Meets (Builtin.«enumerate.__new__» ⟨[.type "enumerate", .ref l], []⟩) (fun _ R s => s.heap.get? l = some { cls := .type "tuple", dict := dct, data := .seq items n, slots := sl } ∧
      R (.ok (.ret (.ref (s.heap.push { cls := .type "tuple_iterator", data := .fields #[.ref l, .int 0 0] }).objs.size)))
        { s with heap := (s.heap.push { cls := .type "tuple_iterator", data := .fields #[.ref l, .int 0 0] }).push { cls := .type "enumerate", data := .fields #[.none, .bool false, .ref s.heap.objs.size, rawInt 0, .none, .none] } }) :=
  .of_wp fun prog w A R s h => by
    obtain ⟨hp, g, d, tk, os⟩ := s; obtain ⟨hl, h⟩ := h
    have hsub := sub_enumerate
    have hL : Heap.IsTuple (Shared.heap ⟨hp, g, d, tk, os⟩) l items := ⟨_, hl, rfl, n, rfl⟩
    wp_walk using wpAny_loadPart' hl
    refine wpAny_stack_any fun st => wpAny_pure ?_
    split
    · rename_i c _ _ _ _ _
      cases (c == Value.type "enumerate")
      · wp_walk using wpAny_loadPart' hl, wpAny_pyIter_tuple hL
        exact ⟨_, rfl, h⟩
      · wp_walk using wpAny_loadPart' hl, wpAny_pyIter_tuple hL
        exact ⟨_, rfl, h⟩
    · wp_walk using wpAny_loadPart' hl, wpAny_pyIter_tuple hL
      exact ⟨_, rfl, h⟩
section
variable {prog : Program} {w : World} {A : Around} {E : Value → Shared → Prop} {s : Shared}
theorem call_enumT {l : Addr} {items : Array Value} {Q : Value → Shared → Prop} (hL : s.heap.IsTuple l items)
    (h : ∀ h', IsEnum h' (s.heap.objs.size + 1) s.heap.objs.size 0 .none → h'.IsTupleIter s.heap.objs.size l 0 → h'.objs.size = s.heap.objs.size + 2 →
      (∀ b o, s.heap.get? b = some o → h'.get? b = some o) → Q (.ref (s.heap.objs.size + 1)) { s with heap := h' }) :
    wpAny (model prog w) A (call (.type "enumerate") [.ref l]) Q E s := by
  obtain ⟨⟨c, dct, dt, sl⟩, hl, hc, n, hd⟩ := hL
  replace hc : c = .type "tuple" := hc
  replace hd : dt = .seq items n := hd
  subst hc hd
  refine callType_new F.called_enumerate (by decide) (F.typeCall_enumerate_1 _) (F.newCall_enumerate_1 _) (fun obj => F.args_object_init_2 obj _) F.entry_enumerate_new
    (meets_enumT l items n dct sl) ⟨hl, ?_⟩
  have hz : (s.heap.push { cls := .type "tuple_iterator", data := .fields #[.ref l, .int 0 0] }).objs.size = s.heap.objs.size + 1 := Heap.size_push ..
  show _ ∧ _
  rw [hz]
  have he : IsEnum ((s.heap.push { cls := .type "tuple_iterator", data := .fields #[.ref l, .int 0 0] }).push
      { cls := .type "enumerate", data := .fields #[.none, .bool false, .ref s.heap.objs.size, rawInt 0, .none, .none] }) (s.heap.objs.size + 1) s.heap.objs.size 0 .none := by
    have := Heap.get?_push_size (s.heap.push { cls := .type "tuple_iterator", data := .fields #[.ref l, .int 0 0] })
      (o := { cls := .type "enumerate", data := .fields #[.none, .bool false, .ref s.heap.objs.size, rawInt 0, .none, .none] }) rfl
    rw [hz] at this; exact this
  exact ⟨⟨_, he, rfl⟩, h _ he ⟨_, Heap.get?_push_of_some _ (Heap.get?_push_size _ rfl), rfl, rfl⟩ (by rw [Heap.size_push, hz]) fun b o x => Heap.get?_push_of_some _ (Heap.get?_push_of_some _ x)⟩
end
section
variable {prog : Program} {w : World} {A : Around} {E : Value → Shared → Prop} {s : Shared} {env : Env} {h₀ : Heap} {Q : Flow → Shared → Prop}
noncomputable def EPost (h₀ : Heap) (L : Addr) (own news₁ : List (Addr × Obj)) (J : (Str → Option Value) → List (Addr × Obj) → Prop) (s₁ : Shared) (Q : Flow → Shared → Prop) (f : Flow) (s₂ : Shared) : Prop :=
  match f with
  | .ret v => Q (.ret v) s₂
  | .brk => Q .next s₂
  | _ => ∃ h' tk' m' news', s₂ = { s₁ with heap := h', toks := tk' } ∧ Fr h₀ L h' m' ∧ News h₀ L h' (news' ++ own) ∧ news'.map (·.1) = news₁.map (·.1) ∧ J m' news'
theorem news_flip {h₀ h : Heap} {L : Addr} {a b : List (Addr × Obj)} (N : News h₀ L h (a ++ b)) : News h₀ L h (b ++ a) := fun p hp => N p (by
  rcases List.mem_append.mp hp with hp | hp
  · exact List.mem_append_right _ hp
  · exact List.mem_append_left _ hp)
/-- the turns of «for i, x in enumerate(T)», T a tuple of the base -/
theorem enum_rows {xi xc : Str} {body : List Stmt} {l : Addr} {items : Array Value} {m₀ : Str → Option Value} {news : List (Addr × Obj)}
    (J : Nat → (Str → Option Value) → List (Addr × Obj) → Prop) (hh : A.handled = none) (ht : h₀.IsTuple l items)
    (F : Fr h₀ env.locals s.heap m₀) (N : News h₀ env.locals s.heap news) (hj : J 0 m₀ news)
    (turn : ∀ (i : Nat) x t m₁ news₁ h tk own, items[i]? = some x → J i m₁ news₁ → news₁.map (·.1) = news.map (·.1) → (∀ p ∈ own, ∀ q ∈ news₁, p.1 ≠ q.1) → Fr h₀ env.locals h (fun z => if z = xc then some x else if z = xi then some (.int i t) else m₁ z) → News h₀ env.locals h (news₁ ++ own) →
      wpAny (model prog w) A (execs body env) (EPost h₀ env.locals own news₁ (J (i + 1)) { s with heap := h, toks := tk } Q) E { s with heap := h, toks := tk })
    (done : ∀ m₁ news₁ h tk, J items.size m₁ news₁ → Fr h₀ env.locals h m₁ → News h₀ env.locals h news₁ → Q .next { s with heap := h, toks := tk }) :
    wpAny (model prog w) A (call (.type "enumerate") [.ref l]) (fun xv s₁ => wpAny (model prog w) A (pyIter xv) (fun it s₂ => PairAt3 prog w A h₀ env xi xc body Q E it s₂) E s₁) E s := by
  have hts : s.heap.IsTuple l items := ht.at fun o e => F.keep _ o e
  have hl₀ : ∃ o, h₀.get? l = some o := by obtain ⟨o, e, _⟩ := ht; exact ⟨o, e⟩
  have hlt : l < s.heap.objs.size := by obtain ⟨_, e, _⟩ := hts; exact Heap.lt_size e
  have hlL : l ≠ env.locals := by obtain ⟨o, e⟩ := hl₀; exact Nat.ne_of_lt (Nat.lt_of_lt_of_le (Heap.lt_size e) F.above)
  have hL : env.locals < s.heap.objs.size := F.ns.lt
  have hNl : ∀ p ∈ news, p.1 < s.heap.objs.size := fun p hp => Heap.lt_size (N p hp).1
  have hfresh : ∀ a, s.heap.objs.size ≤ a → h₀.get? a = none := fun a ha => by
    cases q : h₀.get? a with
    | none => rfl
    | some o => exact absurd (Heap.lt_size (F.keep _ _ q)) (Nat.not_lt.mpr ha)
  refine call_enumT hts fun h' he hit hsz hk => wpAny_pyIter_enum he ?_
  have hIl : s.heap.objs.size + 1 ∉ [s.heap.objs.size, l] := by
    intro hm
    rcases List.mem_cons.mp hm with e | hm
    · exact Nat.succ_ne_self _ e
    · exact Nat.ne_of_gt (Nat.lt_succ_of_lt hlt) (List.mem_singleton.mp hm)
  have hnw : ∀ a : Addr, a < s.heap.objs.size → a ∉ [s.heap.objs.size + 1, s.heap.objs.size] := by
    intro a ha hm
    rcases List.mem_cons.mp hm with e | hm
    · exact Nat.ne_of_lt (Nat.lt_succ_of_lt ha) e
    · exact Nat.ne_of_lt ha (List.mem_singleton.mp hm)
  refine ⟨_, _, _, _, _, _, _, fun i v0 v1 => ∃ t, items[i]? = some v1 ∧ v0 = .int i t, m₀, news, J, rfl,
    WalksT.enumerateD (draws_tup (A := A.in1) hh s.heap.objs.size l (Nat.ne_of_lt hlt) items) (s.heap.objs.size + 1) (Nat.succ_ne_self _) hIl (by simp), ?_, ?_, ?_, ?_, ⟨⟨_, he⟩, hit, hts.at fun o e => hk _ o e⟩, F.keeps hk, N.grown hk, hj, ?_, ?_⟩
  · rintro i vals ⟨t, x, hx, rfl⟩
    exact ⟨_, _, rfl, t, hx, rfl⟩
  · intro hm
    rcases List.mem_cons.mp hm with e | hm
    · exact Nat.ne_of_lt (Nat.lt_succ_of_lt hL) e
    · rcases List.mem_cons.mp hm with e | hm
      · exact Nat.ne_of_lt hL e
      · exact hlL (List.mem_singleton.mp hm).symm
  · intro b hb
    rcases List.mem_cons.mp hb with rfl | hb
    · exact hfresh _ (Nat.le_succ _)
    · rw [List.mem_singleton.mp hb]; exact hfresh _ (Nat.le_refl _)
  · exact fun p hp => hnw _ (hNl p hp)
  · rintro i v0 v1 m₁ news₁ s₁ own ⟨h, tk, rfl⟩ hi ⟨t, hx, rfl⟩ hJ ha hown F₁ N₁
    have hoff : ∀ p ∈ own, ∀ q ∈ news₁, p.1 ≠ q.1 := by
      intro p hp q hq e
      have hq' : q.1 < s.heap.objs.size := by
        have : q.1 ∈ news.map (·.1) := ha ▸ List.mem_map_of_mem hq
        obtain ⟨q2, hq2, e2⟩ := List.mem_map.mp this
        have := hNl q2 hq2
        rw [e2] at this; exact this
      have hp' := hown p hp
      rw [e] at hp'
      rcases List.mem_cons.mp hp' with e1 | hp'
      · exact Nat.ne_of_lt (Nat.lt_succ_of_lt hq') e1
      · rcases List.mem_cons.mp hp' with e1 | hp'
        · exact Nat.ne_of_lt hq' e1
        · obtain ⟨o, ho⟩ := hl₀
          have hn := (N₁ q (List.mem_append_right _ hq)).2.2
          rw [List.mem_singleton.mp hp', ho] at hn
          cases hn
    refine wpAny_mono (turn i v1 t m₁ news₁ h tk own hx hJ ha hoff F₁ (news_flip N₁)) (fun f s₃ h₃ => ?_) fun _ _ e => e
    cases f with
    | ret v => exact h₃
    | brk => exact h₃
    | next =>
      obtain ⟨h', tk', m', news', rfl, F', N', ha', hJ'⟩ := h₃
      exact ⟨rfl, h', tk', m', news', rfl, F', news_flip N', ha', hJ'⟩
    | cont =>
      obtain ⟨h', tk', m', news', rfl, F', N', ha', hJ'⟩ := h₃
      exact ⟨rfl, h', tk', m', news', rfl, F', news_flip N', ha', hJ'⟩
  · intro h'' tk m' news' F' N' _ hJ
    exact done m' news' h'' tk hJ F' N'
end
end
section
open PySem PySem.W PySem.Calls PySem.Spec PyProof.Rows
set_option maxRecDepth 100000
set_option maxHeartbeats 8000000
section
variable {prog : Program} {w : World} {A : Around} {E : Value → Shared → Prop} {s : Shared} {env : Env} {h₀ : Heap} {Q : Flow → Shared → Prop}
/-- «for a, b in T: body else: orelse», T a tuple of pairs of the base -/
theorem For_alts {a b : Str} {pa pb tp pos : Pos} {kk : Nat} {iter : Expr} {body orelse : List Stmt} {l : Addr} {vs : List Value} {ps : List (Value × Value)} {m₀ : Str → Option Value} {news : List (Addr × Obj)}
    (J : Nat → (Str → Option Value) → List (Addr × Obj) → Prop) (hh : A.handled = none) (hl : h₀.IsTuple l vs.toArray) (hlen : vs.length = ps.length)
    (hrow : ∀ (i : Nat) (v : Value), vs[i]? = some v → ∃ T x y, v = .ref T ∧ ps[i]? = some (x, y) ∧ h₀.IsTuple T #[x, y])
    (F : Fr h₀ env.locals s.heap m₀) (N : News h₀ env.locals s.heap news) (hj : J 0 m₀ news)
    (ha : env.kindOf a = some .local) (hb : env.kindOf b = some .local) (hp : (env.scope.kind == .class || (env.scope.kind == .module && env.locals != env.globals)) = false)
    (hev : wpAny (model prog w) A (eval iter env) (fun v s₁ => v = .ref l ∧ s₁ = s) E s)
    (turn : ∀ (i : Nat) x y m₁ news₁ h tk I oI, ps[i]? = some (x, y) → (∀ p ∈ news₁, p.1 ≠ I) → J i m₁ news₁ → Fr h₀ env.locals h (fun z => if z = b then some y else if z = a then some x else m₁ z) → News h₀ env.locals h ((I, oI) :: news₁) →
      wpAny (model prog w) A (execs body env) (RowPost h₀ env.locals I oI (J (i + 1)) { s with heap := h, toks := tk } Q) E { s with heap := h, toks := tk })
    (done : ∀ m₁ news₁ h tk, J ps.length m₁ news₁ → Fr h₀ env.locals h m₁ → News h₀ env.locals h news₁ → wpAny (model prog w) A (execs orelse env) Q E { s with heap := h, toks := tk })
    (hs : ∀ x, foldedSetIterable iter env x = pure x := by intro _; rfl)
    (hE : PassesOwn (model prog w) A env E := by passes_own) :
    wpAny (model prog w) A (exec (.For (.Tuple [.Name a pa, .Name b pb] kk tp) iter body orelse pos) env) Q E s := by
  refine wpAny_For (wpAny_mono hev (fun xv s₁ h₁ => ?_) fun _ _ e => e) hs
  obtain ⟨rfl, rfl⟩ := h₁
  have hls : s₁.heap.IsTuple l vs.toArray := hl.at fun o e => F.keep _ o e
  have hlt : l < s₁.heap.objs.size := by obtain ⟨_, e, _⟩ := hls; exact Heap.lt_size e
  refine wpAny_pyIter_tuple hls ?_
  generalize hI : s₁.heap.objs.size = I at hlt
  have hI₀ : h₀.get? I = none := by
    cases q : h₀.get? I with
    | none => rfl
    | some o => have := Heap.lt_size (F.keep _ _ q); rw [hI] at this; exact absurd this (Nat.lt_irrefl _)
  have hIL : env.locals ≠ I := by have := F.ns.lt; rw [hI] at this; exact Nat.ne_of_lt this
  have up : ∀ b o, s₁.heap.get? b = some o → (s₁.heap.push { cls := .type "tuple_iterator", data := .fields #[.ref l, .int 0 0] }).get? b = some o := fun b o e => Heap.get?_push_of_some _ e
  have hit0 : (s₁.heap.push { cls := .type "tuple_iterator", data := .fields #[.ref l, .int 0 0] }).IsTupleIter I l 0 := ⟨_, by rw [← hI]; exact Heap.get?_push_size _ rfl, rfl, rfl⟩
  have offN : ∀ p ∈ news, p.1 ≠ I := fun p hp => by have := Heap.lt_size (N p hp).1; rw [hI] at this; exact Nat.ne_of_lt this
  refine codeAny_forLoop_any (fun k s' => ∃ h' tk m' news' i, s' = { s₁ with heap := h', toks := tk } ∧ h'.IsTupleIter I l i ∧ Fr h₀ env.locals h' m' ∧ News h₀ env.locals h' news' ∧ (∀ p ∈ news', p.1 ≠ I) ∧ J i m' news' ∧ i ≤ ps.length ∧ k = ps.length + 1 - i) ?_ (ps.length + 1)
    ⟨_, s₁.toks, m₀, news, 0, rfl, hit0, F.keeps up, N.grown up, offN, hj, Nat.zero_le _, rfl⟩
  rintro k s' ⟨H, tk, m', news', i, rfl, hit, F', N', off, hJ, hi, rfl⟩
  have hlH : H.IsTuple l vs.toArray := hl.at fun o e => F'.keep _ o e
  have next : ∀ h₁ : Heap, (∀ b o, b ∉ [I] → H.get? b = some o → h₁.get? b = some o) → Fr h₀ env.locals h₁ m' ∧ News h₀ env.locals h₁ news' := fun h₁ hk =>
    ⟨LCg.fr_but F' hk hIL hI₀, LCg.news_but N' hk off⟩
  by_cases hlt' : i < ps.length
  · obtain ⟨v, hv⟩ : ∃ v, vs[i]? = some v := ⟨vs[i], by simp [hlen, hlt']⟩
    obtain ⟨T, x, y, rfl, hps, hT⟩ := hrow i v hv
    refine wpAny_pyNext_tuple_item hit hlH (x := .ref T) (by simpa using hv) fun h₂ hit₂ hs₂ => ?_
    obtain ⟨F₂, N₂⟩ := next h₂ fun b o hb e => hs₂.extBut b o (by simpa using hb) e
    have hgo : ∀ {Q' : Unit → Shared → Prop} {E' : Value → Shared → Prop}, Q' () { s₁ with heap := h₂, toks := tk } → wpAny (model prog w) A (letOwnedTupleGo (.Tuple [.Name a pa, .Name b pb] kk tp) (.ref I) (.ref T)) Q' E' { s₁ with heap := h₂, toks := tk } := by
      intro Q' E' q
      obtain ⟨o, ho, hc, hd⟩ := id hit₂
      unfold letOwnedTupleGo
      refine wpAny_bind (wpAny_load ho ?_)
      rw [hc, hd]
      show wpAny _ A (if (["enumerate", "zip", "dict_itemiterator", "dict_reverseitemiterator", "odict_iterator", "itertools.zip_longest", "itertools.pairwise"].contains "tuple_iterator" &&
          (#[.ref l, .int (i + 1 : Nat) 0] : Array Value)[0]? == some (rawInt T)) = true then _ else _) Q' E' _
      rw [if_neg (by
        intro h
        rw [show (["enumerate", "zip", "dict_itemiterator", "dict_reverseitemiterator", "odict_iterator", "itertools.zip_longest", "itertools.pairwise"].contains "tuple_iterator") = false from by decide, Bool.false_and] at h
        cases h)]
      exact wpAny_pure q
    refine hgo ?_
    refine kcp_assign hh (hT.at fun o e => F₂.keep _ o e) ha hb hp F₂.ns fun h₃ tk₃ hn₃ hk₃ => ?_
    have F₃ : Fr h₀ env.locals h₃ (fun z => if z = b then some y else if z = a then some x else m' z) :=
      ⟨hn₃, fun c o e => hk₃ c o (Nat.ne_of_lt (Nat.lt_of_lt_of_le (Heap.lt_size e) F₂.above)) (F₂.keep c o e), F₂.above⟩
    obtain ⟨oI, eI, rI⟩ := id hit₂
    have N₃ : News h₀ env.locals h₃ ((I, oI) :: news') := fun p hp => by
      rcases List.mem_cons.mp hp with rfl | hp
      · exact ⟨hk₃ _ _ (Ne.symm hIL) eI, Ne.symm hIL, hI₀⟩
      · exact ⟨hk₃ _ _ (N₂ p hp).2.1 (N₂ p hp).1, (N₂ p hp).2⟩
    refine wpAny_passesOwn hE (wpAny_mono (turn i x y m' news' h₃ tk₃ I oI hps off hJ F₃ N₃) (fun f s₃ h₃' => ?_) fun _ _ e => e)
    have fin : (∃ h' tk' m'' news'', s₃ = { s₁ with heap := h', toks := tk' } ∧ Fr h₀ env.locals h' m'' ∧ News h₀ env.locals h' ((I, oI) :: news'') ∧ (∀ p ∈ news'', p.1 ≠ I) ∧ J (i + 1) m'' news'') →
        ∃ m, m < ps.length + 1 - i ∧ ∃ h' tk m' news' i, s₃ = { s₁ with heap := h', toks := tk } ∧ h'.IsTupleIter I l i ∧ Fr h₀ env.locals h' m' ∧ News h₀ env.locals h' news' ∧ (∀ p ∈ news', p.1 ≠ I) ∧ J i m' news' ∧ i ≤ ps.length ∧ m = ps.length + 1 - i := by
      rintro ⟨h', tk', m'', news'', rfl, F'', N'', off'', J''⟩
      exact ⟨ps.length + 1 - (i + 1), by omega, h', tk', m'', news'', i + 1, rfl, ⟨oI, (N'' _ (.head _)).1, rI⟩, F'', fun p hp => N'' p (.tail _ hp), off'', J'', hlt', rfl⟩
    cases f with
    | ret v => exact h₃'
    | brk => exact h₃'
    | next => exact fin h₃'
    | cont => exact fin h₃'
  · have hin : i = ps.length := by omega
    subst hin
    refine wpAny_pyNext_tuple_end hh hit hlH (by simp [hlen]) fun h₂ he₂ => ?_
    obtain ⟨F₂, N₂⟩ := next h₂ fun b o hb e => he₂ b o (by simpa using hb) e
    exact wpAny_passesOwn hE (done m' news' h₂ tk hJ F₂ N₂)
end
end
section
open PySem PySem.W PySem.Calls PySem.Spec PyProof.Rows
set_option maxRecDepth 100000
set_option maxHeartbeats 8000000

/-- the letters of a number, base sixteen, A to P -/
noncomputable def W (n : Nat) : List Nat := if _h : n = 0 then [] else W (n / 16) ++ [65 + n % 16]
termination_by n
decreasing_by omega
theorem W_zero : W 0 = [] := by rw [W]; simp
theorem W_step {n : Nat} (h : n ≠ 0) : W n = W (n / 16) ++ [65 + n % 16] := by rw [W, dif_neg h]
noncomputable def wordOf (n : Nat) : Str := ⟨(W n).toArray⟩
theorem W_len : ∀ (k n : Nat), n < 16 ^ k → (W n).length ≤ k
  | 0, n, h => by
    have : n = 0 := by simpa using h
    subst this; rw [W_zero]; simp
  | k + 1, n, h => by
    by_cases e : n = 0
    · subst e; rw [W_zero]; simp
    · rw [W_step e]
      have : n / 16 < 16 ^ k := by rw [Nat.pow_succ] at h; omega
      have := W_len k (n / 16) this
      simp; omega
theorem W_mem {c : Nat} : ∀ (k n : Nat), n < 16 ^ k → c ∈ W n → 65 ≤ c ∧ c ≤ 80
  | 0, n, h, hc => by
    have : n = 0 := by simpa using h
    subst this; rw [W_zero] at hc; cases hc
  | k + 1, n, h, hc => by
    by_cases e : n = 0
    · subst e; rw [W_zero] at hc; cases hc
    · rw [W_step e] at hc
      have : n / 16 < 16 ^ k := by rw [Nat.pow_succ] at h; omega
      rcases List.mem_append.mp hc with q | q
      · exact W_mem k (n / 16) this q
      · rw [List.mem_singleton.mp q]; omega
theorem item_AP (k : Nat) : Txt.item (Str.ofString "ABCDEFGHIJKLMNOP") ((k : Int).fmod 16) = ⟨#[65 + k % 16]⟩ := by
  have e : (k : Int).fmod 16 = ((k % 16 : Nat) : Int) := by rw [Int.fmod_eq_emod_of_nonneg _ (by decide)]; rfl
  rw [e]
  have h : k % 16 < 16 := Nat.mod_lt _ (by decide)
  generalize k % 16 = j at h
  revert h
  revert j
  decide +kernel

local macro_rules | `(tactic| walk_at "exec While Compare cons nil") => `(tactic| refine Stop.out ?_)

theorem c_spelled (w : World) (n : Nat) (t : Tok) :
    PureC 2 w 142 [.int n t] (fun _ => n < 65536) (fun v _ _ => ∃ t, v = .str (wordOf n) t) := by
  delta PureC Prg KK
  k_fill
  intro p loose mean mg mb dp un gd cn cs a ccd cl outer A₀ base h₀ L m s Q E B F X T hk hd hu hpre hQ
  refine' enter_pure (args := ⟨_, []⟩) (binds := [(PySem.Str.ofString "number", .int n t)]) B F X T rfl rfl hk ?k6 ?k7 ?k8 ?k9 ?kB ?_ ?c5 ?c2 ?c3 ?c4
  case k6 => k_is
  case k7 => k_is
  case k8 => (show dp < _; omega)
  case k9 => exact BindsTo.of_eq rfl
  case c5 => decide
  case kB => exact locs rfl
  case c2 => exact rfl
  case c3 => exact rfl
  case c4 => exact rfl
  clear F X T B
  intro L' h' F' N' B' X' T'
  (try dsimp only [List.reverse_cons, List.reverse_nil, List.nil_append, List.cons_append])

  k_fold
  k_steps
  refine Stop.out ?_
  rename_i h1 F1 N1
  refine While_inv2 (n₀ := n) (fun k m₁ news₁ => news₁ = [] ∧ ∃ (z : Int) (x : Str) (t1 t2 : Tok), Knows m₁ [(Str.ofString "rest", .int z t1), (Str.ofString "word", .str x t2)] ∧ z = (k : Int) ∧ k ≤ n ∧ W k ++ x.cps.toList = W n) F1 N1 ⟨rfl, _, _, _, _, ⟨rfl, rfl, trivial⟩, rfl, Nat.le_refl _, by rw [show (Str.ofString "").cps.toList = [] from by decide +kernel]; simp⟩ ?_ .never
  rintro k m₁ _ h₁ tk₁ F₁ N₁ ⟨rfl, z, x, t1, t2, hm, rfl, hkn, hW⟩
  replace F₁ := Knows.fr F₁ hm
  have hl : x.length ≤ 4 := by
    have h2 := W_len 4 n hpre
    have h1 : x.length = x.cps.toList.length := by simp [Str.length]
    rw [← hW, List.length_append] at h2
    omega
  clear F1
  k_steps
  · rename_i hpos _ _ _ _ _ _ _ F2 N2
    have hk0 : k ≠ 0 := by omega
    refine ⟨_, _, _, _, k / 16, rfl, F2, N2, by omega, rfl, _, _, _, _, ⟨rfl, rfl, trivial⟩, ?_, by omega, ?_⟩
    · rw [Int.fdiv_eq_ediv_of_nonneg _ (by decide)]; rfl
    · rw [item_AP, ← hW, W_step hk0]; rw [cat_list]; simp
  · rename_i hz
    have hk0 : k = 0 := by omega
    subst hk0
    rw [W_zero] at hW
    have : x = wordOf n := str_ext (by unfold wordOf; rw [← hW]; simp)
    exact hQ _ _ _ F₁.keep ⟨t2, by rw [← this]⟩
end
section
open PySem PySem.W PySem.Calls PySem.Spec PyProof.Rows
set_option maxRecDepth 100000
local macro_rules | `(tactic| walk_at "execs cons") => `(tactic| (k_here; (with_reducible show wpAny _ _ _ _ _ (Shared.mk _ _ _ (_ + 1) _)); refine any_toks fun tk => ?_))
local macro_rules | `(tactic| walk_at "execs nil") => `(tactic| (k_here; (with_reducible show wpAny _ _ _ _ _ (Shared.mk _ _ _ (_ + 1) _)); refine any_toks fun tk => ?_))
section
open PySem PySem.W PySem.Calls PySem.Spec PyProof.Rows
set_option maxRecDepth 100000
set_option maxHeartbeats 8000000

theorem get_append_K {prog : Program} {w : World} {A : Around} {E : Value → Shared → Prop} {s : Shared} {h₀ : Heap} {L : Addr} {m : Str → Option Value} {own : List (Addr × Obj)} {l : Addr} {xs : Array Value} {k : Nat} {Q : Value → Shared → Prop} (F : Fr h₀ L s.heap m) (N : News h₀ L s.heap own) (hm : (l, W.listOf xs k) ∈ own)
    (h : ∀ u h' tk, Fr h₀ L h' m → News h₀ L h' ((u, appOf l) :: own) → (∀ p ∈ own, p.1 < u) → Q (.ref u) { s with heap := h', toks := tk }) : wpAny (model prog w) A (getAttr (.ref l) (Str.ofString "append") true) Q E s :=
  get_append (N _ hm).1 fun tk => h _ _ tk (F.push _) (N.push F _) fun p hp => Heap.lt_size (N p hp).1
theorem callWith_app_K {M : Model} {A : Around} {E : Value → Shared → Prop} {s : Shared} {h₀ : Heap} {L : Addr} {own : List (Addr × Obj)} {pos : Pos} {u l : Addr} {env : Env} {e : Expr} {Q : Value → Shared → Prop} (_N : News h₀ L s.heap own) (_hm : (u, appOf l) ∈ own)
    (h : wpAny M A (spliced (backTo pos (starEach [e] env))) (fun vs s₁ => s₁.heap.get? u = some (appOf l) ∧ wpAny M A (call (.ref u) vs) Q E s₁) E s)
    (he : starEach [e] env = (false, eval e env) :: starEach [] env := by rfl) :
    wpAny M A (callWith pos (.ref u) [] (backTo pos (starEach [e] env)) []) Q E s := callWith_app h he
theorem own_at {h₀ h : Heap} {L : Addr} {own : List (Addr × Obj)} {u : Addr} {o : Obj} (N : News h₀ L h own) (hm : (u, o) ∈ own) : h.get? u = some o := (N _ hm).1

local macro_rules | `(tactic| walk_at "getAttr ref") => `(tactic| ((with_reducible rename Fr _ _ _ _ => F8); (with_reducible rename News _ _ _ _ => N8); refine get_append_K F8 N8 (by k_mem) ?_; intro u8 h8 tk8 F9 N9 lt9; replace lt9 := allLt_of lt9; simp only [AllLt, and_true] at lt9; clear F8 N8; (try k_fold)))
local macro_rules | `(tactic| walk_at "compareOp IsNot") => `(tactic| refine isnot_str ?_)
local macro_rules | `(tactic| walk_at "callWith ref") => `(tactic| ((with_reducible rename News _ _ _ _ => N8); refine callWith_app_K N8 (by k_mem) ?_))
local macro_rules | `(tactic| walk_at "And") => `(tactic| ((with_reducible show _ = some (appOf _) ∧ _); (with_reducible rename News _ _ _ _ => N8); refine And.intro (own_at N8 (by k_mem)) ?_))
local macro_rules | `(tactic| walk_at "call ref") => `(tactic| ((with_reducible rename Fr _ _ _ _ => F8); (with_reducible rename News _ _ _ _ => N8); refine' call_app_K F8 N8 (by k_mem) ?kU ?_ ?kz; (case kU => k_upd); (case kz => (rw [sizeLine_eq]; simp)); intro h8 F9 N9; clear F8 N8; (try k_fold)))
theorem join_one (x : Str) : Txt.join (Str.ofString "") [x] = x := by
  rw [txt_join]; rfl
local macro_rules | `(tactic| walk_at "call builtin:str.join") => `(tactic| refine Stop.out ?_)
noncomputable def framedS (x : Str) : Str := Str.ofString "(?s:" ++ x ++ Str.ofString ")\\Z"
theorem c_joined (w : World) (lp star : Addr) (x : Str) (t : Tok) :
    PureC 4 w 69 [.ref lp, .ref star] (fun h => h.IsList lp #[.str x t] ∧ x.length ≤ 1000) (fun v h h' => ∃ t, v = .str (framedS x) t) := by
  delta PureC Prg KK
  k_fill
  intro p loose mean mg mb dp un gd cn cs a ccd cl outer A₀ base h₀ L m s Q E B F X T hk hd hu hpre hQ
  refine' enter_pure (args := ⟨_, []⟩) (binds := [(PySem.Str.ofString "inp", .ref lp), (PySem.Str.ofString "STAR", .ref star)]) B F X T rfl rfl hk ?k6 ?k7 ?k8 ?k9 ?kB ?_ ?c5 ?c2 ?c3 ?c4
  case k6 => k_is
  case k7 => k_is
  case k8 => (show dp < _; omega)
  case k9 => exact BindsTo.of_eq rfl
  case c5 => decide
  case kB => exact locs rfl
  case c2 => exact rfl
  case c3 => exact rfl
  case c4 => exact rfl
  clear F X T B
  intro L' h' F' N' B' X' T'
  (try dsimp only [List.reverse_cons, List.reverse_nil, List.nil_append, List.cons_append])

  k_fold
  obtain ⟨hl, hx⟩ := hpre
  have hl' := hl.at fun o e => F'.keep _ _ e
  k_steps
  · exact own_at (by assumption) (by k_mem)
  · refine unstop ?_
    rename Fr _ _ _ _ => F9
    rename News _ _ _ _ => N9
    refine join_list (ys := [x]) (News.isList N9 (by k_mem)) (.cons _ _ .nil) ?_ fun t' k => ?_
    · simp; rw [show (Str.ofString "").length = 0 from by decide +kernel]; omega
    · rw [join_one]
      k_steps
      rename Fr _ _ _ _ => FF
      show Q _ _
      exact hQ _ _ _ FF.keep ⟨_, by unfold framedS; rw [Str.empty_append]⟩
  · exfalso
    rename ¬ (0 : Int) < _ => hh
    exact hh (by show (0 : Int) < 1; decide)
end
section
open PySem PySem.W PySem.Calls PySem.Spec PyProof.Rows
set_option maxRecDepth 100000
set_option maxHeartbeats 8000000

theorem c_sign1 (w : World) (x : Str) (k : Nat) (t0 t1 : Tok) :
    PureC 4 w 175 [.str x t0, .int ((k : Int) + 1) t1] (fun _ => x.length ≤ 100 ∧ k + 1 ≤ 1000)
      (fun v h h' => ∃ ta tb, NewAt h h' v { cls := .type "tuple", data := .seq #[.str (signS x (k + 1)).1 ta, .int ((signS x (k + 1)).2 : Nat) tb] }) := c_sign w x (k + 1) t0 t1
local macro_rules | `(tactic| walk_at "call ref") => `(tactic| (k_here; (with_reducible show wpAny _ _ (call (Value.ref 175) _) _ _ _); (with_reducible rename Fr _ _ _ _ => F8); (refine' use (c_sign1 _ _ _ _ _) (by k_asm) (by k_asm) (by k_asm) (by k_asm) (by k_asm) rfl (by ktr_room) (by ktr_units) (by exact ⟨by assumption, by omega⟩) ?_); intro v9 h9 tk9 hP9 st9 F9 N9; obtain ⟨ta9, tb9, hn9⟩ := hP9; obtain ⟨a9, e9, M9⟩ := hn9.news F8 N9; clear N9; subst e9; (try dsimp only); (try k_fold)))
local macro_rules | `(tactic| walk_at "call ref") => `(tactic| (k_here; (with_reducible show wpAny _ _ (call (Value.ref 175) _) _ _ _); (with_reducible rename Fr _ _ _ _ => F8); (refine' use (c_sign _ _ _ _ _) (by k_asm) (by k_asm) (by k_asm) (by k_asm) (by k_asm) rfl (by ktr_room) (by ktr_units) (by exact ⟨by assumption, by omega⟩) ?_); intro v9 h9 tk9 hP9 st9 F9 N9; obtain ⟨ta9, tb9, hn9⟩ := hP9; obtain ⟨a9, e9, M9⟩ := hn9.news F8 N9; clear N9; subst e9; (try dsimp only); (try k_fold)))

local macro_rules | `(tactic| walk_at "exec While Compare cons nil") => `(tactic| refine Stop.out ?_)
local macro_rules | `(tactic| walk_at "call builtin:list.append") => `(tactic| refine Stop.out ?_)
theorem c_read (w : World) (x : Str) (t : Tok) :
    PureC 8 w 182 [.str x t] (fun _ => x.length ≤ 100) (fun v h h' => Ranges h h' v (readAt x 0)) := by
  delta PureC Prg KK
  k_fill
  intro p loose mean mg mb dp un gd cn cs a ccd cl outer A₀ base h₀ L m s Q E B F X T hk hd hu hpre hQ
  refine' enter_pure (args := ⟨_, []⟩) (binds := [(PySem.Str.ofString "inner", .str x t)]) B F X T rfl rfl hk ?k6 ?k7 ?k8 ?k9 ?kB ?_ ?c5 ?c2 ?c3 ?c4
  case k6 => k_is
  case k7 => k_is
  case k8 => (show dp < _; omega)
  case k9 => exact BindsTo.of_eq rfl
  case c5 => decide
  case kB => exact locs rfl
  case c2 => exact rfl
  case c3 => exact rfl
  case c4 => exact rfl
  clear F X T B
  intro L' h' F' N' B' X' T'
  (try dsimp only [List.reverse_cons, List.reverse_nil, List.nil_append, List.cons_append])

  k_fold
  have hcs : x.cps.size = x.length := rfl
  k_steps
  refine unstop ?_
  rename Fr _ _ _ _ => F1
  rename News _ _ _ _ => N1
  refine While_inv2 (n₀ := x.length) (fun j m₁ news₁ => ∃ (k : Nat) (D : Addr) (vs : List Value) (ps : List (Str × Str)) (tups : List (Addr × Obj)) (t1 : Tok) (n : Nat), j = x.length - k ∧ news₁ = (D, listOf vs.toArray n) :: tups ∧ (∀ p ∈ tups, p.1 ≠ D) ∧
    Knows m₁ [(Str.ofString "inner", .str x t), (Str.ofString "ranges", .ref D), (Str.ofString "at", .int k t1)] ∧ Rngs tups vs ps ∧ ps ++ readAt x k = readAt x 0 ∧ ps.length ≤ k ∧ k ≤ x.length + 5) F1 N1
    ⟨0, _, [], [], [], _, 0, by omega, rfl, (fun _ h => nomatch h), ⟨rfl, rfl, rfl, trivial⟩, .nil, rfl, Nat.le_refl _, Nat.zero_le _⟩ ?_ .never
  rintro j m₁ _ h₁ tk₁ F₁ N₁ ⟨k, D, vs, ps, tups, t1, n, rfl, rfl, hD, hm, hR, hT, hkl, hk3⟩
  replace F₁ := Knows.fr F₁ hm
  have hg := signS_gt x k
  have hg2 := signS_gt x ((signS x k).2 + 1)
  clear F1 N1
  k_steps
  · refine unstop ?_
    rename Fr _ _ _ _ => F8
    rename News _ _ _ _ => N8
    rename Rngs _ _ _ => hR2
    rename _ ∧ _ ∧ _ ∧ AllLt _ _ => l8
    rename (k : Int) < _ => hl0
    rename (_ == _) = true => hc
    rename ((signS x k).2 : Int) + 1 < _ => hl
    rw [slice_one] at hc
    replace N8 := drop2 (drop2 N8)
    have hpl := hR2.len
    refine append_K F8 N8 (Upd.tail (Nat.ne_of_gt l8.2.2.1) (Upd.head hD)) ?_ (by rw [sizeLine_eq, List.size_toArray, hpl]; omega)
    intro h9 F9 N9
    clear F8 N8
    dsimp only
    k_steps
    rename Fr _ _ _ _ => F2
    rename News _ _ _ _ => N2
    obtain ⟨vs', tups', N3, hD3, hR3⟩ := told_turn N2 l8.2.2.1 hD hR2
    refine ⟨_, _, _, _, x.length - (signS x ((signS x k).2 + 1)).2, rfl, F2, N3, by omega, (signS x ((signS x k).2 + 1)).2, _, _, _, _, _, _, rfl, rfl, hD3, ⟨rfl, rfl, rfl, trivial⟩, hR3, ?_, ?_, by omega⟩
    · rw [List.append_assoc, ← hT, readAt_range (k := k) (by omega) hc (by omega)]; rfl
    · simp; omega
  · refine unstop ?_
    rename Fr _ _ _ _ => F8
    rename News _ _ _ _ => N8
    rename Rngs _ _ _ => hR2
    rename _ ∧ _ ∧ AllLt _ _ => l8
    rename (k : Int) < _ => hl0
    rename ¬ ((signS x k).2 : Int) + 1 < _ => hl
    replace N8 := drop2 N8
    have hpl := hR2.len
    refine append_K F8 N8 (Upd.tail (Nat.ne_of_gt l8.2.1) (Upd.head hD)) ?_ (by rw [sizeLine_eq, List.size_toArray, hpl]; omega)
    intro h9 F9 N9
    clear F8 N8
    dsimp only
    k_steps
    rename Fr _ _ _ _ => F2
    rename News _ _ _ _ => N2
    obtain ⟨vs', tups', N3, hD3, hR3⟩ := told_turn N2 l8.2.1 hD hR2
    refine ⟨_, _, _, _, x.length - (signS x k).2, rfl, F2, N3, by omega, (signS x k).2, _, _, _, _, _, _, rfl, rfl, hD3, ⟨rfl, rfl, rfl, trivial⟩, hR3, ?_, ?_, by omega⟩
    · rw [List.append_assoc, ← hT, readAt_one (k := k) (by omega) (.inr (by omega))]; rfl
    · simp; omega
  · refine unstop ?_
    rename Fr _ _ _ _ => F8
    rename News _ _ _ _ => N8
    rename Rngs _ _ _ => hR2
    rename _ ∧ _ ∧ AllLt _ _ => l8
    rename (k : Int) < _ => hl0
    rename (_ == _) = false => hc
    rw [slice_one] at hc
    replace N8 := drop2 N8
    have hpl := hR2.len
    refine append_K F8 N8 (Upd.tail (Nat.ne_of_gt l8.2.1) (Upd.head hD)) ?_ (by rw [sizeLine_eq, List.size_toArray, hpl]; omega)
    intro h9 F9 N9
    clear F8 N8
    dsimp only
    k_steps
    rename Fr _ _ _ _ => F2
    rename News _ _ _ _ => N2
    obtain ⟨vs', tups', N3, hD3, hR3⟩ := told_turn N2 l8.2.1 hD hR2
    refine ⟨_, _, _, _, x.length - (signS x k).2, rfl, F2, N3, by omega, (signS x k).2, _, _, _, _, _, _, rfl, rfl, hD3, ⟨rfl, rfl, rfl, trivial⟩, hR3, ?_, ?_, by omega⟩
    · rw [List.append_assoc, ← hT, readAt_one (k := k) (by omega) (.inl hc)]; rfl
    · simp; omega
  · rename Fr _ _ _ _ => F2
    rename News _ _ _ _ => N2
    rename Rngs _ _ _ => hR2
    rename ¬ (k : Int) < _ => hl0
    show Q _ _
    refine hQ _ _ _ F2.keep ?_
    rw [readAt_end (by omega), List.append_nil] at hT
    rw [hT] at hR2
    exact ranges_of N2 hR2
end
section
open PySem PySem.W PySem.Calls PySem.Spec PyProof.Rows
set_option maxRecDepth 100000
set_option maxHeartbeats 8000000

noncomputable def rng (lo hi : Str) : Str := Txt.slice (Str.ofString "-0?ABCDEFGHIJKLMNOPQST_abcdlpqrstuwxz") (some (Txt.find (Str.ofString "-0?ABCDEFGHIJKLMNOPQST_abcdlpqrstuwxz") lo)) (some (Txt.find (Str.ofString "-0?ABCDEFGHIJKLMNOPQST_abcdlpqrstuwxz") hi + 1))
noncomputable def takS (ps : List (Str × Str)) : Str := ps.foldl (fun acc p => acc ++ rng p.1 p.2) (Str.ofString "")
noncomputable def takenS (ps : List (Str × Str)) (barred : Bool) : Str := ⟨((Str.ofString "-0?ABCDEFGHIJKLMNOPQST_abcdlpqrstuwxz").cps.toList.filter fun c => (Txt.contains (takS ps) ⟨#[c]⟩) != barred).toArray⟩
theorem sig_len : (Str.ofString "-0?ABCDEFGHIJKLMNOPQST_abcdlpqrstuwxz").length = 37 := by decide +kernel
theorem rng_len (lo hi : Str) : (rng lo hi).length ≤ 37 := by
  have := Txt.slice_le (Str.ofString "-0?ABCDEFGHIJKLMNOPQST_abcdlpqrstuwxz") (some (Txt.find (Str.ofString "-0?ABCDEFGHIJKLMNOPQST_abcdlpqrstuwxz") lo)) (some (Txt.find (Str.ofString "-0?ABCDEFGHIJKLMNOPQST_abcdlpqrstuwxz") hi + 1))
  rw [sig_len] at this
  exact this
theorem takS_snoc (ps : List (Str × Str)) (lo hi : Str) : takS (ps ++ [(lo, hi)]) = takS ps ++ rng lo hi := by simp [takS]
theorem takS_take {ps : List (Str × Str)} {i : Nat} {lo hi : Str} (h : ps[i]? = some (lo, hi)) : takS (ps.take (i + 1)) = takS (ps.take i) ++ rng lo hi := by
  rw [List.take_add_one, h]
  exact takS_snoc _ _ _
theorem takS_len : ∀ (ps : List (Str × Str)) (acc : Str), (ps.foldl (fun acc p => acc ++ rng p.1 p.2) acc).length ≤ acc.length + 37 * ps.length
  | [], acc => by simp
  | p :: r, acc => by
    rw [List.foldl_cons]
    have h1 := takS_len r (acc ++ rng p.1 p.2)
    have h2 := rng_len p.1 p.2
    rw [Str.length_append] at h1
    rw [List.length_cons]
    omega

local macro_rules | `(tactic| walk_at "exec For Tuple Name") => `(tactic| refine Stop.out ?_)
local macro_rules | `(tactic| walk_at "call builtin:str.join") => `(tactic| refine Stop.out ?_)
local macro_rules | `(tactic| walk_at "eval ListComp") => `(tactic| refine Stop.out ?_)
theorem c_taken (w : World) (la : Addr) (vs : List Value) (ps : List (Str × Str)) (barred : Bool) :
    PureC 4 w 161 [.ref la, .bool barred] (fun h => RowsIn h la vs ps ∧ ps.length ≤ 100) (fun v h h' => ∃ t, v = .str (takenS ps barred) t) := by
  delta PureC Prg KK
  k_fill
  intro p loose mean mg mb dp un gd cn cs a ccd cl outer A₀ base h₀ L m s Q E B F X T hk hd hu hpre hQ
  refine' enter_pureC (args := ⟨_, []⟩) (binds := [(PySem.Str.ofString "ranges", .ref la), (PySem.Str.ofString "barred", .bool barred)]) B F X T rfl rfl hk ?k6 ?k7 ?k8 ?k9 ?kB ?kD ?_ ?c2 ?c3 ?c4
  case k6 => k_is
  case k7 => k_is
  case k8 => (show dp < _; omega)
  case k9 => exact BindsTo.of_eq rfl
  case kB => exact rfl
  case kD => decide +kernel
  case c2 => exact rfl
  case c3 => exact rfl
  case c4 => exact rfl
  clear F X T B
  intro L' h' tk' cells' F' N' Y' B' X' T'
  k_cells Y'
  (try simp only [List.cons_append, List.nil_append] at N')
  (try dsimp only)

  (try k_unmd)
  k_fold
  obtain ⟨hrow, hpl⟩ := hpre
  k_steps
  refine unstop ?_
  rename Fr _ _ _ _ => F1
  rename News _ _ _ _ => N1
  rename (_ = Data.cell (some (Value.str _ _))) => d1
  rename (_ = Data.cell (some (Value.bool _))) => d2
  have hlen : ∀ i, (takS (ps.take i)).length ≤ 3700 := fun i => by
    have := takS_len (ps.take i) (Str.ofString "")
    have h0 : (Str.ofString "").length = 0 := by decide +kernel
    have h2 : (ps.take i).length ≤ ps.length := by simp; omega
    unfold takS
    omega
  have hsig := sig_len
  refine For_rows (h₀ := s.heap) (fun i m₁ news₁ => ∃ o1 o2 t1 t2, news₁ = [(L' + 1 + 1, o1), (L' + 1, o2)] ∧ o1.data = Data.cell (some (.str (takS (ps.take i)) t1)) ∧ o2.data = Data.cell (some (.bool barred)) ∧
    Knows m₁ [(Str.ofString "signs", .str (Str.ofString "-0?ABCDEFGHIJKLMNOPQST_abcdlpqrstuwxz") t2), (Str.ofString "ranges", .ref la)]) rfl hrow F1 N1 ⟨_, _, _, _, rfl, d1, d2, ⟨rfl, rfl, trivial⟩⟩ rfl rfl rfl ?_ ?_ ?_ (hE := .never)
  · k_steps
  · clear F1 N1 d1 d2
    rintro i lo hi ta tb m₁ _ h₁ tk₁ I oI hps hoff ⟨o1, o2, t1, t2, rfl, d1, d2, hm⟩ F₁ N₁
    replace F₁ := Knows.fr2 F₁ hm
    have hl1 := hlen i
    have hI1 : @Ne Nat (L' + 1 + 1) I := hoff (L' + 1 + 1, o1) (.head _)
    have hI2 : @Ne Nat (L' + 1) I := hoff (L' + 1, o2) (.tail _ (.head _))
    k_steps
    rename Fr _ _ _ _ => F2
    rename News _ _ _ _ => N2
    rename (_ = Data.cell (some (Value.str _ _))) => d3
    have et := takS_take hps
    unfold rng at et
    rw [← et] at d3
    refine ⟨_, _, _, _, rfl, F2, N2, ?_, ⟨_, _, _, _, rfl, d3, d2, ⟨rfl, rfl, trivial⟩⟩⟩
    · intro p hp
      rcases List.mem_cons.mp hp with rfl | hp
      · exact hoff (_, o1) (.head _)
      · exact hoff p (.tail _ hp)
  · clear F1 N1 d1 d2
    rintro m₁ _ h₁ tk₁ ⟨o1, o2, t1, t2, rfl, d1, d2, hm⟩ F₁ N₁
    replace F₁ := Knows.fr F₁ hm
    rw [List.take_length] at d1
    have hl1 := hlen ps.length
    rw [List.take_length] at hl1
    k_steps
    refine unstop ?_
    refine lc_eval (chrP fun c => (Txt.contains (takS ps) ⟨#[c]⟩) != barred) (chrF fun c y => ∃ t, y = .str ⟨#[c]⟩ t) rfl (by decide) rfl (by decide) rfl ?_
    k_steps
    rename Fr _ _ _ _ => F1
    rename News _ _ _ _ => N1
    refine lc_str _ _ ?g0 ?g1 ?g2 ?g3 ?g4
    case g0 => exact rfl
    case g1 =>
      rw [sizeLine_eq]
      have h0 : (Str.ofString "-0?ABCDEFGHIJKLMNOPQST_abcdlpqrstuwxz").cps.size = 37 := sig_len
      omega
    case g2 =>
      intro C c u h g d k o m₃ E' hc hC hns hm hkk
      have cF' := Fr.keeps F1 hkk
      have cN' := News.grown N1 hkk
      have cE' := InElt.start h
      refine wpAny_tests_one ?_
      k_steps
      exact ⟨_, _, rfl, fun _ _ e => e⟩
    case g3 =>
      intro C c u h g d k o m₃ E' hc hp hC hns hm hkk
      have cF' := Fr.keeps F1 hkk
      have cN' := News.grown N1 hkk
      have cE' := InElt.start h
      k_steps
      exact ⟨_, _, rfl, fun _ _ e => e⟩
    case g4 =>
      intro D h1 tk1 ys hD hpl hF hkk
      have cF' := Fr.keeps F1 hkk
      have cN' := News.grown N1 hkk
      have hs := paired_strs hF
      clear F1 N1 hF
      k_steps
      refine unstop ?_
      refine join_list hpl.isList (by simpa using hs) ?_ fun t' k => ?_
      · rw [sum_ones _ _ fun _ _ => rfl, List.length_map, show (Str.ofString "").length = 0 from by decide +kernel]
        have h2 := List.length_filter_le (fun c => (Txt.contains (takS ps) ⟨#[c]⟩) != barred) (Str.ofString "-0?ABCDEFGHIJKLMNOPQST_abcdlpqrstuwxz").cps.toList
        have h3 : (Str.ofString "-0?ABCDEFGHIJKLMNOPQST_abcdlpqrstuwxz").cps.toList.length = 37 := by rw [← len_list]; exact sig_len
        omega
      · rw [(txt_join _ _).trans (join_chars _)]
        exact hQ _ _ _ cF'.keep ⟨_, rfl⟩
end
section
open PySem PySem.W PySem.Calls PySem.Spec PyProof.Rows
set_option maxRecDepth 100000
set_option maxHeartbeats 8000000
local macro_rules | `(tactic| walk_at "call ref") => `(tactic| (k_here; (with_reducible show wpAny _ _ (call (Value.ref 182) _) _ _ _); (with_reducible rename Fr _ _ _ _ => F8); (refine' use (c_read _ _ _) (by k_asm) (by k_asm) (by k_asm) (by k_asm) (by k_asm) rfl (by ktr_room) (by ktr_units) (by omega) ?_); intro v9 h9 tk9 hP9 st9 F9 N9; obtain ⟨a9, vs9, k9, tups9, e9, R9, Fh9⟩ := hP9; have M9 := Fh9.news F8 N9; clear N9; subst e9; (try dsimp only); (try k_fold)))

local macro_rules | `(tactic| walk_at "eval Name") => `(tactic| ((with_reducible show wpAny _ _ (eval (Expr.Name _ _) (compEnvC _ _ _ _)) _ _ _); refine Stop.out ?_))
local macro_rules | `(tactic| walk_at "eval ListComp") => `(tactic| refine Stop.out ?_)
local macro_rules | `(tactic| walk_at "compareOp NotEq ref ref") => `(tactic| refine Stop.out ?_)
noncomputable def innerS (x : Str) (bd : Bool) : Str := (if bd then Txt.slice (Txt.slice x (some 4) (some (-3))) (some 2) (some (-1)) else Txt.slice (Txt.slice x (some 4) (some (-3))) (some 1) (some (-1)))
theorem inner_t (x : Str) : innerS x true = Txt.slice (Txt.slice x (some 4) (some (-3))) (some 2) (some (-1)) := by unfold innerS; rw [if_pos rfl]
theorem inner_f (x : Str) : innerS x false = Txt.slice (Txt.slice x (some 4) (some (-3))) (some 1) (some (-1)) := by unfold innerS; rw [if_neg Bool.false_ne_true]
theorem c_takenR {w : World} {h : Heap} {la : Addr} {vs : List Value} {ps : List (Str × Str)} (barred : Bool) (_ : RowsIn h la vs ps) (_ : ps.length ≤ 100) :
    PureC 4 w 161 [.ref la, .bool barred] (fun h => RowsIn h la vs ps ∧ ps.length ≤ 100) (fun v h h' => ∃ t, v = .str (takenS ps barred) t) := c_taken w la vs ps barred
theorem ne_empty {prog : Program} {w : World} {A : Around} {E : Value → Shared → Prop} {s : Shared} {D : Addr} {kD : Nat} {h₀ : Heap} {L : Addr} {m : Str → Option Value} {news : List (Addr × Obj)} {Q : Value → Shared → Prop} (F : Fr h₀ L s.heap m) (N : News h₀ L s.heap ((D, listOf #[] kD) :: news)) (hu : A.units + 64 < cLine)
    (h : ∀ h' l, Fr h₀ L h' m → News h₀ L h' ((l, listOf #[] 0) :: (D, listOf #[] kD) :: news) → Q (.bool false) { s with heap := h' }) :
    wpAny (model prog w) A (newList []) (fun b s₂ => wpAny (model prog w) A (compareOp .NotEq (.ref D) b) Q E s₂) E s := by
  refine newList_K F N fun l h' F' N' _ => ?_
  refine ke_ne_ints (xs := []) (ys := []) (ns := []) (ms := []) ⟨_, (N' _ (.tail _ (.head _))).1, rfl, _, rfl⟩ ⟨_, (N' _ (.head _)).1, rfl, _, rfl⟩ .nil .nil hu ?_
  exact h h' l F' N'
structure Framed (x : Str) (bd : Bool) : Prop where
  len : x.length ≤ 100
  hlen : (readAt (innerS x bd) 0).length ≤ 100
  hA : (Txt.slice x none (some 4) == Str.ofString "(?s:") = true
  hB : (Txt.slice x (some (-3)) none == Str.ofString ")\\Z") = true
  hC : (Txt.slice (Txt.slice x (some 4) (some (-3))) none (some 1) == Str.ofString "[") = true
  hD : (Txt.slice (Txt.slice x (some 4) (some (-3))) (some (-1)) none == Str.ofString "]") = true
  hE : (Txt.slice (Txt.slice x (some 4) (some (-3))) (some 1) (some 2) == Str.ofString "^") = bd
  hF : (Builtin.Str.occurrences (innerS x bd) (Str.ofString "]") 0 (innerS x bd).length 1).isEmpty = true
  hG : ∀ p ∈ readAt (innerS x bd) 0, ¬ (p.2.cps.toList < p.1.cps.toList)
theorem c_members (w : World) (x : Str) (bd : Bool) (t : Tok) :
    PureC 12 w 187 [.str x t] (fun h => Framed x bd) (fun v h h' => ∃ t, v = .str (takenS (readAt (innerS x bd) 0) bd) t) := by
  delta PureC Prg KK
  k_fill
  intro p loose mean mg mb dp un gd cn cs a ccd cl outer A₀ base h₀ L m s Q E B F X T hk hd hu hpre hQ
  refine' enter_pure (args := ⟨_, []⟩) (binds := [(PySem.Str.ofString "text", .str x t)]) B F X T rfl rfl hk ?k6 ?k7 ?k8 ?k9 ?kB ?_ ?c5 ?c2 ?c3 ?c4
  case k6 => k_is
  case k7 => k_is
  case k8 => (show dp < _; omega)
  case k9 => exact BindsTo.of_eq rfl
  case c5 => decide
  case kB => exact locs rfl
  case c2 => exact rfl
  case c3 => exact rfl
  case c4 => exact rfl
  clear F X T B
  intro L' h' F' N' B' X' T'
  (try dsimp only [List.reverse_cons, List.reverse_nil, List.nil_append, List.cons_append])

  k_fold
  have hxl := hpre.len
  k_steps
  · exfalso
    with_reducible rename (_ != _) = true => h
    rw [bne, hpre.hA] at h
    cases h
  · exfalso
    with_reducible rename (_ != _) = true => h
    rw [bne, hpre.hB] at h
    cases h
  · exfalso
    with_reducible rename (_ != _) = true => h
    rw [bne, hpre.hC] at h
    cases h
  · exfalso
    with_reducible rename (_ != _) = true => h
    rw [bne, hpre.hD] at h
    cases h
  · refine unstop ?_
    with_reducible rename (_ == Str.ofString "^") = true => hb
    have hbd : bd = true := hpre.hE.symm.trans hb
    subst hbd
    have hG := hpre.hG
    rw [inner_t] at hG
    with_reducible rename Fr _ _ _ _ => F8
    with_reducible rename News _ _ _ _ => N8
    with_reducible rename Rngs _ _ _ => R8
    refine lc_none rfl (rowsIn_of R8 fun p hp => (N8 p (List.mem_append_left _ hp)).1) rfl (by decide) rfl (by decide) rfl rfl (by decide +kernel) ?hev ?tests ?fin
    case hev =>
      k_steps
    case tests =>
      intro C lo hi ta tb h g d k o m₃ E' hmem hC hns hma hmb hkk
      have cF' := Fr.keeps F8 hkk
      have cN' := News.grown N8 hkk
      have cE' := InElt.start h
      k_steps
      refine unstop ?_
      with_unfolding_all refine ldVarK hns hmb ?_
      k_steps
      refine unstop ?_
      with_unfolding_all refine ldVarK hns hma ?_
      walk1
      walk1
      exact ⟨decide_eq_false (hG (lo, hi) hmem), _, _, rfl, fun _ _ e => e⟩
    case fin =>
      intro D h1 tk1 hD hpl hkk
      have cF' := Fr.keeps F8 hkk
      have cN' := News.grown N8 hkk
      obtain ⟨kD, eD⟩ := hpl
      have cM : News s.heap L' h1 ((D, listOf #[] kD) :: ((_ :: _) ++ [])) := fun p hp => by
        rcases List.mem_cons.mp hp with rfl | hp
        · refine ⟨eD, ?_, ?_⟩
          · intro e
            obtain ⟨oL, _, _, hL, _⟩ := F8.ns
            have e' : D = L' := e
            rw [← e'] at hL
            have hD' : _ = none := hD
            rw [hL] at hD'; cases hD'
          · cases q : s.heap.get? D with
            | none => rfl
            | some o' =>
              have hD' : _ = none := hD
              have := F8.keep _ _ q
              rw [this] at hD'; cases hD'
        · exact cN' p hp
      clear F8 N8 cN'
      have hlen9 := hpre.hlen
      rw [inner_t] at hlen9
      clear eD hkk hD hG
      walk1
      walk1
      refine ne_empty cF' cM (by ktr_units) ?_
      clear cF' cM
      intro h2 l2 F2 N2
      iterate 17 walk1
      have RW := rowsIn_of R8 fun p hp => (N2 p (List.mem_cons_of_mem _ (List.mem_cons_of_mem _ (List.mem_append_left _ hp)))).1
      refine' use (c_takenR _ RW hlen9) ?k1 ?k2 ?k3 ?k4 ?k5 ?k6 ?kd ?ku ?kp ?_
      case k1 => k_asm
      case k2 => k_asm
      case k3 => k_asm
      case k4 => k_asm
      case k5 => k_asm
      case k6 => exact rfl
      case kd => ktr_room
      case ku => ktr_units
      case kp => exact ⟨RW, hlen9⟩
      intro v9 h9 tk9 hP9 st9 F9 N9
      obtain ⟨t9, e9⟩ := hP9
      subst e9
      show Q _ _
      refine hQ _ _ _ F9.keep ⟨t9, ?_⟩
      rw [inner_t, hb]
  · exfalso
    with_reducible rename (_ == Str.ofString "^") = true => hb
    have hbd : bd = true := hpre.hE.symm.trans hb
    subst hbd
    with_reducible rename List.isEmpty _ = false => h
    have hF := hpre.hF
    rw [inner_t] at hF
    rw [hF] at h
    cases h
  · refine unstop ?_
    with_reducible rename (_ == Str.ofString "^") = false => hb
    have hbd : bd = false := hpre.hE.symm.trans hb
    subst hbd
    have hG := hpre.hG
    rw [inner_f] at hG
    with_reducible rename Fr _ _ _ _ => F8
    with_reducible rename News _ _ _ _ => N8
    with_reducible rename Rngs _ _ _ => R8
    refine lc_none rfl (rowsIn_of R8 fun p hp => (N8 p (List.mem_append_left _ hp)).1) rfl (by decide) rfl (by decide) rfl rfl (by decide +kernel) ?hev ?tests ?fin
    case hev =>
      k_steps
    case tests =>
      intro C lo hi ta tb h g d k o m₃ E' hmem hC hns hma hmb hkk
      have cF' := Fr.keeps F8 hkk
      have cN' := News.grown N8 hkk
      have cE' := InElt.start h
      k_steps
      refine unstop ?_
      with_unfolding_all refine ldVarK hns hmb ?_
      k_steps
      refine unstop ?_
      with_unfolding_all refine ldVarK hns hma ?_
      walk1
      walk1
      exact ⟨decide_eq_false (hG (lo, hi) hmem), _, _, rfl, fun _ _ e => e⟩
    case fin =>
      intro D h1 tk1 hD hpl hkk
      have cF' := Fr.keeps F8 hkk
      have cN' := News.grown N8 hkk
      obtain ⟨kD, eD⟩ := hpl
      have cM : News s.heap L' h1 ((D, listOf #[] kD) :: ((_ :: _) ++ [])) := fun p hp => by
        rcases List.mem_cons.mp hp with rfl | hp
        · refine ⟨eD, ?_, ?_⟩
          · intro e
            obtain ⟨oL, _, _, hL, _⟩ := F8.ns
            have e' : D = L' := e
            rw [← e'] at hL
            have hD' : _ = none := hD
            rw [hL] at hD'; cases hD'
          · cases q : s.heap.get? D with
            | none => rfl
            | some o' =>
              have hD' : _ = none := hD
              have := F8.keep _ _ q
              rw [this] at hD'; cases hD'
        · exact cN' p hp
      clear F8 N8 cN'
      have hlen9 := hpre.hlen
      rw [inner_f] at hlen9
      clear eD hkk hD hG
      walk1
      walk1
      refine ne_empty cF' cM (by ktr_units) ?_
      clear cF' cM
      intro h2 l2 F2 N2
      iterate 17 walk1
      have RW := rowsIn_of R8 fun p hp => (N2 p (List.mem_cons_of_mem _ (List.mem_cons_of_mem _ (List.mem_append_left _ hp)))).1
      refine' use (c_takenR _ RW hlen9) ?k1 ?k2 ?k3 ?k4 ?k5 ?k6 ?kd ?ku ?kp ?_
      case k1 => k_asm
      case k2 => k_asm
      case k3 => k_asm
      case k4 => k_asm
      case k5 => k_asm
      case k6 => exact rfl
      case kd => ktr_room
      case ku => ktr_units
      case kp => exact ⟨RW, hlen9⟩
      intro v9 h9 tk9 hP9 st9 F9 N9
      obtain ⟨t9, e9⟩ := hP9
      subst e9
      show Q _ _
      refine hQ _ _ _ F9.keep ⟨t9, ?_⟩
      rw [inner_f, hb]
  · exfalso
    with_reducible rename (_ == Str.ofString "^") = false => hb
    have hbd : bd = false := hpre.hE.symm.trans hb
    subst hbd
    with_reducible rename List.isEmpty _ = false => h
    have hF := hpre.hF
    rw [inner_f] at hF
    rw [hF] at h
    cases h
end
section
open PySem PySem.W PySem.Calls PySem.Spec PyProof.Rows
set_option maxRecDepth 100000
set_option maxHeartbeats 8000000

noncomputable def fmItems : Array Value := #[.ref 91, .ref 93, .ref 95, .ref 99, .ref 101, .ref 103, .ref 107, .ref 109, .ref 111, .ref 115]
noncomputable def fmAlts : List (List (Nat × Nat)) := [[(40960, 108), (49152, 115), (32768, 45), (24576, 98), (16384, 100), (8192, 99), (4096, 112)], [(256, 114)], [(128, 119)], [(2112, 115), (2048, 83), (64, 120)], [(32, 114)], [(16, 119)], [(1032, 115), (1024, 83), (8, 120)], [(4, 114)], [(2, 119)], [(513, 116), (512, 84), (1, 120)]]
/-- the rows of a table of the program -/
inductive AltRows (h : Heap) : List Value → List (Value × Value) → List (Nat × Nat) → Prop
  | nil : AltRows h [] [] []
  | cons {T : Addr} {b c : Nat} {t t' : Tok} {y : Str} {vs : List Value} {ps : List (Value × Value)} {as : List (Nat × Nat)} : h.IsTuple T #[.int b t, .str y t'] → y = ⟨#[c]⟩ → AltRows h vs ps as → AltRows h (.ref T :: vs) ((.int b t, .str ⟨#[c]⟩ t') :: ps) ((b, c) :: as)
theorem AltRows.len {h : Heap} : ∀ {vs ps as}, AltRows h vs ps as → vs.length = ps.length ∧ ps.length = as.length
  | _, _, _, .nil => ⟨rfl, rfl⟩
  | _, _, _, .cons _ _ r => by have := r.len; simp [this.1, this.2]
theorem AltRows.row {h : Heap} : ∀ {vs ps as}, AltRows h vs ps as → ∀ (i : Nat) (v : Value), vs[i]? = some v → ∃ T x y, v = .ref T ∧ ps[i]? = some (x, y) ∧ h.IsTuple T #[x, y]
  | _, _, _, .nil, i, v, e => by simp at e
  | _, _, _, .cons m q r, 0, v, e => by cases e; subst q; exact ⟨_, _, _, rfl, rfl, m⟩
  | _, _, _, .cons m q r, i + 1, v, e => by
    obtain ⟨T, x, y, h1, h2, h3⟩ := r.row i v (by simpa using e)
    exact ⟨T, x, y, h1, by simpa using h2, h3⟩
theorem AltRows.alt {h : Heap} : ∀ {vs ps as}, AltRows h vs ps as → ∀ (i : Nat) (x y : Value), ps[i]? = some (x, y) → ∃ b c t t', x = .int ((b : Nat) : Int) t ∧ y = .str ⟨#[c]⟩ t' ∧ as[i]? = some (b, c)
  | _, _, _, .nil, i, x, y, e => by simp at e
  | _, _, _, .cons m q r, 0, x, y, e => by cases e; exact ⟨_, _, _, _, rfl, rfl, rfl⟩
  | _, _, _, .cons m q r, i + 1, x, y, e => by
    obtain ⟨b, c, t, t', h1, h2, h3⟩ := r.alt i x y (by simpa using e)
    exact ⟨b, c, t, t', h1, h2, by simpa using h3⟩
theorem find_at {α : Type} {f : α → Bool} : ∀ (l : List α) (j : Nat) (p : α), l[j]? = some p → f p = true → (∀ q ∈ l.take j, f q = false) → l.find? f = some p
  | [], j, p, e, _, _ => by simp at e
  | x :: l, 0, p, e, h, _ => by cases e; simp [h]
  | x :: l, j + 1, p, e, h, hn => by
    have h0 := hn x (by simp)
    rw [List.find?_cons_of_neg (by simp [h0])]
    exact find_at l j p (by simpa using e) h fun q hq => hn q (by simp [hq])
noncomputable def fmTest (n : Int) (i : Nat) (b : Nat) : Bool := if i = 0 then decide (Builtin.bitAnd n 61440 = (b : Int)) else decide (Builtin.bitAnd n (b : Int) = (b : Int))
theorem fmTest0 {n : Int} {i b : Nat} (hi : (i : Int) = 0) (h : Builtin.bitAnd n 61440 = (b : Int)) : fmTest n i b = true := by
  unfold fmTest; rw [if_pos (by omega)]; simp [h]
theorem fmTest0n {n : Int} {i b : Nat} (hi : (i : Int) = 0) (h : Builtin.bitAnd n 61440 ≠ (b : Int)) : fmTest n i b = false := by
  unfold fmTest; rw [if_pos (by omega)]; simp [h]
theorem fmTest1 {n : Int} {i b : Nat} (hi : (i : Int) ≠ 0) (h : Builtin.bitAnd n b = (b : Int)) : fmTest n i b = true := by
  unfold fmTest; rw [if_neg (by omega)]; simp [h]
theorem fmTest1n {n : Int} {i b : Nat} (hi : (i : Int) ≠ 0) (h : Builtin.bitAnd n b ≠ (b : Int)) : fmTest n i b = false := by
  unfold fmTest; rw [if_neg (by omega)]; simp [h]
noncomputable def fmCell (n : Int) (i : Nat) : Nat := match (fmAlts.getD i []).find? (fun p => fmTest n i p.1) with | some p => p.2 | none => if i = 0 then 63 else 45

theorem fmCell_at {n : Int} {i j b c : Nat} (h : (fmAlts.getD i [])[j]? = some (b, c)) (ht : fmTest n i b = true) (hn : ∀ p ∈ (fmAlts.getD i []).take j, fmTest n i p.1 = false) : fmCell n i = c := by
  unfold fmCell
  rw [find_at (f := fun p : Nat × Nat => fmTest n i p.1) _ j (b, c) h ht hn]
theorem fmCell_none {n : Int} {i : Nat} (hn : ∀ p ∈ fmAlts.getD i [], fmTest n i p.1 = false) : fmCell n i = if i = 0 then 63 else 45 := by
  unfold fmCell
  rw [List.find?_eq_none.mpr fun p hp => by simp [hn p hp]]
theorem fm_snoc {n : Int} {i c : Nat} {vs : List Value} {tc : Tok} (hvs : StrsAre vs (((List.range i).map (fmCell n)).map fun c => (⟨#[c]⟩ : Str))) (hc : fmCell n i = c) :
    StrsAre (vs ++ [.str ⟨#[c]⟩ tc]) (((List.range (i + 1)).map (fmCell n)).map fun c => (⟨#[c]⟩ : Str)) := by
  rw [List.range_succ, List.map_append, List.map_append]
  subst hc
  exact kct_snoc hvs
theorem fm_end {h₀ h : Heap} {L D : Addr} {own : List (Addr × Obj)} {vs : List Value} {v : Value} {k : Nat} (N : News h₀ L h ((D, listOf (vs.toArray.push v) (k + 1)) :: own)) :
    News h₀ L h ([(D, listOf (vs ++ [v]).toArray (k + 1))] ++ own) := by
  have e : vs.toArray.push v = (vs ++ [v]).toArray := by simp
  rw [e] at N; exact N
theorem taken_more {α : Type} {P : α → Prop} {l : List α} {j : Nat} {p : α} (hp : l[j]? = some p) (h : ∀ q ∈ l.take j, P q) (h1 : P p) : ∀ q ∈ l.take (j + 1), P q := by
  rw [List.take_add_one, hp]
  intro q hq
  rcases List.mem_append.mp hq with hq | hq
  · exact h q hq
  · rw [List.mem_singleton.mp hq]; exact h1

theorem c_ifmt (w : World) (n : Nat) (t : Tok) :
    PureC 2 w 83 [.int n t] (fun h => n < 2 ^ 40) (fun v h h' => ∃ t, v = .int (Builtin.bitAnd (n : Int) 61440) t) := by
  delta PureC Prg KK
  k_fill
  intro p loose mean mg mb dp un gd cn cs a ccd cl outer A₀ base h₀ L m s Q E B F X T hk hd hu hpre hQ
  refine' enter_pure (args := ⟨_, []⟩) (binds := [(PySem.Str.ofString "mode", .int n t)]) B F X T rfl rfl hk ?k6 ?k7 ?k8 ?k9 ?kB ?_ ?c5 ?c2 ?c3 ?c4
  case k6 => k_is
  case k7 => k_is
  case k8 => (show dp < _; omega)
  case k9 => exact BindsTo.of_eq rfl
  case c5 => decide
  case kB => exact locs rfl
  case c2 => exact rfl
  case c3 => exact rfl
  case c4 => exact rfl
  clear F X T B
  intro L' h' F' N' B' X' T'
  (try dsimp only [List.reverse_cons, List.reverse_nil, List.nil_append, List.cons_append])

  k_fold
  k_steps
  rename Fr _ _ _ _ => FF
  show Q _ _
  exact hQ _ _ _ FF.keep ⟨_, rfl⟩
local macro_rules | `(tactic| walk_at "call ref") => `(tactic| (k_here; (with_reducible show wpAny _ _ (call (Value.ref 83) _) _ _ _); (refine' use (c_ifmt _ _ _) (by k_asm) (by k_asm) (by k_asm) (by k_asm) (by k_asm) rfl (by ktr_room) (by ktr_units) (by assumption) ?_); intro v9 h9 tk9 hP9 st9 F9 N9; obtain ⟨t9, e9⟩ := hP9; subst e9; (try dsimp only); (try k_fold)))

local macro_rules | `(tactic| walk_at "call type:enumerate") => `(tactic| refine Stop.out ?_)
local macro_rules | `(tactic| walk_at "exec For Tuple Name") => `(tactic| refine Stop.out ?_)
local macro_rules | `(tactic| walk_at "call builtin:str.join") => `(tactic| refine Stop.out ?_)
local macro_rules | `(tactic| walk_at "call builtin:list.append") => `(tactic| refine Stop.out ?_)
theorem c_filemode (w : World) (n : Nat) (t : Tok) :
    PureC 6 w 123 [.int n t] (fun h => n < 2 ^ 40) (fun v h h' => ∃ t, v = .str ⟨((List.range 10).map (fmCell n)).toArray⟩ t) := by
  delta PureC Prg KK
  k_fill
  intro p loose mean mg mb dp un gd cn cs a ccd cl outer A₀ base h₀ L m s Q E B F X T hk hd hu hpre hQ
  refine' enter_pure (args := ⟨_, []⟩) (binds := [(PySem.Str.ofString "mode", .int n t)]) B F X T rfl rfl hk ?k6 ?k7 ?k8 ?k9 ?kB ?_ ?c5 ?c2 ?c3 ?c4
  case k6 => k_is
  case k7 => k_is
  case k8 => (show dp < _; omega)
  case k9 => exact BindsTo.of_eq rfl
  case c5 => decide
  case kB => exact locs rfl
  case c2 => exact rfl
  case c3 => exact rfl
  case c4 => exact rfl
  clear F X T B
  intro L' h' F' N' B' X' T'
  (try dsimp only [List.reverse_cons, List.reverse_nil, List.nil_append, List.cons_append])

  k_fold
  have hrows : ∀ (i : Nat) x, fmItems[i]? = some x → ∃ T vs ps, x = .ref T ∧ s.heap.IsTuple T vs.toArray ∧ AltRows s.heap vs ps (fmAlts.getD i []) := by
    have X := X'
    clear F' N' B' X' T'
    intro i x hx
    rcases i with _ | _ | _ | _ | _ | _ | _ | _ | _ | _ | i
    · cases hx
      refine ⟨91, [.ref 84, .ref 85, .ref 86, .ref 87, .ref 88, .ref 89, .ref 90], _, rfl, ⟨_, X 91 _ (by k_is), rfl, _, rfl⟩, AltRows.cons ⟨_, X 84 _ (by k_is), rfl, _, rfl⟩ (by decide +kernel) (AltRows.cons ⟨_, X 85 _ (by k_is), rfl, _, rfl⟩ (by decide +kernel) (AltRows.cons ⟨_, X 86 _ (by k_is), rfl, _, rfl⟩ (by decide +kernel) (AltRows.cons ⟨_, X 87 _ (by k_is), rfl, _, rfl⟩ (by decide +kernel) (AltRows.cons ⟨_, X 88 _ (by k_is), rfl, _, rfl⟩ (by decide +kernel) (AltRows.cons ⟨_, X 89 _ (by k_is), rfl, _, rfl⟩ (by decide +kernel) (AltRows.cons ⟨_, X 90 _ (by k_is), rfl, _, rfl⟩ (by decide +kernel) (AltRows.nil)))))))⟩
    · cases hx
      refine ⟨93, [.ref 92], _, rfl, ⟨_, X 93 _ (by k_is), rfl, _, rfl⟩, AltRows.cons ⟨_, X 92 _ (by k_is), rfl, _, rfl⟩ (by decide +kernel) (AltRows.nil)⟩
    · cases hx
      refine ⟨95, [.ref 94], _, rfl, ⟨_, X 95 _ (by k_is), rfl, _, rfl⟩, AltRows.cons ⟨_, X 94 _ (by k_is), rfl, _, rfl⟩ (by decide +kernel) (AltRows.nil)⟩
    · cases hx
      refine ⟨99, [.ref 96, .ref 97, .ref 98], _, rfl, ⟨_, X 99 _ (by k_is), rfl, _, rfl⟩, AltRows.cons ⟨_, X 96 _ (by k_is), rfl, _, rfl⟩ (by decide +kernel) (AltRows.cons ⟨_, X 97 _ (by k_is), rfl, _, rfl⟩ (by decide +kernel) (AltRows.cons ⟨_, X 98 _ (by k_is), rfl, _, rfl⟩ (by decide +kernel) (AltRows.nil)))⟩
    · cases hx
      refine ⟨101, [.ref 100], _, rfl, ⟨_, X 101 _ (by k_is), rfl, _, rfl⟩, AltRows.cons ⟨_, X 100 _ (by k_is), rfl, _, rfl⟩ (by decide +kernel) (AltRows.nil)⟩
    · cases hx
      refine ⟨103, [.ref 102], _, rfl, ⟨_, X 103 _ (by k_is), rfl, _, rfl⟩, AltRows.cons ⟨_, X 102 _ (by k_is), rfl, _, rfl⟩ (by decide +kernel) (AltRows.nil)⟩
    · cases hx
      refine ⟨107, [.ref 104, .ref 105, .ref 106], _, rfl, ⟨_, X 107 _ (by k_is), rfl, _, rfl⟩, AltRows.cons ⟨_, X 104 _ (by k_is), rfl, _, rfl⟩ (by decide +kernel) (AltRows.cons ⟨_, X 105 _ (by k_is), rfl, _, rfl⟩ (by decide +kernel) (AltRows.cons ⟨_, X 106 _ (by k_is), rfl, _, rfl⟩ (by decide +kernel) (AltRows.nil)))⟩
    · cases hx
      refine ⟨109, [.ref 108], _, rfl, ⟨_, X 109 _ (by k_is), rfl, _, rfl⟩, AltRows.cons ⟨_, X 108 _ (by k_is), rfl, _, rfl⟩ (by decide +kernel) (AltRows.nil)⟩
    · cases hx
      refine ⟨111, [.ref 110], _, rfl, ⟨_, X 111 _ (by k_is), rfl, _, rfl⟩, AltRows.cons ⟨_, X 110 _ (by k_is), rfl, _, rfl⟩ (by decide +kernel) (AltRows.nil)⟩
    · cases hx
      refine ⟨115, [.ref 112, .ref 113, .ref 114], _, rfl, ⟨_, X 115 _ (by k_is), rfl, _, rfl⟩, AltRows.cons ⟨_, X 112 _ (by k_is), rfl, _, rfl⟩ (by decide +kernel) (AltRows.cons ⟨_, X 113 _ (by k_is), rfl, _, rfl⟩ (by decide +kernel) (AltRows.cons ⟨_, X 114 _ (by k_is), rfl, _, rfl⟩ (by decide +kernel) (AltRows.nil)))⟩
    · exact absurd hx (by rw [Array.getElem?_eq_none (by show 10 ≤ _; omega)]; exact fun h => nomatch h)
  k_steps
  refine unstop ?_
  rename Fr _ _ _ _ => F1
  rename News _ _ _ _ => N1
  refine enum_rows (h₀ := s.heap) (items := fmItems) (fun i m₁ news₁ => ∃ D vs k, news₁ = [(D, listOf vs.toArray k)] ∧ Knows m₁ [(Str.ofString "mode", .int n t), (Str.ofString "perm", .ref D)] ∧ StrsAre vs (((List.range i).map (fmCell n)).map fun c => (⟨#[c]⟩ : Str))) rfl ⟨_, X' 116 _ (by k_is), rfl, _, rfl⟩ F1 N1
    ⟨_, [], _, rfl, ⟨rfl, rfl, trivial⟩, .nil⟩ ?_ ?_
  · clear F1 N1
    rintro i x ti m₁ _ h₁ tk₁ own hx ⟨D, vs, k, rfl, hm, hvs⟩ ha hoff F₁ N₁
    replace F₁ := Knows.fr2 F₁ hm
    have hi : i < 10 := by
      rcases Nat.lt_or_ge i 10 with q | q
      · exact q
      · rw [Array.getElem?_eq_none (by exact q)] at hx; cases hx
    obtain ⟨T, ws, ps, rfl, hT, hA⟩ := hrows i x hx
    have hlen := hA.len
    have hown : ∀ p ∈ own, p.1 ≠ D := fun p hp => hoff p hp _ (.head _)
    k_steps
    refine unstop ?_
    rename Fr _ _ _ _ => F2
    rename News _ _ _ _ => N2
    refine For_alts (h₀ := s.heap) (fun j m₂ news₂ => news₂ = (D, listOf vs.toArray k) :: own ∧ Knows m₂ [(Str.ofString "mode", .int n t), (Str.ofString "perm", .ref D), (Str.ofString "index", .int i ti)] ∧ ∀ p ∈ (fmAlts.getD i []).take j, fmTest n i p.1 = false) rfl hT hlen.1 hA.row F2 N2
      ⟨rfl, ⟨rfl, rfl, rfl, trivial⟩, fun p hp => by simp at hp⟩ rfl rfl rfl ?_ ?_ ?_ (hE := .never)
    · k_steps
    · clear F2 N2
      rintro j x y m₂ _ h₂ tk₂ I oI hps hoffI ⟨rfl, hm2, hno⟩ F₂ N₂
      replace F₂ := Knows.fr2 F₂ hm2
      obtain ⟨b, c, tb, tc, rfl, rfl, hab⟩ := hA.alt j x y hps
      have hsz : vs.toArray.size ≤ sizeLine := by
        rw [sizeLine_eq, List.size_toArray, hvs.len_eq]
        simp; omega
      k_steps
      · refine unstop ?_
        rename Fr _ _ _ _ => F8
        rename News _ _ _ _ => N8
        refine append_K F8 N8 (Upd.tail (Ne.symm (hoffI (D, listOf vs.toArray k) (.head _))) (Upd.head hown)) ?_ hsz
        intro h9 F9 N9
        clear F8 N8
        dsimp only
        k_steps
        refine wpAny_execs_nil ?_
        rename Fr _ _ _ _ => F9
        rename News _ _ _ _ => N9
        refine ⟨_, _, _, _, rfl, F9, fm_end (fun p hp => N9 p (.tail _ hp)), rfl, D, _, _, rfl, ⟨rfl, rfl, trivial⟩, fm_snoc hvs ?_⟩
        rename (i : Int) = 0 => hi0
        rename _ = (b : Int) => hb
        exact fmCell_at hab (fmTest0 hi0 hb) hno
      · rename Fr _ _ _ _ => F9
        rename News _ _ _ _ => N9
        rename (i : Int) = 0 => hi0
        rename _ ≠ (b : Int) => hb
        exact ⟨_, _, _, _, rfl, F9, N9, hoffI, rfl, ⟨rfl, rfl, rfl, trivial⟩, taken_more hab hno (fmTest0n hi0 hb)⟩
      · refine unstop ?_
        rename Fr _ _ _ _ => F8
        rename News _ _ _ _ => N8
        refine append_K F8 N8 (Upd.tail (Ne.symm (hoffI (D, listOf vs.toArray k) (.head _))) (Upd.head hown)) ?_ hsz
        intro h9 F9 N9
        clear F8 N8
        dsimp only
        k_steps
        refine wpAny_execs_nil ?_
        rename Fr _ _ _ _ => F9
        rename News _ _ _ _ => N9
        refine ⟨_, _, _, _, rfl, F9, fm_end (fun p hp => N9 p (.tail _ hp)), rfl, D, _, _, rfl, ⟨rfl, rfl, trivial⟩, fm_snoc hvs ?_⟩
        rename (i : Int) ≠ 0 => hi0
        rename _ = (b : Int) => hb
        exact fmCell_at hab (fmTest1 hi0 hb) hno
      · rename Fr _ _ _ _ => F9
        rename News _ _ _ _ => N9
        rename (i : Int) ≠ 0 => hi0
        rename _ ≠ (b : Int) => hb
        exact ⟨_, _, _, _, rfl, F9, N9, hoffI, rfl, ⟨rfl, rfl, rfl, trivial⟩, taken_more hab hno (fmTest1n hi0 hb)⟩
    · clear F2 N2
      rintro m₂ _ h₂ tk₂ ⟨rfl, hm2, hno⟩ F₂ N₂
      replace F₂ := Knows.fr F₂ hm2
      rw [hlen.2, List.take_length] at hno
      have hsz : vs.toArray.size ≤ sizeLine := by
        rw [sizeLine_eq, List.size_toArray, hvs.len_eq]
        simp; omega
      k_steps
      · refine unstop ?_
        rename Fr _ _ _ _ => F8
        rename News _ _ _ _ => N8
        refine append_K F8 N8 (Upd.head hown) ?_ hsz
        intro h9 F9 N9
        clear F8 N8
        dsimp only
        k_steps
        rename Fr _ _ _ _ => F9
        rename News _ _ _ _ => N9
        rw [show Str.ofString "?" = ⟨#[63]⟩ from by decide +kernel] at N9
        refine ⟨_, _, _, _, rfl, F9, fm_end N9, rfl, D, _, _, rfl, ⟨rfl, rfl, trivial⟩, fm_snoc hvs ?_⟩
        rename (i : Int) = 0 => hi0
        rw [fmCell_none hno, if_pos (by omega)]
      · refine unstop ?_
        rename Fr _ _ _ _ => F8
        rename News _ _ _ _ => N8
        refine append_K F8 N8 (Upd.head hown) ?_ hsz
        intro h9 F9 N9
        clear F8 N8
        dsimp only
        k_steps
        rename Fr _ _ _ _ => F9
        rename News _ _ _ _ => N9
        rw [show Str.ofString "-" = ⟨#[45]⟩ from by decide +kernel] at N9
        refine ⟨_, _, _, _, rfl, F9, fm_end N9, rfl, D, _, _, rfl, ⟨rfl, rfl, trivial⟩, fm_snoc hvs ?_⟩
        rename (i : Int) ≠ 0 => hi0
        rw [fmCell_none hno, if_neg (by omega)]
  · clear F1 N1
    rintro m₁ _ h₁ tk₁ ⟨D, vs, k, rfl, hm, hvs⟩ F₁ N₁
    replace F₁ := Knows.fr F₁ hm
    replace hvs : StrsAre vs (((List.range 10).map (fmCell n)).map fun c => (⟨#[c]⟩ : Str)) := hvs
    k_steps
    refine unstop ?_
    rename Fr _ _ _ _ => F9
    rename News _ _ _ _ => N9
    refine join_list (ys := ((List.range 10).map (fmCell n)).map fun c => (⟨#[c]⟩ : Str)) ⟨_, (N9 _ (.head _)).1, rfl, _, rfl⟩ hvs ?_ fun t' k => ?_
    · rw [sum_ones _ _ fun _ _ => rfl, List.length_map, List.length_map, List.length_range, show (Str.ofString "").length = 0 from by decide +kernel]
      omega
    · rw [(txt_join _ _).trans (join_chars _)]
      exact hQ _ _ _ F9.keep ⟨_, rfl⟩
end
section
open PySem PySem.W PySem.Calls PySem.Spec PyProof.Rows
set_option maxRecDepth 100000
set_option maxHeartbeats 400000

theorem ix16 (x : Int) : 0 ≤ x.fmod 16 ∧ x.fmod 16 < ((16 : Nat) : Int) := ⟨Int.fmod_nonneg_of_pos _ (by decide), Int.fmod_lt_of_pos _ (by decide)⟩
theorem ix8 (x : Int) : 0 ≤ x.fmod 8 ∧ x.fmod 8 < 8 := ⟨Int.fmod_nonneg_of_pos _ (by decide), Int.fmod_lt_of_pos _ (by decide)⟩
theorem fd_e (x : Int) (k : Nat) : x.fdiv (k : Int) = x / (k : Int) := Int.fdiv_eq_ediv_of_nonneg _ (by omega)
theorem ix4 (x : Int) : 0 ≤ (x.fmod 8).fdiv 4 ∧ (x.fmod 8).fdiv 4 < ((2 : Nat) : Int) := by
  have := ix8 x
  rw [show (x.fmod 8).fdiv 4 = x.fmod 8 / 4 from fd_e _ 4]
  omega
theorem ix2 (x : Int) : 0 ≤ x.fmod 2 ∧ x.fmod 2 < ((2 : Nat) : Int) := ⟨Int.fmod_nonneg_of_pos _ (by decide), Int.fmod_lt_of_pos _ (by decide)⟩
theorem ix3 (x y : Int) : 0 ≤ x.fmod 2 + 2 * y.fmod 2 ∧ x.fmod 2 + 2 * y.fmod 2 < ((4 : Nat) : Int) := by
  have := ix2 x
  have := ix2 y
  omega
theorem fdc (n a : Nat) : (n : Int).fdiv (a : Int) = ((n / a : Nat) : Int) := by rw [fd_e]; rfl
theorem fmc (n a : Nat) : (n : Int).fmod (a : Int) = ((n % a : Nat) : Int) := by rw [Int.fmod_eq_emod_of_nonneg _ (by omega)]; rfl
theorem rA (n a : Nat) : ((n : Int).fdiv (a : Int)).fmod 16 = ((n / a % 16 : Nat) : Int) := by rw [fdc]; exact fmc _ 16
theorem r8 (n a : Nat) : ((n : Int).fdiv (a : Int)).fmod 8 = ((n / a % 8 : Nat) : Int) := by rw [fdc]; exact fmc _ 8
theorem rB (n a : Nat) : (((n : Int).fdiv (a : Int)).fmod 8).fdiv 4 = ((n / a % 8 / 4 : Nat) : Int) := by rw [r8]; exact fdc _ 4
theorem rC (n a : Nat) : ((((n : Int).fdiv (a : Int)).fmod 8).fdiv 2).fmod 2 = ((n / a % 8 / 2 % 2 : Nat) : Int) := by
  rw [r8, show ((n / a % 8 : Nat) : Int).fdiv 2 = ((n / a % 8 / 2 : Nat) : Int) from fdc _ 2]; exact fmc _ 2
theorem rD (n a b : Nat) : (((n : Int).fdiv (a : Int)).fmod 8).fmod 2 + 2 * ((n : Int).fdiv (b : Int)).fmod 2 = ((n / a % 8 % 2 + 2 * (n / b % 2) : Nat) : Int) := by
  rw [r8, fdc n b, show ((n / a % 8 : Nat) : Int).fmod 2 = ((n / a % 8 % 2 : Nat) : Int) from fmc _ 2, show ((n / b : Nat) : Int).fmod 2 = ((n / b % 2 : Nat) : Int) from fmc _ 2]
  omega

local macro_rules | `(tactic| walk_at "subscriptTail") => `(tactic| (k_here; (with_reducible show wpAny _ _ (subscriptTail _ _ (Value.str _ _) (Value.int _ _)) _ _ _); (refine str_at ?s1 ?s2 (by decide +kernel) ?_); (case s1 => first | exact (ix16 _).1 | exact (ix4 _).1 | exact (ix2 _).1 | exact (ix3 _ _).1 | (simp only [Int.fdiv_one, Int.fdiv_eq_ediv_of_nonneg, Int.fmod_eq_emod_of_nonneg, Int.reduceLE]; omega)); (case s2 => ((first | (rw [show (Str.ofString "?pc?d?b?-?l?s???").cps.size = 16 from by decide +kernel]) | (rw [show (Str.ofString "-r").cps.size = 2 from by decide +kernel]) | (rw [show (Str.ofString "-w").cps.size = 2 from by decide +kernel]) | (rw [show (Str.ofString "-xSs").cps.size = 4 from by decide +kernel]) | (rw [show (Str.ofString "-xTt").cps.size = 4 from by decide +kernel])); first | exact (ix16 _).2 | exact (ix4 _).2 | exact (ix2 _).2 | exact (ix3 _ _).2 | (simp only [Int.fdiv_one, Int.fdiv_eq_ediv_of_nonneg, Int.fmod_eq_emod_of_nonneg, Int.reduceLE]; omega))); (try dsimp only)))
local macro_rules | `(tactic| walk_at "subscriptTail") => `(tactic| (k_here; (with_reducible show wpAny _ _ (subscriptTail _ _ (Value.ref _) (Value.int _ _)) _ _ _); (with_reducible rename News _ _ _ _ => N'); (refine tup_at (News.isTup N' (by k_mem)) (by decide) (by decide) (by rfl) ?_); (try dsimp only)))


noncomputable def rowL (n : Nat) : List Nat :=
  [(Str.ofString "?pc?d?b?-?l?s???").cps.getD (n / 4096 % 16) 0,
   (Str.ofString "-r").cps.getD (n / 64 % 8 / 4) 0, (Str.ofString "-w").cps.getD (n / 64 % 8 / 2 % 2) 0, (Str.ofString "-xSs").cps.getD (n / 64 % 8 % 2 + 2 * (n / 2048 % 2)) 0,
   (Str.ofString "-r").cps.getD (n / 8 % 8 / 4) 0, (Str.ofString "-w").cps.getD (n / 8 % 8 / 2 % 2) 0, (Str.ofString "-xSs").cps.getD (n / 8 % 8 % 2 + 2 * (n / 1024 % 2)) 0,
   (Str.ofString "-r").cps.getD (n % 8 / 4) 0, (Str.ofString "-w").cps.getD (n % 8 / 2 % 2) 0, (Str.ofString "-xTt").cps.getD (n % 8 % 2 + 2 * (n / 512 % 2)) 0]
noncomputable def rowS (n : Nat) : Str := ⟨(rowL n).toArray⟩
theorem nat_of {i : Int} {k : Nat} (h : i = k) : i.toNat = k := by rw [h]; rfl
theorem row_eq (n : Nat) (a0 a1 a2 a3 a4 a5 a6 a7 a8 a9 : Int)
    (h0 : a0 = ((n / 4096 % 16 : Nat) : Int)) (h1 : a1 = ((n / 64 % 8 / 4 : Nat) : Int)) (h2 : a2 = ((n / 64 % 8 / 2 % 2 : Nat) : Int)) (h3 : a3 = ((n / 64 % 8 % 2 + 2 * (n / 2048 % 2) : Nat) : Int))
    (h4 : a4 = ((n / 8 % 8 / 4 : Nat) : Int)) (h5 : a5 = ((n / 8 % 8 / 2 % 2 : Nat) : Int)) (h6 : a6 = ((n / 8 % 8 % 2 + 2 * (n / 1024 % 2) : Nat) : Int))
    (h7 : a7 = ((n % 8 / 4 : Nat) : Int)) (h8 : a8 = ((n % 8 / 2 % 2 : Nat) : Int)) (h9 : a9 = ((n % 8 % 2 + 2 * (n / 512 % 2) : Nat) : Int)) :
    ((⟨#[(Str.ofString "?pc?d?b?-?l?s???").cps.getD a0.toNat 0]⟩ : Str) ++ ⟨#[(Str.ofString "-r").cps.getD a1.toNat 0]⟩ ++ ⟨#[(Str.ofString "-w").cps.getD a2.toNat 0]⟩ ++ ⟨#[(Str.ofString "-xSs").cps.getD a3.toNat 0]⟩
      ++ ⟨#[(Str.ofString "-r").cps.getD a4.toNat 0]⟩ ++ ⟨#[(Str.ofString "-w").cps.getD a5.toNat 0]⟩ ++ ⟨#[(Str.ofString "-xSs").cps.getD a6.toNat 0]⟩
      ++ ⟨#[(Str.ofString "-r").cps.getD a7.toNat 0]⟩ ++ ⟨#[(Str.ofString "-w").cps.getD a8.toNat 0]⟩ ++ ⟨#[(Str.ofString "-xTt").cps.getD a9.toNat 0]⟩) = rowS n := by
  rw [nat_of h0, nat_of h1, nat_of h2, nat_of h3, nat_of h4, nat_of h5, nat_of h6, nat_of h7, nat_of h8, nat_of h9]
  rfl
theorem c_row (w : World) (n : Nat) (t : Tok) :
    PureC 4 w 149 [.int n t] (fun _ => n < 65536) (fun v _ _ => ∃ t, v = .str (rowS n) t) := by
  delta PureC Prg KK
  k_fill
  intro p loose mean mg mb dp un gd cn cs a ccd cl outer A₀ base h₀ L m s Q E B F X T hk hd hu hpre hQ
  refine' enter_pure (args := ⟨_, []⟩) (binds := [(PySem.Str.ofString "mode", .int n t)]) B F X T rfl rfl hk ?k6 ?k7 ?k8 ?k9 ?kB ?_ ?c5 ?c2 ?c3 ?c4
  case k6 => k_is
  case k7 => k_is
  case k8 => (show dp < _; omega)
  case k9 => exact BindsTo.of_eq rfl
  case c5 => decide
  case kB => exact locs rfl
  case c2 => exact rfl
  case c3 => exact rfl
  case c4 => exact rfl
  clear F X T B
  intro L' h' F' N' B' X' T'
  (try dsimp only [List.reverse_cons, List.reverse_nil, List.nil_append, List.cons_append])

  k_fold
  k_steps
  rename Fr _ _ _ _ => FF
  show Q _ _
  refine hQ _ _ _ FF.keep ?_
  have e := row_eq n (((n : Int).fdiv 4096).fmod 16) ((((n : Int).fdiv 64).fmod 8).fdiv 4) (((((n : Int).fdiv 64).fmod 8).fdiv 2).fmod 2) ((((n : Int).fdiv 64).fmod 8).fmod 2 + 2 * ((n : Int).fdiv 2048).fmod 2)
    ((((n : Int).fdiv 8).fmod 8).fdiv 4) (((((n : Int).fdiv 8).fmod 8).fdiv 2).fmod 2) ((((n : Int).fdiv 8).fmod 8).fmod 2 + 2 * ((n : Int).fdiv 1024).fmod 2)
    ((((n : Int).fdiv 1).fmod 8).fdiv 4) (((((n : Int).fdiv 1).fmod 8).fdiv 2).fmod 2) ((((n : Int).fdiv 1).fmod 8).fmod 2 + 2 * ((n : Int).fdiv 512).fmod 2)
    (rA n 4096) (rB n 64) (rC n 64) (rD n 64 2048) (rB n 8) (rC n 8) (rD n 8 1024) ((rB n 1).trans (by rw [Nat.div_one])) ((rC n 1).trans (by rw [Nat.div_one])) ((rD n 1 512).trans (by rw [Nat.div_one]))
  exact ⟨_, congrArg (fun x => Value.str x _) e⟩
end
section
open PySem PySem.W PySem.Calls PySem.Spec PyProof.Rows
set_option maxRecDepth 100000
set_option maxHeartbeats 8000000
local macro_rules | `(tactic| walk_at "call builtin:list.append") => `(tactic| (k_here; (with_reducible rename Fr _ _ _ _ => F8); (with_reducible rename News _ _ _ _ => N8); (with_reducible rename Rngs _ _ _ => hR8); (rename _ ∧ AllLt _ _ => l8); (refine append_K F8 N8 (Upd.tail (Nat.ne_of_gt l8.1) (Upd.head (by assumption))) ?_ ?kb); (case kb => (rw [sizeLine_eq, List.size_toArray, hR8.len]; omega)); intro h9 F9 N9; (try dsimp only)))
local macro_rules | `(tactic| walk_at "subscriptTail") => `(tactic| (k_here; (with_reducible show wpAny _ _ (subscriptTail _ _ (Value.str _ _) (Value.int _ _)) _ _ _); (refine str_at (by omega) (by omega) (by omega) ?_); (try dsimp only)))
local macro_rules | `(tactic| walk_at "subscriptTail Name Name str int") => `(tactic| (k_here; (with_reducible show wpAny _ _ (subscriptTail _ _ (Value.str _ _) (Value.int _ _)) _ _ _); (refine str_at (by omega) (by omega) (by omega) ?_); (try dsimp only)))

local macro_rules | `(tactic| walk_at "exec While Compare cons nil") => `(tactic| refine Stop.out ?_)
theorem c_told (w : World) (x : Str) (t : Tok) :
    PureC 2 w 168 [.str x t] (fun _ => x.length ≤ 100) (fun v h h' => Ranges h h' v (toldAt x 0)) := by
  delta PureC Prg KK
  k_fill
  intro p loose mean mg mb dp un gd cn cs a ccd cl outer A₀ base h₀ L m s Q E B F X T hk hd hu hpre hQ
  refine' enter_pure (args := ⟨_, []⟩) (binds := [(PySem.Str.ofString "inside", .str x t)]) B F X T rfl rfl hk ?k6 ?k7 ?k8 ?k9 ?kB ?_ ?c5 ?c2 ?c3 ?c4
  case k6 => k_is
  case k7 => k_is
  case k8 => (show dp < _; omega)
  case k9 => exact BindsTo.of_eq rfl
  case c5 => decide
  case kB => exact locs rfl
  case c2 => exact rfl
  case c3 => exact rfl
  case c4 => exact rfl
  clear F X T B
  intro L' h' F' N' B' X' T'
  (try dsimp only [List.reverse_cons, List.reverse_nil, List.nil_append, List.cons_append])

  k_fold
  have hcs : x.cps.size = x.length := rfl
  k_steps
  refine unstop ?_
  rename Fr _ _ _ _ => F1
  rename News _ _ _ _ => N1
  refine While_inv2 (n₀ := x.length) (fun j m₁ news₁ => ∃ (k : Nat) (D : Addr) (vs : List Value) (ps : List (Str × Str)) (tups : List (Addr × Obj)) (t1 : Tok) (n : Nat), j = x.length - k ∧ news₁ = (D, listOf vs.toArray n) :: tups ∧ (∀ p ∈ tups, p.1 ≠ D) ∧
    Knows m₁ [(Str.ofString "inside", .str x t), (Str.ofString "ranges", .ref D), (Str.ofString "at", .int k t1)] ∧ Rngs tups vs ps ∧ ps ++ toldAt x k = toldAt x 0 ∧ ps.length ≤ k ∧ k ≤ x.length + 3) F1 N1
    ⟨0, _, [], [], [], _, 0, by omega, rfl, (fun _ h => nomatch h), ⟨rfl, rfl, rfl, trivial⟩, .nil, rfl, Nat.le_refl _, Nat.zero_le _⟩ ?_ .never
  rintro j m₁ _ h₁ tk₁ F₁ N₁ ⟨k, D, vs, ps, tups, t1, n, rfl, rfl, hD, hm, hR, hT, hkl, hk3⟩
  replace F₁ := Knows.fr F₁ hm
  clear F1 N1
  k_steps
  · rename Fr _ _ _ _ => F2
    rename News _ _ _ _ => N2
    rename _ ∧ AllLt _ _ => l2
    rename Rngs _ _ _ => hR2
    rename (_ == _) = true => hc
    rename (k : Int) + 2 < _ => hl
    rename (k : Int) < _ => hl0
    obtain ⟨vs', tups', N3, hD3, hR3⟩ := told_turn N2 l2.1 hD hR2
    rw [show Txt.slice x (some ((k : Int) + 1)) (some ((k : Int) + 2)) = cut x (k + 1) (k + 2) from slice_nat x (k + 1) (k + 2)] at hc
    refine ⟨_, _, _, _, x.length - (k + 3), rfl, F2, N3, by omega, k + 3, _, _, _, _, _, _, rfl, rfl, hD3, ⟨rfl, rfl, rfl, trivial⟩, hR3, ?_, ?_, by omega⟩
    · rw [List.append_assoc, ← hT, toldAt_range (k := k) (by omega) hc (by omega)]; rfl
    · simp; omega
  · rename Fr _ _ _ _ => F2
    rename News _ _ _ _ => N2
    rename _ ∧ AllLt _ _ => l2
    rename Rngs _ _ _ => hR2
    rename ¬ (k : Int) + 2 < _ => hl
    rename (k : Int) < _ => hl0
    obtain ⟨vs', tups', N3, hD3, hR3⟩ := told_turn N2 l2.1 hD hR2
    refine ⟨_, _, _, _, x.length - (k + 1), rfl, F2, N3, by omega, k + 1, _, _, _, _, _, _, rfl, rfl, hD3, ⟨rfl, rfl, rfl, trivial⟩, hR3, ?_, ?_, by omega⟩
    · rw [List.append_assoc, ← hT, toldAt_one (k := k) (by omega) (.inr (by omega))]; rfl
    · simp; omega
  · rename Fr _ _ _ _ => F2
    rename News _ _ _ _ => N2
    rename _ ∧ AllLt _ _ => l2
    rename Rngs _ _ _ => hR2
    rename (_ == _) = false => hc
    rename (k : Int) < _ => hl0
    obtain ⟨vs', tups', N3, hD3, hR3⟩ := told_turn N2 l2.1 hD hR2
    rw [show Txt.slice x (some ((k : Int) + 1)) (some ((k : Int) + 2)) = cut x (k + 1) (k + 2) from slice_nat x (k + 1) (k + 2)] at hc
    refine ⟨_, _, _, _, x.length - (k + 1), rfl, F2, N3, by omega, k + 1, _, _, _, _, _, _, rfl, rfl, hD3, ⟨rfl, rfl, rfl, trivial⟩, hR3, ?_, ?_, by omega⟩
    · rw [List.append_assoc, ← hT, toldAt_one (k := k) (by omega) (.inl hc)]; rfl
    · simp; omega
  · rename Fr _ _ _ _ => F2
    rename News _ _ _ _ => N2
    rename Rngs _ _ _ => hR2
    rename ¬ (k : Int) < _ => hl0
    show Q _ _
    refine hQ _ _ _ F2.keep ?_
    rw [toldAt_end (by omega), List.append_nil] at hT
    rw [hT] at hR2
    exact ranges_of N2 hR2
end
end
section
open PySem PySem.W PySem.Calls PySem.Spec PyProof.Rows
set_option maxRecDepth 100000
set_option maxHeartbeats 1000000
/-- the code table of _translate, whatever it holds by now -/
noncomputable def TabOk (h : Heap) : Prop := ∃ ps, h.get? 57 = some (tabObj ps) ∧ TriplesOk ps.toList
/-- a call that may fill the code table and make generators, and keeps all else -/
noncomputable def TabC (b : Nat) (w : World) (f : Addr) (vs : List Value) (Pre : Heap → Prop) (P : Value → Heap → Heap → Prop) : Prop :=
  ∀ (p : Program) (loose : List Str) (mean : ExcName → Option Value) (mg mb : Str → Option Value)
    (dp un : Nat) (gd : Option (List Code)) (cn : Str) (cs : Scope) (a : Addr) (ccd : Value) (cl : List (Str × Addr)) (outer : List Env)
    (A₀ : Around) (base h₀ : Heap) (L : Addr) (m : Str → Option Value) (s : Shared) (Q E : Value → Shared → Prop),
    Below A₀ base outer h₀ → Fr h₀ L s.heap m → (KK w).In h₀ → Top p loose mean mg mb h₀ → cs.kind = .function →
    dp + b < recursionLimit → un + 20 * b < cLine → Pre s.heap → TabOk s.heap → h₀.get? 57 = none → @Ne Nat 57 L → AllBare s.gens →
    (∀ v s', Heap.ExtBut 57 s.heap s'.heap → TabOk s'.heap → AllBare s'.gens → s'.os = s.os → P v s.heap s'.heap → Q v s') →
    wpAny (model Prg w) (ktrTop dp un gd cn cs L a ccd cl outer) (call (.ref f) vs) Q E s

theorem enter_tab {prog : Program} {w : World} {A₀ A : Around} {s : Shared} {base h₀ : Heap} {outer : List Env} {L : Addr} {m : Str → Option Value} {env : Env} {K : Frag}
    {p : Program} {loose : List Str} {mean : ExcName → Option Value} {mg mb : Str → Option Value} {Q E : Value → Shared → Prop}
    {name qual : Str} {params : Arguments} {body : List Stmt} {scope : Scope} {dV kV doc pm cdv ct oc : Value} {an od : Option Addr} {osl : Array (Option Value)} {f : Addr} {args : Args} {binds : List (Str × Value)}
    (B : Below A₀ base outer h₀) (F : Fr h₀ L s.heap m) (X₀ : K.In h₀) (T : Top p loose mean mg mb h₀) (hA : A.frames = some (env :: outer)) (hf : env.frame = some L) (hke : env.scope.kind = .function)
    (hT : TabOk s.heap) (h57 : h₀.get? 57 = none) (hL : @Ne Nat 57 L)
    (ho : K.lookup f = some ⟨oc, od, .func (fnOf name qual params body scope dV kV doc pm an cdv ct), osl⟩) (hcd : codeIn K cdv qual = true) (hroom : A.depth < recursionLimit)
    (hbind : BindsTo s (fnOf name qual params body scope dV kV doc pm an cdv ct) args binds) (hloc : ∀ y ∈ binds, scope.names.lookup y.1 = some .local)
    (h : ∀ g L' h₁ ps, Fr g L' h₁ (fun y => binds.reverse.lookup y) → News g L' h₁ [(57, tabObj ps)] → TriplesOk ps.toList → Below A base (env :: outer) g → K.In g → Top p loose mean mg mb g →
      Heap.ExtBut 57 s.heap g → @LT.lt Nat _ 57 L' →
      wpAny (model prog w) (A.deeper (envOf qual scope L' f cdv)) (execs body (envOf qual scope L' f cdv))
        (fun fl s' => Q (match fl with | .ret v => v | _ => .none) s') (fun _ _ => False)
        { s with heap := h₁, toks := s.toks + binds.length })
    (hcell : ∀ x ∈ scope.names, x.2 ≠ .cell) (hco : scope.isCoroutine = false) (hgen : scope.isGenerator = false) (hk : scope.kind = .function) :
    wpAny (model prog w) A (call (.ref f) args.pos args.kw) Q E s := by
  obtain ⟨ps, hp, ht⟩ := hT
  have N : News h₀ L s.heap [(57, tabObj ps)] := fun q hq => by
    cases hq with
    | head => exact ⟨hp, hL, h57⟩
    | tail _ hq => cases hq
  obtain ⟨FG, BG, st, _⟩ := groundX (R := fun _ _ => True) B F N hA hf hke
  have hX := X₀.keeps F.keep
  have hT := T.keeps F.keep
  refine wpAny_call (codeAny_call_def (fd := fnOf name qual params body scope dV kV doc pm an cdv ct) (body := body) (binds := binds) hroom (hX _ _ ho) rfl hT.nolimit (codeRec_of hX hcd) rfl hbind hcell hloc (fun h₁ hns hk₁ => ?_) hco hgen hk)
  refine wpAny_mono (h _ s.heap.objs.size h₁ ps ⟨hns, fun b o e => hk₁ b o (of_hideAll _ e), Nat.le_of_eq (hideAll_size _ _)⟩ (fun q hq => ?_) ht BG (X₀.keeps st) (T.keeps st)
    (fun b o hb e => hideAll_get _ e fun hm => ?_) (Heap.lt_size hp)) (fun fl s' x => x) fun _ _ x => x.elim
  · exact ⟨hk₁ _ _ (N q hq).1, Nat.ne_of_lt (Heap.lt_size (N q hq).1), hideAll_none _ (List.mem_map_of_mem hq)⟩
  · rcases List.mem_cons.mp hm with hm | hm
    · exact hb hm
    · cases hm

section
variable {M : Model} {A : Around} {E : Value → Shared → Prop} {s : Shared} {h₀ : Heap} {L a c : Addr} {m mg mb : Str → Option Value} {cn : Str} {cs : Scope} {ccd : Value} {cl : List (Str × Addr)} {news : List (Addr × Obj)} {gU : Obj → List (Addr × Obj)}
  {p : Program} {loose : List Str} {mean : ExcName → Option Value} {name qual : Str} {params : Arguments} {body : Expr} {scope : Scope} {ps : Array Value} {pos : Pos} {firstLine : Nat} {clos : List (Str × Addr)}
theorem main_ne {h : Heap} (T : Top p loose mean mg mb h₀) (F : Fr h₀ L h m) {ps : Array Value} (hP : h.get? 57 = some (tabObj ps)) : mainGlobals ≠ 57 := fun q => by
  obtain ⟨o, es, ep, e, hd, _⟩ := T.g.keeps F.keep
  rw [q, hP] at e; cases e; cases hd
theorem lam_K {Q : Value → Shared → Prop} (F : Fr h₀ L s.heap m) (N : News h₀ L s.heap news) (T : Top p loose mean mg mb h₀) (C : CodeHd h₀ c 57) (hcd : ccd = .ref c) (U : UpdF 57 (tabObj ps) news gU) (ht : TriplesOk ps.toList)
    (hcl : closureFor scope (envX cn cs L a ccd cl) = pure clos)
    (h : ∀ f fd ps' h' tk, Fr h₀ L h' m → News h₀ L h' ((f, { cls := .type "function", data := .func fd }) :: gU (tabObj ps')) → TriplesOk ps'.toList → (∀ q ∈ news, q.1 < f) → Q (.ref f) { s with heap := h', toks := tk }) :
    wpAny M A (makeFunction name qual params (.expr body) scope (envX cn cs L a ccd cl) [] [] [] pos firstLine) Q E s := by
  cases hq : codeAmong pos ps.toList with
  | none =>
    refine kla_nest F N T C hcd U ht hq hcl fun f c' oc vs t ctv h' tk F' N' _ _ l1 l2 => h f (kla_fn name qual params body scope clos ((mg "__name__").getD .none) (.ref c') ctv) (ps ++ #[rawInt pos.line, rawInt pos.col, .ref c']) h' tk F' (fun q hq => N' q ?_) (by rw [Array.toList_append]; exact TriplesOk_snoc _ _ _ _ ht) fun q hq => Nat.lt_trans (l1 q hq) l2
    rcases List.mem_cons.mp hq with rfl | hq
    · exact .head _
    · exact .tail _ (.tail _ hq)
  | some cv =>
    obtain ⟨own, rest, rfl, hgr, _, _⟩ := U.split
    have hm := N (57, tabObj ps) (List.mem_append_right _ (.head _))
    obtain ⟨bm, ob, b1, b2, b3, b4, b5, b6⟩ := T.bmain
    have hbP : bm ≠ 57 := fun q => by
      have e := F.keep _ _ b3
      rw [q, hm.1] at e; cases e; cases b4
    have hbG : bm ≠ mainGlobals := fun q => by
      obtain ⟨o, es, ep, e, hd, _⟩ := T.g
      rw [q, e] at b3; cases b3; rw [hd] at b6; cases b6
    refine kla_makeFunctionHit (mg := mg) hcl rfl (T.g.keeps F.keep) hcd (C.keeps F.keep) hm.1 ht hq ⟨bm, ob, b1, b2, hbG, hbP, F.keep _ _ b3, b4, b5, b6⟩ fun ctv h' tk hk hsz => ?_
    have hLs : L < h'.objs.size := Nat.lt_of_lt_of_le F.ns.lt hsz
    refine h h'.objs.size (kla_fn name qual params body scope clos ((mg "__name__").getD .none) cv ctv) ps _ tk ⟨(F.ns.keeps hk).push _, fun b o e => Heap.get?_push_of_some _ (hk b o (F.keep b o e)), F.above⟩ (fun q hq => ?_) ht fun q hq => Nat.lt_of_lt_of_le (Heap.lt_size (N q hq).1) hsz
    rcases List.mem_cons.mp hq with rfl | hq
    · exact ⟨Heap.get?_push_size _ rfl, Nat.ne_of_gt hLs, Heap.get?_none_of_le (Nat.le_trans F.above (Nat.le_of_lt hLs))⟩
    · rw [hgr] at hq
      exact ⟨Heap.get?_push_of_some _ (hk _ _ (N q hq).1), (N q hq).2⟩

theorem gcode_K {env : Env} {Q : Value → Shared → Prop} (hcode : env.code = .ref c) (C : CodeHd s.heap c 57) (hP : s.heap.get? 57 = some (tabObj ps)) (ht : TriplesOk ps.toList)
    (h : ∀ code ps' h' tk, Heap.ExtBut 57 s.heap h' → s.heap.objs.size ≤ h'.objs.size → h'.get? 57 = some (tabObj ps') → TriplesOk ps'.toList → Q code { s with heap := h', toks := tk }) :
    wpAny M A (genexprCode env pos qual scope) Q E s := by
  cases hq : codeAmong pos ps.toList with
  | none =>
    exact wpAny_genexprCodeX hcode (C.code hP ht) (C.tab hP) hq fun c' h' tk hx hge hlt _ _ htb _ => h _ _ h' tk hx (Nat.le_trans hge (Nat.le_of_lt hlt)) htb.2 (by rw [Array.toList_append]; exact TriplesOk_snoc _ _ _ _ ht)
  | some cv => exact wpAny_genexprCode_hit hcode (C.code hP ht) hq (h cv ps s.heap s.toks (fun _ _ _ e => e) (Nat.le_refl _) hP ht)
end

/-- a generator over a list of texts, ready to be joined -/
noncomputable def GenJ (prog : Program) (w : World) (A : Around) (L : Addr) (news : List (Addr × Obj)) (cs : List Str) (f : Str → Str) (a : Addr) (s : Shared) : Prop :=
  ∃ K, L ≤ K ∧ (∀ q ∈ news, q.1 ≤ K) ∧ Gen prog w A K a cs.length (fun j r => ∃ y t, cs[j]? = some y ∧ r = .str (f y) t) s

section
variable {prog : Program} {w : World} {A : Around} {E : Value → Shared → Prop} {s : Shared} {h₀ : Heap} {L c : Addr} {m mg mb : Str → Option Value} {news : List (Addr × Obj)} {gU : Obj → List (Addr × Obj)}
  {p : Program} {loose : List Str} {mean : ExcName → Option Value} {ps : Array Value}
theorem gexp_K {env : Env} {elt iter : Expr} {x : Str} {px : Pos} {scope : Scope} {cl : List (Str × Addr)} {pos : Pos} {Q : Value → Shared → Prop} {l : Addr} {items : Array Value} {k : Nat} {cs : List Str} {f : Str → Str}
    (F : Fr h₀ L s.heap m) (N : News h₀ L s.heap news) (T : Top p loose mean mg mb h₀) (C : CodeHd h₀ c 57) (U : UpdF 57 (tabObj ps) news gU) (ht : TriplesOk ps.toList) (G : AllBare s.gens)
    (hl : (l, listOf items k) ∈ news) (hi : StrsAre items.toList cs)
    (hge : env.globals = mainGlobals) (hcode : env.code = .ref c) (hh : A.handled = none) (hco : scope.isCoroutine = false) (hclos : closureFor scope env = pure cl) (hcell : ∀ y ∈ scope.names, y.2 ≠ .cell) (h0 : scope.names.lookup (".0" : Str) = some NameKind.local)
    (hx : scope.names.lookup x = some .local) (hkind : scope.kind = .function) (hroom : A.depth < recursionLimit)
    (hiter : ∀ Q' : Value → Shared → Prop, Q' (.ref l) s → wpAny (model prog w) A (eval iter env) Q' E s) (hs : ∀ x, genFold iter env x = pure x)
    (helt : ∀ (C : Addr) (code : Value) (A' : Around) (E' : Value → Shared → Prop) (y : Str) (t : Tok) (u : Shared) (m₂ : Str → Option Value), A'.handled = none → A'.depth ≤ A.depth + 1 → A'.units ≤ A.units + 8 → y ∈ cs → u.heap.Ns C m₂ → m₂ x = some (.str y t) →
      wpAny (model prog w) A' (eval elt (genEnv scope cl C code builtinsNs env)) (fun r s₃ => (∃ t', r = .str (f y) t') ∧ Keeps u s₃) E' u)
    (hQ : ∀ a ps' s', Fr h₀ L s'.heap m → News h₀ L s'.heap (gU (tabObj ps')) → TriplesOk ps'.toList → AllBare s'.gens → s'.os = s.os → GenJ prog w A L (gU (tabObj ps')) cs f a s' → Q (.ref a) s') :
    wpAny (model prog w) A (eval (.GeneratorExp elt [⟨.Name x px, iter, [], 0⟩] scope pos) env) Q E s := by
  obtain ⟨own, rest, rfl, hgr, u1, u2⟩ := U.split
  have hP := N (57, tabObj ps) (List.mem_append_right _ (.head _))
  have hls := (N _ hl).1
  have hlt := Heap.lt_size hls
  have hLs : L < s.heap.objs.size := F.ns.lt
  have hlP : l ≠ 57 := fun e => by rw [e, hP.1] at hls; cases hls
  have hPlt := Heap.lt_size hP.1
  refine wpAny_GeneratorExp_walksQD hh hco hclos hcell h0 hx hkind hroom (hiter _ ?_) hs
  refine wpAny_pyIter_list ⟨_, hls, rfl, _, rfl⟩ ?_
  refine ⟨((T.nolimit).keeps F.keep).push _, ?_⟩
  generalize hit : ({ cls := .type "list_iterator", data := .fields #[.ref l, .int 0 0] } : Obj) = oi
  refine gcode_K (ps := ps) hcode ((C.keeps F.keep).keeps fun _ _ e => Heap.get?_push_of_some _ e) (Heap.get?_push_of_some _ hP.1) ht fun code ps' h₃ tk₃ hx₃ hsz hP₃ ht' => ?_
  have hsz2 : s.heap.objs.size < h₃.objs.size := by
    have : (s.heap.push oi).objs.size ≤ h₃.objs.size := hsz
    rw [Heap.size_push] at this; exact this
  have keep₃ : ∀ b o, b ≠ 57 → s.heap.get? b = some o → h₃.get? b = some o := fun b o hb e => hx₃ b o hb (Heap.get?_push_of_some _ e)
  obtain ⟨bm, ob, M⟩ := bmod_of_top T
  have M₃ : BMod h₃ env.globals mg bm ob := by
    rw [hge]
    exact ((M.keeps F.keep).keeps fun _ _ e => Heap.get?_push_of_some _ e).extBut ((C.keeps F.keep).keeps (fun _ _ e => Heap.get?_push_of_some _ e) |>.tab (Heap.get?_push_of_some _ hP.1)) hx₃
  have hcP : cStatics ≠ 57 := fun e => by
    obtain ⟨_, hns, _⟩ := (T.nolimit).keeps F.keep
    obtain ⟨o, es, ep, ho, hd, _⟩ := hns
    rw [e, hP.1] at ho; cases ho; cases hd
  have hl₃ : h₃.NoLimit := ((T.nolimit).keeps F.keep |>.push _).extBut hx₃ hcP
  have hcw : cStatics ∉ [s.heap.objs.size] := fun hm => by
    rcases List.mem_cons.mp hm with e | hm
    · obtain ⟨_, hns, _⟩ := (T.nolimit).keeps F.keep
      exact Nat.lt_irrefl _ (e ▸ hns.lt)
    · cases hm
  refine wpAny_builtinsFor M₃.ns M₃.name M₃.ne M₃.obj M₃.cls M₃.dict M₃.data ?_
  have W₀ : ∀ A' : Around, A'.handled = none → Walks prog w A' s.heap.objs.size [s.heap.objs.size, l] [s.heap.objs.size] items.size (fun i v => items[i]? = some v) _ := fun A' hA => Walks.list hA _ _ (Nat.ne_of_lt hlt) items
  refine ⟨s.heap.objs.size, [s.heap.objs.size, l], [s.heap.objs.size], items.size, _, _, fun _ => true, (fun i y => ∃ z t, cs[i]? = some z ∧ y = .str (f z) t), rfl, W₀, ?_, ?_, hl₃, hcw, (fun href hhref => ?_), fun a h₅ tk gs hgb hag hsz₅ hk₅ W hat => ?_⟩
  · exact ⟨⟨_, hx₃ _ _ (Nat.ne_of_gt hPlt) (Heap.get?_push_size _ (by rw [← hit]; rfl)), by rw [← hit], by rw [← hit]; rfl⟩, ⟨_, keep₃ _ _ hlP hls, rfl, _, rfl⟩⟩
  · intro b hb
    rcases List.mem_cons.mp hb with rfl | hb
    · exact hsz2
    · rcases List.mem_cons.mp hb with rfl | hb
      · exact Nat.lt_trans hlt hsz2
      · cases hb
  · refine ⟨fun A' E' i v t m₂ hA hD hU hPi hn hm hkp => ?_, fun A' E' i v t m₂ hA hD hU hPi hp hn hm hkp => ?_⟩
    · exact wpAny_pure ⟨rfl, t.heap, t.toks, rfl, fun _ _ e => e⟩
    · obtain ⟨z, tz, hv, hz⟩ := hi.item i v (by simpa using hPi)
      subst hv
      exact wpAny_mono (helt _ _ A' E' z tz t m₂ hA hD hU (List.mem_of_getElem? hz) hn hm) (fun r s₃ q => ⟨⟨z, q.1.choose, hz, q.1.choose_spec⟩, q.2⟩) fun _ _ e => e
  · have hpass : (passing (fun _ => true) items.size 0) = List.range items.size := by simp [passing]
    have hlen : items.size = cs.length := by rw [← hi.len_eq]; simp
    rw [hpass, List.length_range] at W
    refine hQ a ps' _ (Fr.keeps (h := h₃) ⟨(F.ns.push _).extBut hx₃ (Ne.symm hP.2.1), fun b o e => keep₃ b o (fun q => by rw [q, hP.2.2] at e; cases e) (F.keep b o e), F.above⟩ hk₅) (fun q hq => ?_) ht' (G.push hgb) rfl
      ⟨s.heap.objs.size - 1, Nat.le_sub_one_of_lt hLs, fun q hq => ?_, ?_⟩
    · rw [hgr] at hq
      rcases List.mem_append.mp hq with hq | hq
      · have n := N q (List.mem_append_left _ hq)
        exact ⟨hk₅ _ _ (keep₃ _ _ (u1 q hq) n.1), n.2⟩
      · rcases List.mem_cons.mp hq with rfl | hq
        · exact ⟨hk₅ _ _ hP₃, hP.2⟩
        · have n := N q (List.mem_append_right _ (.tail _ hq))
          exact ⟨hk₅ _ _ (keep₃ _ _ (u2 q hq) n.1), n.2⟩
    · rw [hgr] at hq
      rcases List.mem_append.mp hq with hq | hq
      · exact Nat.le_sub_one_of_lt (Heap.lt_size (N q (List.mem_append_left _ hq)).1)
      · rcases List.mem_cons.mp hq with rfl | hq
        · exact Nat.le_sub_one_of_lt hPlt
        · exact Nat.le_sub_one_of_lt (Heap.lt_size (N q (List.mem_append_right _ (.tail _ hq))).1)
    · have X : Gen prog w A (s.heap.objs.size - 1) a items.size (fun j y => ∃ i, (List.range items.size)[j]? = some i ∧ ∃ z t, cs[i]? = some z ∧ y = .str (f z) t) { s with heap := h₅, gens := s.gens.push gs, toks := tk } := by
        refine ⟨_, _, _, _, W, hat, (fun i s' st => st.1.typeIs), List.mem_cons_self, ?_, ?_⟩
        · intro b hb
          show b < h₅.objs.size
          rw [hsz₅]
          rcases List.mem_cons.mp hb with rfl | hb
          · exact Nat.lt_succ_self _
          · rcases List.mem_cons.mp hb with rfl | hb
            · exact Nat.lt_succ_of_lt hag
            · exact Nat.lt_succ_of_lt (Nat.lt_trans (List.mem_range.mp hb) hag)
        · intro b hb
          rcases List.mem_cons.mp hb with rfl | hb
          · show s.heap.objs.size - 1 < h₃.objs.size
            exact Nat.lt_of_le_of_lt (Nat.sub_le _ _) hsz2
          · rcases List.mem_cons.mp hb with rfl | hb
            · exact Nat.sub_lt (Nat.lt_of_le_of_lt (Nat.zero_le _) hLs) Nat.one_pos
            · cases hb
      rw [hlen] at X
      refine X.imp fun j y hy => ?_
      obtain ⟨i, hij, z, t, hz, e⟩ := hy
      have hj : j < cs.length := by
        rcases Nat.lt_or_ge j cs.length with q | q
        · exact q
        · rw [List.getElem?_eq_none (by simpa using q)] at hij; cases hij
      rw [List.getElem?_range hj] at hij
      cases hij
      exact ⟨z, t, hz, e⟩

theorem gjoin_K {sep : Str} {t : Tok} {a : Addr} {cs : List Str} {f : Str → Str} {Q : Value → Shared → Prop} (F : Fr h₀ L s.heap m) (N : News h₀ L s.heap news) (G : AllBare s.gens) (X : GenJ prog w A L news cs f a s)
    (hlen : cs.length ≤ 1000) (hok : JoinOk sep (cs.map f) = true)
    (hQ : ∀ s' t', Fr h₀ L s'.heap m → News h₀ L s'.heap news → AllBare s'.gens → s'.os = s.os → Q (.str (Txt.join sep (cs.map f)) t') s') :
    wpAny (model prog w) A (call (.builtin "str.join") [.str sep t, .ref a]) Q E s := by
  obtain ⟨K, hLK, hN, X⟩ := X
  have e := map_rangeD cs f ("" : Str)
  refine join_rowsK F G X hLK _ (fun j v hv => ?_) (by rw [e]; exact hok) (fun s' t' F' G' ho hk => ?_) (by rw [sizeLine_eq]; omega)
  · obtain ⟨z, u, hz, rfl⟩ := hv
    exact ⟨u, by simp [hz]⟩
  · rw [e]
    exact hQ s' t' F' (fun q hq => ⟨hk _ _ (hN q hq) (N q hq).1, (N q hq).2⟩) G' ho
end
end
section
open PySem PySem.W PySem.Calls PySem.Spec PyProof.Rows
set_option maxRecDepth 100000
set_option maxHeartbeats 400000
theorem find_args4 (a b c d : Value) : argsOk "str.find" ⟨[a, b, c, d], []⟩ := by unfold argsOk; kernel_rfl
section
variable {prog : Program} {w : World} {A : Around} {E : Value → Shared → Prop} {s : Shared}
open PySem.Builtin PySem.Builtin.Str
theorem find4_run {x y : Str} {a b : Nat} {t u v z : Tok} {R : Fin → Shared → Prop} (hb : b ≤ x.length)
    (h : ∀ tk t', R (.done (.ret (.int (match occurrences x y a b 1 with | i :: _ => (i : Int) | [] => -1) t'))) { s with toks := tk }) :
    wpAny (model prog w) A (Builtin.«str.find» ⟨[.str x t, .str y u, .int a v, .int b z], []⟩) R E s := by
  have f1 : ∀ s' : Shared, typeLookup (.type "int") (Str.ofString "__index__") = pure (some (.builtin "int.__index__")) := fun _ => by rw [typeLookup_type, builtinLookup_eq_fast]; kernel_rfl
  replace f1 := f1 s
  unfold Builtin.«str.find» searchArgs
  repeat (any_goals (first | with_reducible assumption | wp_step))
  rw [show (Max.max (0 : Int) (if (a : Int) < 0 then (a : Int) + x.length else (a : Int))).toNat = a from by rw [if_neg (by omega)]; omega,
    show Min.min (Max.max (0 : Int) (if (b : Int) < 0 then (b : Int) + x.length else (b : Int))).toNat x.length = b from by rw [if_neg (by omega)]; omega]
  cases e : occurrences x y a b 1 with
  | nil =>
    rw [e] at h
    refine wpAny_bind (wpAny_rule ?_)
    exact wpAny_bind (wpAny_mkInt (wpAny_pure (h _ _)))
  | cons i r =>
    rw [e] at h
    exact wpAny_bind (wpAny_mkInt (wpAny_pure (h _ _)))
theorem occ1 (x : Str) (c lo hi : Nat) (hh : hi ≤ x.length) :
    (occurrences x ⟨#[c]⟩ lo hi 1 = [] ∧ ∀ v, lo ≤ v → v < hi → x.cps.getD v 0 ≠ c) ∨
    ∃ k r, occurrences x ⟨#[c]⟩ lo hi 1 = k :: r ∧ lo ≤ k ∧ k < hi ∧ x.cps.getD k 0 = c ∧ ∀ v, lo ≤ v → v < k → x.cps.getD v 0 ≠ c := by
  have el : (⟨#[c]⟩ : Str).length = 1 := rfl
  have sub1 : ∀ v, v < hi → x.cps.getD v 0 = c → StrLaws.At x ⟨#[c]⟩ hi v := fun v hv e =>
    ⟨by rw [el]; omega, ((StrLaws.subAt_one x c v).mpr (StrLaws.getElem?_of_getD (by omega) e)).2⟩
  rw [StrLaws.occ_eq]
  rcases StrLaws.occ_first x ⟨#[c]⟩ hi 1 (Nat.le_refl _) (List.range' lo (hi + 1 - lo)) lo (fun i hi => by have := List.mem_range'_1.mp hi; omega) with ⟨h0, hn⟩ | ⟨pre, a, post, e, h0, ha, hn⟩
  · refine .inl ⟨by rw [h0], fun v h1 h2 he => ?_⟩
    exact hn v (by rw [List.mem_range'_1]; omega) (sub1 v h2 he)
  · have hs := StrLaws.range'_split_from e
    have hm := (StrLaws.subAt_one x c a).mp ⟨Nat.le_trans ha.1 hh, ha.2⟩
    have hlt : a < hi := by have := ha.1; omega
    refine .inr ⟨a, ((forIn (List.range' lo (hi + 1 - lo)) ((#[] : Array Nat), lo) (StrLaws.occBody x ⟨#[c]⟩ hi 1)).run.fst.toList).tail, ?_, hs.1, hlt, StrLaws.getD_of_getElem? hm, fun v h1 h2 he => hn v (hs.2 v h1 h2) (sub1 v (by omega) he)⟩
    generalize (forIn (List.range' lo (hi + 1 - lo)) ((#[] : Array Nat), lo) (StrLaws.occBody x ⟨#[c]⟩ hi 1)).run.fst = arr at h0
    have h1 : arr.toList[0]? = some a := by simpa using h0
    cases hL : arr.toList with
    | nil => rw [hL] at h1; cases h1
    | cons b t => rw [hL] at h1; simp at h1; rw [h1]; rfl
theorem call_find4 {x y : Str} {c a b : Nat} {t u v z : Tok} {Q : Value → Shared → Prop} (hy : y = ⟨#[c]⟩) (hb : b ≤ x.length)
    (h1 : ∀ k t' tk, a ≤ k → k < b → x.cps.getD k 0 = c → (∀ v, a ≤ v → v < k → x.cps.getD v 0 ≠ c) → Q (.int (k : Nat) t') { s with toks := tk })
    (h2 : ∀ t' tk, (∀ v, a ≤ v → v < b → x.cps.getD v 0 ≠ c) → Q (.int (-1) t') { s with toks := tk }) :
    wpAny (model prog w) A (call (.builtin "str.find") [.str x t, .str y u, .int a v, .int b z]) Q E s := by
  subst hy
  refine wpAny_call (codeAny_call_builtin F.slot_str_find.plain F.entry_str_find (F.slot_str_find.check _ _ _ _ _ _ _ _ (typeIs_str _ _ _) (F.args_str_find_4 _ _ _ _) ?_))
  refine find4_run hb fun tk t' => ?_
  rcases occ1 x c a b hb with ⟨e, hn⟩ | ⟨k, r, e, q1, q2, q3, q4⟩
  · rw [e]; exact h2 _ _ hn
  · rw [e]; exact h1 k _ _ q1 q2 q3 q4
end
end
section
open PySem PySem.W PySem.Calls PySem.Spec PyProof.Rows
set_option maxRecDepth 100000
set_option maxHeartbeats 1000000
noncomputable def reCode : Array Nat := #[14, 14, 4, 1, 1, 9, 0, 64, 0, 1342177280, 0, 0, 0, 0, 0, 17, 0, 13, 11, 9, 0, 64, 0, 1342177280, 0, 0, 0, 0, 0, 17, 1, 1]
noncomputable def plainCp (c : Nat) : Prop := c < 128 ∧ c ≠ 38 ∧ c ≠ 124 ∧ c ≠ 126
theorem bits_no (c : Nat) (h : plainCp c) : (reCode.getD (5 + (1 + c / 32)) 0).testBit (c % 32) = false := by
  obtain ⟨h0, h1, h2, h3⟩ := h
  revert h1 h2 h3
  revert h0
  revert c
  decide +kernel
theorem inset_no (c : Nat) (h : plainCp c) (seen : Sre.Seen) : ∃ seen', Sre.inSet reCode c reCode.size 5 true seen = .ok (false, seen') := by
  have hb := bits_no c h
  have e5 : reCode.getD (5 + 0) 0 = 9 := by decide +kernel
  have e14 : reCode.getD (5 + 9 + 0) 0 = 0 := by decide +kernel
  have e : reCode.size = 30 + 1 + 1 := by decide +kernel
  rw [e]
  refine ⟨(seen.add 9).add 0, ?_⟩
  unfold Sre.inSet
  simp only [e5]
  rw [show Sre.ops[9]? = some .CHARSET from rfl]
  simp only [hb, Bool.and_false, Bool.false_eq_true, if_false]
  unfold Sre.inSet
  simp only [e14]
  rw [show Sre.ops[0]? = some .FAILURE from rfl]
  rfl
theorem adm_no (m : Sre.M) (hc : m.code = reCode) : ∀ (fuel s : Nat) (seen : Sre.Seen), (∀ i, i < m.lim → plainCp (m.text.getD i 0)) → ∃ seen', Sre.M.admitted m fuel s seen = .ok (none, seen')
  | 0, s, seen, _ => ⟨seen, rfl⟩
  | fuel + 1, s, seen, h => by
    unfold Sre.M.admitted
    by_cases hs : s ≥ m.lim
    · rw [if_pos hs]; exact ⟨_, rfl⟩
    · rw [if_neg hs, hc]
      obtain ⟨seen1, e1⟩ := inset_no _ (h s (by omega)) seen
      rw [e1]
      exact adm_no m hc fuel (s + 1) seen1 h
theorem say_no (m : Sre.M) (h1 : m.outcome = none) (h2 : m.frames = []) : ((m.say false).runFor 4).outcome = some .failed := by
  have e : (m.say false).step.outcome = some .failed := by
    unfold Sre.M.step Sre.M.say
    simp [h1, h2]
  have e1 : (m.say false).runFor 4 = (m.say false).step := by
    unfold Sre.M.runFor
    rw [if_neg (by show ¬ m.outcome.isSome = true; rw [h1]; decide)]
    unfold Sre.M.runFor
    rw [if_pos (by rw [e]; rfl)]
  rw [e1, e]
theorem from_no (m : Sre.M) (s : Nat) (first : Bool) (hc : m.code = reCode) (h1 : m.outcome = none) (h2 : m.frames = []) (h : ∀ i, i < m.lim → plainCp (m.text.getD i 0)) : ((m.attemptFrom s first).runFor 4).outcome = some .failed := by
  unfold Sre.M.attemptFrom
  have hf : m.hasFirstSet = true := by
    unfold Sre.M.hasFirstSet
    rw [hc]
    rfl
  rw [hf]
  obtain ⟨seen', e⟩ := adm_no m hc (m.lim + 1 - s) s m.seen h
  simp only [Bool.not_true, Bool.false_eq_true, if_false, e]
  exact say_no _ h1 h2
theorem if_no {c : Bool} {a b : Sre.M} (ha : (a.runFor 4).outcome = some .failed) (hb : (b.runFor 4).outcome = some .failed) : ((if c = true then a else b).runFor 4).outcome = some .failed := by
  split <;> assumption
theorem search_no (text : Array Nat) (h : ∀ i, i < text.size → plainCp (text.getD i 0)) :
    (((Sre.forSearch reCode text 1 0 text.size false).runFor 4).outcome = some .failed) := by
  unfold Sre.forSearch
  exact if_no (say_no _ rfl rfl) (from_no _ _ _ rfl rfl rfl h)
end
section
open PySem PySem.W PySem.Calls PySem.Spec PyProof.Rows
set_option maxRecDepth 100000
set_option maxHeartbeats 400000
theorem re_sub : Slot "re.Pattern" "sub" "re.Pattern.sub" :=
  .of (owner := "re.Pattern") (n := "sub") (by rw [typeLookup_type, builtinLookup_eq_fast]; kernel_rfl) (by decide +kernel) (by decide +kernel) (by decide +kernel)
    (by first | exact .inl (by decide +kernel) | exact .inr (by decide +kernel)) (by rw [isSubtype_type]; kernel_rfl)
theorem sub_entry : entryFor table "re.Pattern.sub" = some Builtin.«re.Pattern.sub» := entryFor_of_tree (by kernel_rfl)
theorem loop_entry : entryFor table "re.Pattern.sub.loop" = some Builtin.«re.Pattern.sub.loop» := entryFor_of_tree (by kernel_rfl)
theorem sub_args (a b c : Value) : argsOk "re.Pattern.sub" ⟨[a, b, c], []⟩ := by unfold argsOk; kernel_rfl
theorem call_of_fn : typeLookup (.type "function") "__call__" = pure (some (.builtin "function.__call__")) := by rw [typeLookup_type, builtinLookup_eq_fast]; kernel_rfl
section
variable {prog : Program} {w : World} {A : Around} {E : Value → Shared → Prop} {s : Shared}
open PySem.Builtin.Re in
theorem rules_any {M : Model} {b : Nat → Bool} {nm : Nat → String} {Q : PUnit → Shared → Prop} (h : Q ⟨⟩ s) : ∀ l : List Nat,
    wpAny M A (forIn l PUnit.unit fun i _ => (if b i = true then (rule (nm i) >>= fun _ => pure (ForInStep.yield PUnit.unit)) else pure (ForInStep.yield PUnit.unit))) Q E s
  | [] => by rw [List.forIn_nil]; exact wpAny_pure h
  | i :: l => by
    rw [List.forIn_cons]
    have ih := rules_any (M := M) (b := b) (nm := nm) h l
    refine wpAny_bind ?_
    split
    · refine wpAny_bind (wpAny_rule ?_)
      exact wpAny_pure ih
    · exact wpAny_pure ih
open PySem.Builtin.Re in
theorem run_no {M : Model} {m : Sre.M} {Q : Option Sre.M → Shared → Prop} (hm : (m.runFor 4).outcome = some .failed) (h : Q none s) : wpAny M A (reRunToEnd m) Q E s := by
  unfold reRunToEnd
  refine wpAny_bind ?_
  rw [show (2 : Nat) ^ 64 = 18446744073709551615 + 1 from rfl]
  unfold reDrive
  dsimp only [reTurnSteps]
  rw [if_pos (by rw [hm]; rfl)]
  refine wpAny_pure ?_
  refine wpAny_bind ?_
  refine rules_any ?_ _
  rw [hm]
  exact wpAny_pure h
end
end
section
open PySem PySem.W PySem.Calls PySem.Spec PyProof.Rows
set_option maxRecDepth 100000
set_option maxHeartbeats 400000
section
variable {prog : Program} {w : World} {A : Around} {E : Value → Shared → Prop} {s : Shared}
open PySem.Builtin PySem.Builtin.Re
noncomputable def patO (v0 v1 v3 v4 : Value) (C : Addr) (u1 u6 : Tok) : Obj := { cls := .type "re.Pattern", data := .fields #[v0, v1, .int 1 u1, v3, v4, .ref C, .int 0 u6] }
theorem target_any {P C : Addr} {x : Str} {t u1 u6 : Tok} {v0 v1 v3 v4 : Value} {items : Array Value} {Q : ReTarget → Shared → Prop}
    (hP : s.heap.get? P = some (patO v0 v1 v3 v4 C u1 u6)) (hC : s.heap.get? C = some { cls := .type "tuple", data := .seq items }) (hcode : (items.map reRawOf).map (·.toNat) = reCode)
    (h : Q { pattern := .ref P, string := .str x t, code := reCode, text := x.cps, kind := 0, groups := 1, pos := 0, lim := x.cps.size } s) :
    wpAny (model prog w) A (reWholeTarget (.ref P) (.str x t)) Q E s := by
  unfold reWholeTarget reTextOf reNoCollectionInside reRawItems seqItems?
  refine wpAny_bind (wpAny_fieldsOf hP rfl ?_)
  repeat (any_goals (first | assumption | wp_step))
  show Q ⟨_, _, (Array.map (fun x => x.toNat) (Array.map reRawOf items)), _, _, _, _, _⟩ s
  rw [hcode]; exact h
theorem next_any {M : Model} {x : Str} {v0 v1 : Value} {kd : Nat} {Q : Option Sre.M → Shared → Prop} (hx : ∀ i, i < x.cps.size → plainCp (x.cps.getD i 0)) (h : Q none s) :
    wpAny M A (reNextFound ⟨v0, v1, reCode, x.cps, kd, 1, 0, x.cps.size⟩ (Int.toNat 0) false) Q E s := run_no (search_no x.cps hx) h
theorem loop_run {P C D f : Addr} {x : Str} {t u1 u6 : Tok} {v0 v1 v3 v4 : Value} {items : Array Value} {k : Nat} {R : Fin → Shared → Prop}
    (hP : s.heap.get? P = some (patO v0 v1 v3 v4 C u1 u6)) (hC : s.heap.get? C = some { cls := .type "tuple", data := .seq items }) (hcode : (items.map reRawOf).map (·.toNat) = reCode)
    (hD : s.heap.get? D = some (listOf #[] k)) (hx : ∀ i, i < x.cps.size → plainCp (x.cps.getD i 0)) (hne : 0 < x.cps.size) (hsz : x.cps.size ≤ 1000)
    (h : ∀ t' h' tk, Heap.SameBut D s.heap h' → R (.done (.ret (.str x t'))) { s with heap := h', toks := tk }) :
    wpAny (model prog w) A (Builtin.«re.Pattern.sub.loop» ⟨[.ref P, .str x t, .ref f, rawInt 1, rawInt 0, rawInt 0, rawInt 0, rawInt 0, .bool false, .ref D, .bool false], []⟩) R E s := by
  unfold Builtin.«re.Pattern.sub.loop»
  dsimp only [rawInt]
  refine wpAny_bind (target_any hP hC hcode ?_)
  dsimp only
  repeat (any_goals (first | assumption | refine next_any hx ?_ | wp_step))
  have e0 : x.cps.extract (Int.toNat 0) = x.cps := by simp
  rw [e0, if_neg (by rw [sizeLine_eq]; show ¬ x.cps.size > _; omega)]
  refine wpAny_bind (wpAny_fresh ?_)
  refine wpAny_pure ?_
  refine wpAny_bind (wpAny_updateSeq hD rfl ?_)
  generalize hh : Heap.update _ D _ = h'
  have hs : Heap.SameBut D s.heap h' := hh ▸ Heap.SameBut.update ..
  have hD' : h'.get? D = some (listOf #[.str x s.toks] (k + 1)) := by rw [← hh, Heap.get?_update_self _ hD (by rw [mapSeq_push]; rfl), mapSeq_push]; rfl
  have e1 : x.cps.extract 0 0 = #[] := by simp
  unfold reSlice
  rw [if_pos (by rfl), e1]
  refine wpAny_bind (wpAny_mkStr ?_ (by rw [sizeLine_eq]; decide))
  dsimp only
  unfold seqItems?
  refine wpAny_bind (wpAny_bind (wpAny_load hD' (wpAny_pure ?_)))
  rw [if_neg (by exact Bool.false_ne_true)]
  refine wpAny_bind ?_
  show wpAny _ _ (call (Value.builtin "str.join") _) _ _ _
  refine join_list (ys := [x]) ⟨_, hD', rfl, _, rfl⟩ (.cons _ _ .nil) ?_ fun t' kk => ?_
  · have e2 : x.length = x.cps.size := rfl
    have e3 : ({ cps := #[] } : Str).length = 0 := rfl
    rw [e3]; simp; omega
  · rw [if_neg (by decide), show Txt.join ({ cps := #[] } : Str) [x] = x from txt_join _ _]
    exact wpAny_pure (h _ _ _ hs)
theorem named_sub {f : Addr} {x : Str} {t : Tok} : reNamed "re.Pattern.sub" "sub" ["repl", "string", "count"] 2 [.ref f, .str x t] [] = pure [some (.ref f), some (.str x t), none] := by kernel_rfl
theorem sub_run {P C f : Addr} {x : Str} {t u1 u6 : Tok} {v0 v1 v3 v4 : Value} {items : Array Value} {fd : FuncData} {R : Fin → Shared → Prop}
    (hP : s.heap.get? P = some (patO v0 v1 v3 v4 C u1 u6)) (hC : s.heap.get? C = some { cls := .type "tuple", data := .seq items }) (hcode : (items.map reRawOf).map (·.toNat) = reCode)
    (hf : s.heap.get? f = some { cls := .type "function", data := .func fd })
    (h : ∀ D h' tk, h' = s.heap.push (listOf #[] 0) → D = s.heap.objs.size → R (.again (.builtin "re.Pattern.sub.loop" ⟨[.ref P, .str x t, .ref f, rawInt 1, rawInt 0, rawInt 0, rawInt 0, rawInt 0, .bool false, .ref D, .bool false], []⟩)) { s with heap := h', toks := tk }) :
    wpAny (model prog w) A (Builtin.«re.Pattern.sub» ⟨[.ref P, .ref f, .str x t], []⟩) R E s := by
  obtain ⟨hp, g, d, tk, os⟩ := s
  have hT : ∀ tk', (⟨hp, g, d, tk', os⟩ : Shared).TypeIs (.ref f) "function" := fun _ => ⟨_, hf, rfl⟩
  have f1 := call_of_fn
  have f2 : isSubtype (.type "str") (.type "bytearray") = pure false := by rw [isSubtype_type]; kernel_rfl
  unfold Builtin.«re.Pattern.sub» reSubstitute
  dsimp only
  rw [named_sub]
  refine wpAny_bind (wpAny_pure ?_)
  dsimp only
  repeat (any_goals (first | with_reducible assumption | with_reducible exact hT _ | with_reducible refine target_any hP hC hcode ?_ | wp_step))
  exact h _ _ _ rfl rfl
theorem call_sub {P C f : Addr} {x : Str} {t u1 u6 : Tok} {v0 v1 v3 v4 : Value} {items : Array Value} {fd : FuncData} {Q : Value → Shared → Prop}
    (hP : s.heap.get? P = some (patO v0 v1 v3 v4 C u1 u6)) (hC : s.heap.get? C = some { cls := .type "tuple", data := .seq items }) (hcode : (items.map reRawOf).map (·.toNat) = reCode)
    (hf : s.heap.get? f = some { cls := .type "function", data := .func fd }) (hx : ∀ i, i < x.cps.size → plainCp (x.cps.getD i 0)) (hne : 0 < x.cps.size) (hsz : x.cps.size ≤ 1000)
    (h : ∀ t' h' tk, (∀ b o, s.heap.get? b = some o → h'.get? b = some o) → Q (.str x t') { s with heap := h', toks := tk }) :
    wpAny (model prog w) A (call (.builtin "re.Pattern.sub") [.ref P, .ref f, .str x t]) Q E s := by
  have hT : s.TypeIs (.ref P) "re.Pattern" := ⟨_, hP, rfl⟩
  refine wpAny_call (codeAny_call_builtin re_sub.plain sub_entry (re_sub.check _ _ _ _ _ _ _ _ hT (sub_args _ _ _) ?_))
  refine sub_run hP hC hcode hf fun D h' tk eh eD => ⟨Code.quiet_builtin _ (by decide +kernel), codeAny_builtin loop_entry ?_⟩
  subst eh eD
  have kp : ∀ b o, s.heap.get? b = some o → (s.heap.push (listOf #[] 0)).get? b = some o := fun b o e => Heap.get?_push_of_some _ e
  refine loop_run (k := 0) (kp _ _ hP) (kp _ _ hC) hcode (Heap.get?_push_size _ rfl) hx hne hsz fun t' h' tk' hs => ?_
  exact h t' h' tk' fun b o e => hs.extBut b o (Nat.ne_of_lt (Heap.lt_size e)) (kp b o e)
end
end
section
open PySem PySem.W PySem.Calls PySem.Spec PyProof.Rows
set_option maxRecDepth 100000
set_option maxHeartbeats 400000
theorem any_pos {α : Type} {M : Model} {A : Around} {t : Sem α} {Q : α → Shared → Prop} {E : Value → Shared → Prop} {h : Heap} {g : Array GenState} {d : Drawn} {k : Nat} {o : OsState}
    (x : ∀ k, 0 < k → wpAny M A t Q E ⟨h, g, d, k, o⟩) : wpAny M A t Q E ⟨h, g, d, k + 1, o⟩ := x _ (Nat.succ_pos k)
open PySem.Builtin PySem.Builtin.Str
theorem occ_nil (x : Str) (c limit : Nat) (hl : 1 ≤ limit) (h : ∀ i, i < x.cps.size → x.cps.getD i 0 ≠ c) : occurrences x ⟨#[c]⟩ 0 x.length limit = [] := by
  rcases StrLaws.occ_head_from x ⟨#[c]⟩ 0 limit hl with ⟨h0, _⟩ | ⟨k, r, _, _, hk, _⟩
  · exact h0
  · have hm := (StrLaws.subAt_one x c k).mp hk
    have hlt : k < x.cps.size := by have := hk.1; have e : (⟨#[c]⟩ : Str).length = 1 := rfl; have e2 : x.length = x.cps.size := rfl; omega
    exact absurd (StrLaws.getD_of_getElem? hm) (h k hlt)
section
variable {prog : Program} {w : World} {A : Around} {E : Value → Shared → Prop} {s : Shared} {x y z : Str} {t u v : Tok} {Q : Value → Shared → Prop}
theorem rep_none {c : Nat} (hy : y = ⟨#[c]⟩) (h : ∀ i, i < x.cps.size → x.cps.getD i 0 ≠ c) (hq : Q (.str x t) s) :
    wpAny (model prog w) A (call (.builtin "str.replace") [.str x t, .str y u, .str z v]) Q E s := by
  subst hy
  have e := occ_nil x c (x.length + 1) (by omega) h
  have hc : ((occurrences x ⟨#[c]⟩ 0 x.length (x.length + 1)).isEmpty || ((⟨#[c]⟩ : Str).length == 0 && z.length == 0)) = true := by rw [e]; rfl
  refine call_gives F.slot_str_replace (typeIs_str _ _ _) F.entry_str_replace (F.args_str_replace_3 _ _ _) (gives_str_replace x _ z t u v fun hf => by rw [hc] at hf; cases hf) ?_
  rw [if_pos hc]
  exact hq
end
theorem rep_id {x z : Str} {c : Nat} (h : ∀ i, i < x.cps.size → x.cps.getD i 0 ≠ c) : Txt.replace x ⟨#[c]⟩ z = x := by
  unfold Txt.replace
  rw [occ_nil x c (x.length + 1) (by omega) h]
  rfl
/-- a sign that may stand in a bracket here -/
noncomputable def okCp (c : Nat) : Prop := plainCp c ∧ c ≠ 91 ∧ c ≠ 92 ∧ c ≠ 93 ∧ c ≠ 94
theorem cut_get {x : Str} {a b i : Nat} (hb : b ≤ x.cps.size) (h : i < (cut x a b).cps.size) : (cut x a b).cps.getD i 0 = x.cps.getD (a + i) 0 ∧ a + i < b := by
  have hs : (cut x a b).cps.size = min (b - a) (x.cps.size - a) := by unfold cut; simp
  have hlt : a + i < b := by omega
  refine ⟨?_, hlt⟩
  unfold cut
  have e1 : a + i < x.cps.size := by omega
  simp [Array.getD, e1]
  rw [dif_pos (by omega)]
theorem cut_size {x : Str} {a b : Nat} (hb : b ≤ x.cps.size) : (cut x a b).cps.size = b - a := by unfold cut; simp; omega
end
section
open PySem PySem.W PySem.Calls PySem.Spec PyProof.Rows
set_option maxRecDepth 100000
set_option maxHeartbeats 400000
theorem plain_pat : PlainAttrs "re.Pattern" := ⟨⟨"object.__getattribute__", by rw [typeLookup_type, builtinLookup_eq_fast]; kernel_rfl, by decide +kernel⟩, by rw [typeLookup_type, builtinLookup_eq_fast]; kernel_rfl⟩
theorem type_sub : typeOf (.builtin "re.Pattern.sub") = pure (.type "method_descriptor") := by show builtinType _ = _; rw [builtinType_eq_fast]; kernel_rfl
theorem getM_sub {M : Model} {A : Around} {E : Value → Shared → Prop} {s : Shared} {P C : Addr} {v0 v1 v3 v4 : Value} {u1 u6 : Tok} {pl : Sem Bool} {Q : Value × List Value → Shared → Prop}
    (hP : s.heap.get? P = some (patO v0 v1 v3 v4 C u1 u6)) (h : Q (.builtin "re.Pattern.sub", [.ref P]) s) : wpAny M A (getMethod (.ref P) "sub" pl) Q E s :=
  getMethod_builtin (T := "re.Pattern") ⟨_, hP, rfl⟩ plain_pat re_sub type_sub (fun a e => by cases e; exact ⟨_, hP, rfl⟩) h
theorem pat_in {w : World} {g : Heap} (X : (K39 w.params).In g) : ∃ v0 v1 v3 v4 u1 u6 items, g.get? 36 = some (patO v0 v1 v3 v4 35 u1 u6) ∧ g.get? 35 = some { cls := .type "tuple", data := .seq items } ∧ (items.map Builtin.Re.reRawOf).map (·.toNat) = reCode := by
  refine ⟨.str (Str.ofString "([&~|])") 285, .int 32 320, .none, .none, 0, 0, reCode.map fun (c : Nat) => Value.int c 0, X 36 _ (by kernel_rfl), X 35 _ (by kernel_rfl), by decide +kernel⟩
end
section
open PySem PySem.W PySem.Calls PySem.Spec PyProof.Rows
set_option maxRecDepth 100000
set_option maxHeartbeats 400000
theorem strs_set {y : Str} {u : Tok} : ∀ {vs : List Value} {cs : List Str}, StrsAre vs cs → ∀ j : Nat, StrsAre (vs.set j (.str y u)) (cs.set j y)
  | _, _, .nil, _ => .nil
  | _, _, .cons _ _ h, 0 => .cons y u h
  | _, _, .cons z t h, j + 1 => .cons z t (strs_set h j)
theorem strs_del : ∀ {vs : List Value} {cs : List Str}, StrsAre vs cs → ∀ j : Nat, StrsAre (vs.eraseIdx j) (cs.eraseIdx j)
  | _, _, .nil, _ => .nil
  | _, _, .cons _ _ h, 0 => h
  | _, _, .cons z t h, j + 1 => .cons z t (strs_del h j)
theorem strs_snoc {y : Str} {u : Tok} : ∀ {vs : List Value} {cs : List Str}, StrsAre vs cs → StrsAre (vs ++ [.str y u]) (cs ++ [y])
  | _, _, .nil => .cons y u .nil
  | _, _, .cons z t h => .cons z t (strs_snoc h)
theorem strs_at {vs : List Value} {cs : List Str} (h : StrsAre vs cs) {j : Nat} (hj : j < cs.length) : ∃ t, vs[j]? = some (.str (cs.getD j Str.empty) t) := by
  have hl := h.len_eq
  obtain ⟨y, t, e1, e2⟩ := h.item j vs[j] (by rw [List.getElem?_eq_getElem (by omega)])
  refine ⟨t, ?_⟩
  rw [List.getElem?_eq_getElem (by omega), e1, List.getD_eq_getElem?_getD, e2]; rfl
theorem ki_setL_of {v : Value} : ∀ {l : List Value} {k : Nat}, k < l.length → ki_setL l k v = some (l.set k v)
  | [], _, h => absurd h (Nat.not_lt_zero _)
  | x :: r, 0, _ => rfl
  | x :: r, k + 1, h => by unfold ki_setL; rw [ki_setL_of (Nat.lt_of_succ_lt_succ h)]; rfl
theorem ki_delL_of : ∀ {l : List Value} {k : Nat}, k < l.length → ki_delL l k = some (l.eraseIdx k)
  | [], _, h => absurd h (Nat.not_lt_zero _)
  | x :: r, 0, _ => rfl
  | x :: r, k + 1, h => by unfold ki_delL; rw [ki_delL_of (Nat.lt_of_succ_lt_succ h)]; rfl
theorem upd_of {D : Addr} {o o' : Obj} : ∀ {l : List (Addr × Obj)} {g : Obj → List (Addr × Obj)}, UpdF D o l g → Upd D o o' l (g o')
  | _, _, .head h => .head h
  | _, _, .tail h r => .tail h (upd_of r)
section
variable {prog : Program} {w : World} {A : Around} {E : Value → Shared → Prop} {s : Shared} {h₀ : Heap} {L D : Addr} {m : Str → Option Value} {news : List (Addr × Obj)} {gU : Obj → List (Addr × Obj)} {vs : List Value} {cs : List Str} {n : Nat} {k : Int} {t u : Tok}
theorem sl_get {Q : Value → Shared → Prop} (N : News h₀ L s.heap news) (hm : (D, listOf vs.toArray n) ∈ news) (hs : StrsAre vs cs) (h0 : 0 ≤ k) (h1 : k < cs.length) (h2 : cs.length ≤ 1000) (h : ∀ t, Q (.str (cs.getD k.toNat Str.empty) t) s) :
    wpAny (model prog w) A (getItem (.ref D) (.int k u)) Q E s := by
  obtain ⟨t, e⟩ := strs_at hs (j := k.toNat) (by omega)
  exact wpAny_getItem_list (PySem.IsL.isList (n := n) (N _ hm).1) h0 (by omega) (by simpa using e) (h t)
theorem sl_getLast {Q : Value → Shared → Prop} (N : News h₀ L s.heap news) (hm : (D, listOf vs.toArray n) ∈ news) (hs : StrsAre vs cs) (h1 : 0 < cs.length) (h2 : cs.length ≤ 1000) (h : ∀ t, Q (.str (cs.getD (cs.length - 1) Str.empty) t) s) :
    wpAny (model prog w) A (getItem (.ref D) (.int (-1) u)) Q E s := by
  have hl : vs.toArray.size = cs.length := by rw [List.size_toArray]; exact hs.len_eq
  obtain ⟨t, e⟩ := strs_at hs (j := cs.length - 1) (by omega)
  refine wpAny_getItem_list_neg (PySem.IsL.isList (n := n) (N _ hm).1) (by decide) (by omega) (by decide) ?_ (h t)
  rw [show ((-1 : Int) + (vs.toArray.size : Int)).toNat = cs.length - 1 from by omega]
  simpa using e
theorem sl_sub {value slice : PySem.Expr} {Q : Value → Shared → Prop} (N : News h₀ L s.heap news) (hm : (D, listOf vs.toArray n) ∈ news) (hs : StrsAre vs cs) (h0 : 0 ≤ k) (h1 : k < cs.length) (h2 : cs.length ≤ 1000) (h : ∀ t, Q (.str (cs.getD k.toNat Str.empty) t) s)
    (he : subscripted slice false (.ref D) (.int k u) = operate [.ref D, .int k u] (getItem (.ref D) (.int k u)) := by with_unfolding_all rfl) :
    wpAny (model prog w) A (subscriptTail value slice (.ref D) (.int k u)) Q E s :=
  tail_any (PySem.IsL.isList (n := n) (N _ hm).1).typeIs slot_list_getitem.lookup (sl_get N hm hs h0 h1 h2 h) he
theorem sl_set {y : Str} {Q : Unit → Shared → Prop} (F : Fr h₀ L s.heap m) (N : News h₀ L s.heap news) (U : UpdF D (listOf vs.toArray n) news gU) (hs : StrsAre vs cs) (h0 : 0 ≤ k) (h1 : k < cs.length) (h2 : cs.length ≤ 1000)
    (h : ∀ h', Fr h₀ L h' m → News h₀ L h' (gU (listOf (vs.set k.toNat (.str y u)).toArray n)) → Q () { s with heap := h' }) : wpAny (model prog w) A (setItem (.ref D) (.int k t) (.str y u)) Q E s := by
  have hl := hs.len_eq
  exact ki_set F N h0 (by omega) (ki_setL_of (by show k.toNat < vs.toArray.toList.length; simp; omega)) (upd_of U) h
theorem sl_setLast {y : Str} {Q : Unit → Shared → Prop} (F : Fr h₀ L s.heap m) (N : News h₀ L s.heap news) (U : UpdF D (listOf vs.toArray n) news gU) (hs : StrsAre vs cs) (h1 : 0 < cs.length)
    (h : ∀ h', Fr h₀ L h' m → News h₀ L h' (gU (listOf (vs.set (cs.length - 1) (.str y u)).toArray n)) → Q () { s with heap := h' }) : wpAny (model prog w) A (setItem (.ref D) (.int (-1) t) (.str y u)) Q E s := by
  have hl := hs.len_eq
  refine ki_setNeg F N (by decide) (by decide) (j := cs.length - 1) ?_ (ki_setL_of (by show _ < vs.toArray.toList.length; simp; omega)) (upd_of U) h
  rw [PySem.seqIndex_neg (by decide) (by simp; omega)]
  congr 1
  simp; omega
theorem sl_del {Q : Unit → Shared → Prop} (F : Fr h₀ L s.heap m) (N : News h₀ L s.heap news) (U : UpdF D (listOf vs.toArray n) news gU) (hs : StrsAre vs cs) (h0 : 0 ≤ k) (h1 : k < cs.length) (h2 : cs.length ≤ 1000)
    (h : ∀ h', Fr h₀ L h' m → News h₀ L h' (gU (listOf (vs.eraseIdx k.toNat).toArray (n + 1))) → Q () { s with heap := h' }) : wpAny (model prog w) A (delItem (.ref D) (.int k t)) Q E s := by
  have hl := hs.len_eq
  refine ki_del F N (k := k.toNat) ?_ ?_ (ki_delL_of (by show k.toNat < vs.toArray.toList.length; simp; omega)) (upd_of U) (by rw [sizeLine_eq]; simp; omega) h
  · unfold Builtin.List.listFitsIndex
    simp
    omega
  · unfold seqIndex?
    simp only [show ¬ k < 0 from by omega, if_false]
    rw [if_pos (by simp; omega)]
end
theorem at_last {x : Str} (h : 0 < x.cps.size) : Txt.item x (-1) = ⟨#[x.cps.getD (x.cps.size - 1) 0]⟩ := by
  unfold Txt.item Txt.charAt
  rw [PySem.seqIndex_neg (by decide) (by show -((x.cps.size : Nat) : Int) ≤ -1; omega), Option.bind_some]
  rw [show ((-1 : Int) + (x.length : Nat)).toNat = x.cps.size - 1 from by show ((-1 : Int) + (x.cps.size : Nat)).toNat = _; omega]
  rw [Array.getElem?_eq_getElem (by omega)]
  simp [Array.getD]
  omega
section
variable {prog : Program} {w : World} {A : Around} {E : Value → Shared → Prop} {s : Shared} {value slice : PySem.Expr} {x : Str} {t : Tok} {Q : Value → Shared → Prop}
theorem str_last {u : Tok} (h1 : 0 < x.cps.size) (hsz : x.cps.size ≤ 16777216)
    (h : Q (.str ⟨#[x.cps.getD (x.cps.size - 1) 0]⟩ s.toks) { s with toks := s.toks + 1 })
    (hs : subscripted slice false (.str x t) (.int (-1) u) = operate [.str x t, .int (-1) u] (getItem (.str x t) (.int (-1) u)) := by with_unfolding_all rfl)
    (ht : ∀ r, letTemporaryGo value (.str x t) r = pure () := by intro _; with_unfolding_all rfl) :
    wpAny (model prog w) A (subscriptTail value slice (.str x t) (.int (-1) u)) Q E s := by
  have hl : x.length = x.cps.size := rfl
  refine item_str (fitsSsize_of (N := 9223372036854775808) (by omega) (by omega) (Int.le_refl _)) (by omega) (by omega) (fun _ => ?_) hs ht
  rw [at_last h1]; exact h
theorem gt_one {c d : Nat} {u v : Tok} (h : Q (.bool (decide (d < c))) s) : wpAny (model prog w) A (compareOp .Gt (.str ⟨#[c]⟩ u) (.str ⟨#[d]⟩ v)) Q E s := by
  refine P.gt_str ?_
  have e : (decide ((⟨#[d]⟩ : Str).cps.toList < (⟨#[c]⟩ : Str).cps.toList)) = decide (d < c) := by
    have : ((⟨#[d]⟩ : Str).cps.toList < (⟨#[c]⟩ : Str).cps.toList) ↔ d < c := by
      exact List.cons_lt_cons_iff.trans ⟨fun h => h.elim id fun h => absurd h.2 (List.not_lt_nil _), Or.inl⟩
    exact decide_eq_decide.mpr this
  rw [e]; exact h
end
open PySem PySem.W PySem.Calls PySem.Spec PyProof.Rows
section
variable {prog : Program} {w : World} {A : Around} {E : Value → Shared → Prop} {s : Shared} {h₀ : Heap} {L D : Addr} {m : Str → Option Value} {news : List (Addr × Obj)} {vs : List Value} {cs : List Str} {n : Nat} {k : Int} {t u : Tok}
theorem sl_subE {value slice : PySem.Expr} {y : Str} {Q : Value → Shared → Prop} (N : News h₀ L s.heap news) (hm : (D, listOf vs.toArray n) ∈ news) (hs : StrsAre vs cs) (hv : cs.getD k.toNat Str.empty = y) (h0 : 0 ≤ k) (h1 : k < cs.length) (h2 : cs.length ≤ 1000) (h : ∀ t, Q (.str y t) s)
    (he : subscripted slice false (.ref D) (.int k u) = operate [.ref D, .int k u] (getItem (.ref D) (.int k u)) := by with_unfolding_all rfl) :
    wpAny (model prog w) A (subscriptTail value slice (.ref D) (.int k u)) Q E s := sl_sub N hm hs h0 h1 h2 (fun t => hv ▸ h t) he
theorem gt_oneE {c d : Nat} {b : Bool} {u v : Tok} {Q : Value → Shared → Prop} (hb : decide (d < c) = b) (h : Q (.bool b) s) : wpAny (model prog w) A (compareOp .Gt (.str ⟨#[c]⟩ u) (.str ⟨#[d]⟩ v)) Q E s := gt_one (hb ▸ h)
theorem Knows.fr1 {h : Heap} {L : Addr} {m : Str → Option Value} {l : List (Str × Value)} {a : Str} {va : Option Value} (F : Fr h₀ L h (fun z => if z = a then va else m z)) (hk : Knows m l) :
    Fr h₀ L h (fun z => if z = a then va else (l.lookup z).or (m z)) := by
  have e : (fun y => (l.lookup y).or (m y)) = m := by
    funext y
    cases q : l.lookup y with
    | none => rfl
    | some v => exact (hk.get y v q).symm
  have e2 : (fun z => if z = a then va else (l.lookup z).or (m z)) = fun z => if z = a then va else m z := by
    funext z
    rw [show (l.lookup z).or (m z) = m z from congrFun e z]
  rw [e2]; exact F
end
end
section
open PySem PySem.W PySem.Calls PySem.Spec PyProof.Rows
set_option maxRecDepth 100000
set_option maxHeartbeats 400000
/-- the first hyphen of x in k .. j - 1 -/
noncomputable def nextH (x : Str) (k j : Nat) : Option Nat := (List.range' k (j - k)).find? fun p => x.cps.getD p 0 == 45
theorem nextH_none {x : Str} {k j : Nat} (h : ∀ v, k ≤ v → v < j → x.cps.getD v 0 ≠ 45) : nextH x k j = none := by
  unfold nextH
  refine List.find?_eq_none.mpr fun p hp => ?_
  have := List.mem_range'_1.mp hp
  simpa using h p (by omega) (by omega)
theorem find_first {p : Nat} {f : Nat → Bool} (hp : f p = true) (n : Nat) : ∀ k : Nat, k ≤ p → p < k + n → (∀ v, k ≤ v → v < p → f v = false) → (List.range' k n).find? f = some p := by
  induction n with
  | zero => intro k h1 h2 _; omega
  | succ n ih =>
    intro k h1 h2 hn
    rw [List.range'_succ]
    by_cases e : k = p
    · subst e; rw [List.find?_cons_of_pos hp]
    · rw [List.find?_cons_of_neg (by rw [hn k (Nat.le_refl _) (by omega)]; decide)]
      exact ih (k + 1) (by omega) (by omega) fun v h3 h4 => hn v (by omega) h4
theorem nextH_some {x : Str} {k j p : Nat} (h1 : k ≤ p) (h2 : p < j) (h3 : x.cps.getD p 0 = 45) (h4 : ∀ v, k ≤ v → v < p → x.cps.getD v 0 ≠ 45) : nextH x k j = some p :=
  find_first (f := fun v => _) (by simpa using h3) (j - k) k h1 (by omega) fun v a b => by simpa using h4 v a b
theorem nextH_spec {x : Str} {k j p : Nat} (h : nextH x k j = some p) : k ≤ p ∧ p < j := by
  unfold nextH at h
  have := List.mem_range'_1.mp (List.mem_of_find?_eq_some h)
  omega
/-- the chunks from place i on, the search from k on -/
noncomputable def chunksAt (x : Str) (j i k : Nat) : List Str :=
  match _h : nextH x k j with
  | none => [cut x i j]
  | some p => cut x i p :: chunksAt x j (p + 1) (p + 3)
termination_by j - k
decreasing_by
  have := nextH_spec _h
  omega
theorem chunksAt_none {x : Str} {j i k : Nat} (h : ∀ v, k ≤ v → v < j → x.cps.getD v 0 ≠ 45) : chunksAt x j i k = [cut x i j] := by
  rw [chunksAt]
  split
  · rfl
  · rename_i p e; rw [nextH_none h] at e; cases e
theorem chunksAt_some {x : Str} {j i k p : Nat} (h1 : k ≤ p) (h2 : p < j) (h3 : x.cps.getD p 0 = 45) (h4 : ∀ v, k ≤ v → v < p → x.cps.getD v 0 ≠ 45) : chunksAt x j i k = cut x i p :: chunksAt x j (p + 1) (p + 3) := by
  rw [chunksAt]
  split
  · rename_i e; rw [nextH_some h1 h2 h3 h4] at e; cases e
  · rename_i q e; rw [nextH_some h1 h2 h3 h4] at e; cases e; rfl
noncomputable def lastC (c : Str) : Nat := c.cps.getD (c.cps.size - 1) 0
noncomputable def firstC (c : Str) : Nat := c.cps.getD 0 0
noncomputable def meld (c d : Str) : Str := Txt.slice c none (some (-1)) ++ Txt.slice d (some 1) none
noncomputable def fallC : List Str → List Str
  | [] => []
  | c :: r => match fallC r with
    | [] => [c]
    | d :: t => if firstC d < lastC c then meld c d :: t else c :: d :: t
theorem fallC_yes {c d : Str} {r t : List Str} (h : fallC r = d :: t) (hc : firstC d < lastC c) : fallC (c :: r) = meld c d :: t := by
  rw [fallC, h]; exact if_pos hc
theorem fallC_no {c d : Str} {r t : List Str} (h : fallC r = d :: t) (hc : ¬ firstC d < lastC c) : fallC (c :: r) = c :: d :: t := by
  rw [fallC, h]; exact if_neg hc
/-- an empty last chunk turns into a hyphen behind the one before it -/
noncomputable def fixC (cs : List Str) : List Str := if (cs.getLast?.getD Str.empty).cps.size = 0 then cs.dropLast.set (cs.length - 2) (cs.getD (cs.length - 2) Str.empty ++ Str.ofString "-") else cs
noncomputable def escC (y : Str) : Str := Txt.replace (Txt.replace y (Str.ofString "\\") (Str.ofString "\\\\")) (Str.ofString "-") (Str.ofString "\\-")
/-- the chunk turn -/
theorem fall_turn {cs0 : List Str} {k : Nat} {d : Str} {t : List Str} (h0 : 1 ≤ k) (h1 : k < cs0.length) (hf : fallC (cs0.drop k) = d :: t) :
    (cs0.take k ++ d :: t).getD (k - 1) Str.empty = cs0.getD (k - 1) Str.empty ∧ (cs0.take k ++ d :: t).getD k Str.empty = d ∧
    (firstC d < lastC (cs0.getD (k - 1) Str.empty) → ((cs0.take k ++ d :: t).set (k - 1) (meld (cs0.getD (k - 1) Str.empty) d)).eraseIdx k = cs0.take (k - 1) ++ fallC (cs0.drop (k - 1))) ∧
    (¬ firstC d < lastC (cs0.getD (k - 1) Str.empty) → cs0.take k ++ d :: t = cs0.take (k - 1) ++ fallC (cs0.drop (k - 1))) := by
  obtain ⟨j, rfl⟩ : ∃ j, k = j + 1 := ⟨k - 1, by omega⟩
  have hj : j < cs0.length := by omega
  have e1 : cs0.take (j + 1) = cs0.take j ++ [cs0[j]] := by rw [List.take_add_one, List.getElem?_eq_getElem hj]; rfl
  have e2 : cs0.drop j = cs0[j] :: cs0.drop (j + 1) := List.drop_eq_getElem_cons hj
  have e3 : cs0.getD j Str.empty = cs0[j] := by simp [hj]
  have l1 : (cs0.take j).length = j := by simp; omega
  simp only [Nat.add_sub_cancel]
  rw [e3, e1, e2]
  clear e1 e2 e3
  generalize cs0.take j = P at l1
  generalize cs0[j] = c
  refine ⟨?_, ?_, fun hc => ?_, fun hc => ?_⟩
  · simp [l1]
  · simp [l1]
  · rw [fallC_yes hf hc]
    rw [List.append_assoc, List.set_append_right _ _ (by omega), l1, Nat.sub_self]
    rw [List.eraseIdx_append_of_length_le (by omega), l1]
    simp
  · rw [fallC_no hf hc]; simp
open PySem PySem.W PySem.Calls PySem.Spec PyProof.Rows
theorem fallC_len : ∀ l : List Str, (fallC l).length ≤ l.length
  | [] => Nat.le_refl _
  | c :: r => by
    have ih := fallC_len r
    rw [fallC]
    cases e : fallC r with
    | nil => simp
    | cons d t =>
      rw [e] at ih
      dsimp only
      split
      · simp only [List.length_cons] at ih ⊢; omega
      · simp only [List.length_cons] at ih ⊢; omega
theorem fall_start (cs0 : List Str) : cs0.take (cs0.length - 1 - 0) ++ fallC (cs0.drop (cs0.length - 1 - 0)) = cs0 := by
  rcases Nat.eq_zero_or_pos cs0.length with h | h
  · have : cs0 = [] := List.length_eq_zero_iff.mp h
    subst this; rfl
  · have e : cs0.drop (cs0.length - 1 - 0) = [cs0[cs0.length - 1]] := by
      rw [Nat.sub_zero, List.drop_eq_getElem_cons (by omega)]
      rw [show cs0.length - 1 + 1 = cs0.length from by omega, List.drop_length]
    have e2 : fallC [cs0[cs0.length - 1]] = [cs0[cs0.length - 1]] := rfl
    rw [e, e2, ← e, List.take_append_drop]
open PySem PySem.W PySem.Calls PySem.Spec PyProof.Rows
theorem fixC_keep {done : List Str} {c : Str} (h : 0 < c.cps.size) : fixC (done ++ [c]) = done ++ [c] := by
  unfold fixC
  rw [List.getLast?_concat]
  exact if_neg (by show ¬ c.cps.size = 0; omega)
theorem fixC_mend {done : List Str} {c : Str} (h : c.cps.size = 0) (h2 : 0 < done.length) : fixC (done ++ [c]) = done.set (done.length - 1) (done.getD (done.length - 1) Str.empty ++ Str.ofString "-") := by
  unfold fixC
  rw [List.getLast?_concat]
  rw [if_pos (by exact h), List.dropLast_concat]
  have e : (done ++ [c]).length - 2 = done.length - 1 := by simp
  rw [e]
  congr 2
  rw [List.getD_eq_getElem?_getD, List.getD_eq_getElem?_getD, List.getElem?_append_left (by omega)]
end
section
open PySem PySem.W PySem.Calls PySem.Spec PyProof.Rows
set_option maxRecDepth 100000
set_option maxHeartbeats 1000000
theorem eq_one {prog : Program} {w : World} {A : Around} {E : Value → Shared → Prop} {s : Shared} {y z : Str} {t u : Tok} {b : Bool} {Q : Value → Shared → Prop} (hb : (y == z) = b) (h : Q (.bool b) s) :
    wpAny (model prog w) A (compareOp .Eq (.str y t) (.str z u)) Q E s := eq_str (by rw [← hb] at h; exact h)
theorem ne_one {prog : Program} {w : World} {A : Around} {E : Value → Shared → Prop} {s : Shared} {y z : Str} {t u : Tok} {b : Bool} {Q : Value → Shared → Prop} (hb : (y == z) = b) (h : Q (.bool (!b)) s) :
    wpAny (model prog w) A (compareOp .NotEq (.str y t) (.str z u)) Q E s := ne_str (by subst hb; exact h)
theorem one_eq {c d : Nat} {z : Str} (hz : z = ⟨#[d]⟩) : ((⟨#[c]⟩ : Str) == z) = (c == d) := by
  subst hz
  by_cases h : c = d
  · subst h; simp
  · rw [beq_eq_false_iff_ne.mpr h, beq_eq_false_iff_ne]
    intro e
    injection e with e
    injection e with e
    injection e with e
    exact h e
theorem ite_no {c : Bool} {A B : Prop} {inst : Decidable (c = true)} (hc : c = false) (h : B) : @ite Prop (c = true) inst A B := by rw [if_neg (by rw [hc]; exact Bool.false_ne_true)]; exact h
noncomputable def fnBody (i : Nat) : List Stmt := match PySem.Challenge.pw_rx0051_01.main.body.drop i with | .FunctionDef _ _ b _ _ _ _ _ _ _ :: _ => b | _ => []
noncomputable def fnScope (i : Nat) : Scope := match PySem.Challenge.pw_rx0051_01.main.body.drop i with | .FunctionDef _ _ _ _ _ _ sc _ _ _ :: _ => sc | _ => default
noncomputable def hdBody : List Stmt → List Stmt | .While _ b _ _ :: _ => b | .If _ b _ _ :: _ => b | .For _ _ b _ _ :: _ => b | _ => []
noncomputable def hdElse : List Stmt → List Stmt | .If _ _ e _ :: _ => e | _ => []
/-- the rows of _translate behind 'j >= n' -/
noncomputable def trElse : List Stmt := hdElse ((hdBody (hdElse (hdElse ((hdBody ((fnBody 8).drop 3)).drop 2)))).drop 4)
noncomputable def trRest : List Stmt := trElse.drop 2
noncomputable def trCh : List Stmt := hdElse (trElse.drop 1)
noncomputable def trScope : Scope := fnScope 8
end
section
open PySem PySem.W PySem.Calls PySem.Spec PyProof.Rows
set_option maxRecDepth 100000
set_option maxHeartbeats 400000
section
variable {prog : Program} {w : World} {A : Around} {E : Value → Shared → Prop} {s : Shared} {env : Env} {h₀ : Heap} {x : Str} {body : List Stmt} {Q : Flow → Shared → Prop}
theorem for_down {r : Addr} {a₀ b₀ : Int} {t₀ u₀ v₀ : Tok} {n : Nat} {m₀ : Str → Option Value} {news : List (Addr × Obj)} (J : Nat → (Str → Option Value) → List (Addr × Obj) → Prop)
    (hh : A.handled = none) (hr : IsRange s.heap r a₀ b₀ (-1) t₀ u₀ v₀) (hsmall : Builtin.Range.small a₀ b₀ (-1) = true) (hn : Builtin.Range.rangeSize a₀ b₀ (-1) = (n : Int)) (F : Fr h₀ env.locals s.heap m₀) (N : News h₀ env.locals s.heap news) (hj : J 0 m₀ news)
    (turn : ∀ (i : Nat) t m₁ news₁ h tk own, i < n → news₁.map (·.1) = news.map (·.1) → OwnOff own (news.map (·.1)) → J i m₁ news₁ → Fr h₀ env.locals h (fun y => if y = x then some (.int (a₀ - (i : Int)) t) else m₁ y) → News h₀ env.locals h (news₁ ++ own) →
      wpAny (model prog w) A (execs body env) (fun f s' => Stop (InvPostN h₀ env.locals (J (i + 1)) own (news.map (·.1)) { s with heap := h, toks := tk } Q f s')) E { s with heap := h, toks := tk })
    (done : ∀ m₁ news₁ h tk, J n m₁ news₁ → Fr h₀ env.locals h m₁ → News h₀ env.locals h news₁ → Q .next { s with heap := h, toks := tk }) :
    wpAny (model prog w) A (pyIter (.ref r)) (fun it s₂ => LoopAtV prog w A h₀ env x body Q E it s₂) E s := by
  refine wpAny_pyIter_range hr hsmall ?_
  have W : Walks prog w A s.heap.objs.size [s.heap.objs.size] [s.heap.objs.size] n (fun i v => i < n ∧ ∃ t, v = .int (a₀ + i * (-1)) t)
      (fun i h => IsRangeIter h s.heap.objs.size (a₀ + (i : Nat) * (-1)) ((n : Int) - (i : Nat)) (-1)) := (Walks.range hh _ a₀ (-1) n).bound
  refine loop_invN J W ?_ ?_ ?_ ?_ (by show IsRangeIter _ _ _ _ _; rw [hn]; simpa using Heap.get?_push_size _ rfl) (F.push _) (fun p hp => ⟨Heap.get?_push_of_some _ (N p hp).1, (N p hp).2⟩) hj ?_ done
  · intro hm
    exact absurd F.ns.lt ((List.mem_singleton.mp hm) ▸ Nat.lt_irrefl _)
  · intro b hb
    rw [List.mem_singleton.mp hb]
    exact next_is_new F
  · intro p hp hI
    exact absurd (Heap.lt_size (N p hp).1) ((List.mem_singleton.mp hI) ▸ Nat.lt_irrefl _)
  · intro p hp hI
    exact absurd (Heap.lt_size (N p hp).1) ((List.mem_singleton.mp hI) ▸ Nat.lt_irrefl _)
  · rintro i v m₁ nx h tk own hi ⟨_, t, rfl⟩ ha hoff hJ F₁ N₁
    have e1 : a₀ + (i : Int) * (-1) = a₀ - (i : Int) := by omega
    rw [e1] at F₁
    exact wpAny_mono (turn i t m₁ nx h tk own hi ha hoff hJ F₁ N₁) (fun f s' x => x.out) fun _ _ x => x
theorem inv_end {g : Heap} {L D : Addr} {o : Obj} {J : (Str → Option Value) → List (Addr × Obj) → Prop} {own rest : List (Addr × Obj)} {adr : List Addr} {s₁ : Shared} {h : Heap} {tk : Tok} {m : Str → Option Value}
    (F : Fr g L h m) (N : News g L h ((D, o) :: (rest ++ own))) (ha : ((D, o) :: rest).map (·.1) = adr) (hJ : J m ((D, o) :: rest)) : InvEndN g L J own adr s₁ { s₁ with heap := h, toks := tk } :=
  ⟨h, tk, m, (D, o) :: (rest ++ own), (D, o) :: rest, rfl, F, N, fun q hq => by rw [← List.cons_append]; exact List.mem_append_left own hq, fun q hq => .tail _ (List.mem_append_right rest hq), ha, hJ⟩
end
end
section
open PySem PySem.W PySem.Calls PySem.Spec PyProof.Rows
set_option maxRecDepth 100000
set_option maxHeartbeats 400000
section
variable {prog : Program} {w : World} {A : Around} {E : Value → Shared → Prop} {s : Shared}
theorem o_mro : mroOf (.type "object") = pure [.type "object"] := by kernel_rfl
theorem o_new : typeLookup (.type "object") "__new__" = pure (some (.builtin "object.__new__")) := by rw [typeLookup_type, builtinLookup_eq_fast]; kernel_rfl
theorem o_sub : isSubtype (.type "object") (.type "object") = pure true := by rw [isSubtype_type]; kernel_rfl
theorem o_init : Slot "object" "__init__" "object.__init__" :=
  .of (owner := "object") (n := "__init__") (by rw [typeLookup_type, builtinLookup_eq_fast]; kernel_rfl) (by decide +kernel) (by decide +kernel) (by decide +kernel)
    (by first | exact .inl (by decide +kernel) | exact .inr (by decide +kernel)) o_sub
theorem o_called : TypeCalled "object" "object.__new__" "object.__init__" :=
  ⟨by decide +kernel, by decide +kernel, ⟨_, _, o_mro⟩, madeBy_type o_mro o_new (by decide +kernel), by decide +kernel, o_sub, o_init⟩
theorem o_check : checkTypeCall "object" ⟨[], []⟩ = pure () := by kernel_rfl
theorem o_newc : checkBuiltinCall "object.__new__" ⟨[.type "object"], []⟩ = pure () := by kernel_rfl
theorem o_entry : entryFor table "object.__new__" = some Builtin.«object.__new__» := entryFor_of_tree (by kernel_rfl)
theorem o_entry2 : entryFor table "object.__init__" = some Builtin.«object.__init__» := entryFor_of_tree (by kernel_rfl)
theorem o_plain : plainId "object.__new__" = true := by decide +kernel
theorem o_here : Bind.madeHere "object.__new__" (.type "object") = pure () := by
  unfold Bind.madeHere
  have e : Bind.staticBase (.type "object") = pure (.type "object") := by first | rfl | kernel_rfl
  rw [e]
  simp only [pure_bind, o_called.made]
  first | rfl | kernel_rfl | (simp; rfl)
theorem o_refuse : (Manifest.find? "object").elim false (fun x => x.mro.any fun t => (Manifest.find? t).elim false (·.noNew)) = false := by decide +kernel
theorem o_dict : typeHasDict (.type "object") = false := by decide +kernel
theorem o_del : diesByItsTypesDel "object" = false := by decide +kernel

theorem code_object_new {Q₁ : Value → Shared → Prop}
    (h : Q₁ (.ref s.heap.objs.size) { s with heap := s.heap.push { cls := .type "object", data := .plain } }) :
    codeAny (model prog w) A (.call (.builtin "object.__new__") ⟨[.type "object"], []⟩) (wants Q₁ E) s := by
  refine codeAny_of_tree ?_
  show wpAny _ A.in1 (do checkBuiltinCall "object.__new__" ⟨[.type "object"], []⟩; again (.builtin "object.__new__" ⟨[.type "object"], []⟩)) _ _ s
  refine wpAny_bind (wpAny_of_eq o_newc (wpAny_pure ⟨plainId_quiet o_plain _, codeAny_builtin o_entry ?_⟩))
  rw [Around.under_plainId o_plain _]
  have f1 := o_here
  have f2 := o_refuse
  have f3 := o_dict
  have f4 := o_del
  obtain ⟨hp, g, d, tk, os⟩ := s
  unfold Builtin.«object.__new__»
  repeat (any_goals (first | with_reducible assumption | wp_step))

theorem new_object {Q : Value → Shared → Prop} (h : Q (.ref s.heap.objs.size) { s with heap := s.heap.push { cls := .type "object", data := .plain } }) :
    wpAny (model prog w) A (call (.type "object") []) Q E s := by
  refine callType_codes (Q₁ := fun obj s₁ => obj = .ref s.heap.objs.size ∧ s₁ = { s with heap := s.heap.push { cls := .type "object", data := .plain } }) o_called o_check o_entry2 (code_object_new ⟨rfl, rfl⟩) fun obj s₁ h₁ => ?_
  obtain ⟨rfl, rfl⟩ := h₁
  have hS : (s.heap.push { cls := .type "object", data := .plain }).get? s.heap.objs.size = some { cls := .type "object", data := .plain } := Heap.get?_push_size _ rfl
  exact ⟨⟨_, hS, rfl⟩, F.args_object_init_1 _, wpAny_pure ⟨rfl, h⟩⟩
theorem new_object_N {h₀ : Heap} {L : Addr} {m : Str → Option Value} {news : List (Addr × Obj)} {hp : Heap} {gn : Array GenState} {d : Drawn} {tk : Nat} {os : OsState} {Q : Value → Shared → Prop} (F : Fr h₀ L hp m) (N : News h₀ L hp news)
    (h : ∀ S h', L < S → Fr h₀ L h' m → News h₀ L h' ((S, { cls := .type "object", data := .plain }) :: news) → Q (.ref S) ⟨h', gn, d, tk, os⟩) :
    wpAny (model prog w) A (call (.type "object") []) Q E ⟨hp, gn, d, tk, os⟩ :=
  new_object (h _ _ F.ns.lt (F.push _) (N.push F _))
end
end
section
open PySem PySem.W PySem.Calls PySem.Spec PyProof.Rows
set_option maxRecDepth 100000
set_option maxHeartbeats 8000000

noncomputable def insideS (c : Int) (word row other : Str) : Str :=
  if (c.fdiv 4096).fmod 3 = 0 then word ++ row ++ other else if (c.fdiv 4096).fmod 3 = 1 then row ++ other ++ word else other ++ word ++ row
theorem c_inside (w : World) (c : Int) (word row other : Str) (t0 t1 t2 t3 : Tok) :
    PureC 4 w 156 [.int c t0, .str word t1, .str row t2, .str other t3] (fun _ => word.length ≤ 16 ∧ row.length ≤ 16 ∧ other.length ≤ 16) (fun v _ _ => ∃ t, v = .str (insideS c word row other) t) := by
  delta PureC Prg KK
  k_fill
  intro p loose mean mg mb dp un gd cn cs a ccd cl outer A₀ base h₀ L m s Q E B F X T hk hd hu hpre hQ
  refine' enter_pure (args := ⟨_, []⟩) (binds := [(PySem.Str.ofString "c", .int c t0), (PySem.Str.ofString "word", .str word t1), (PySem.Str.ofString "row", .str row t2), (PySem.Str.ofString "other", .str other t3)]) B F X T rfl rfl hk ?k6 ?k7 ?k8 ?k9 ?kB ?_ ?c5 ?c2 ?c3 ?c4
  case k6 => k_is
  case k7 => k_is
  case k8 => (show dp < _; omega)
  case k9 => exact BindsTo.of_eq rfl
  case c5 => decide
  case kB => exact locs rfl
  case c2 => exact rfl
  case c3 => exact rfl
  case c4 => exact rfl
  clear F X T B
  intro L' h' F' N' B' X' T'
  (try dsimp only [List.reverse_cons, List.reverse_nil, List.nil_append, List.cons_append])

  obtain ⟨h1, h2, h3⟩ := hpre
  k_fold
  k_steps
  all_goals (rename Fr _ _ _ _ => FF; (with_reducible rename ((c.fdiv 4096).fmod 3 = _) => hc); refine hQ _ _ _ FF.keep ?_; exact ⟨_, by (unfold insideS; rw [hc]; rfl)⟩)
end
section
open PySem PySem.W PySem.Calls PySem.Spec PyProof.Rows PySem.Builtin PySem.Builtin.Str
set_option maxRecDepth 100000
set_option maxHeartbeats 8000000
section
variable {prog : Program} {w : World} {A : Around} {E : Value → Shared → Prop} {s : Shared} {env : Env} {h₀ : Heap} {Q : Flow → Shared → Prop}
noncomputable def IntPost (h₀ : Heap) (L I : Addr) (oI : Obj) (J : (Str → Option Value) → List (Addr × Obj) → Array GenState → Prop) (os : OsState) (Q : Flow → Shared → Prop) (f : Flow) (s₂ : Shared) : Prop :=
  match f with
  | .ret v => Q (.ret v) s₂
  | .brk => Q .next s₂
  | _ => ∃ h' gn' d' tk' m' news', s₂ = ⟨h', gn', d', tk', os⟩ ∧ Fr h₀ L h' m' ∧ News h₀ L h' ((I, oI) :: news') ∧ (∀ p ∈ news', p.1 ≠ I) ∧ J m' news' gn'
/-- a loop over a list of whole numbers that stands in the base; the body may make generators -/
theorem For_ints {a : Str} {pa pos : Pos} {iter : Expr} {body : List Stmt} {l : Addr} {vs : List Value} {ns : List Int} {m₀ : Str → Option Value} {news : List (Addr × Obj)}
    (J : Nat → (Str → Option Value) → List (Addr × Obj) → Array GenState → Prop) (hh : A.handled = none) (hr : h₀.IsList l vs.toArray) (hvs : IntsAre vs ns)
    (F : Fr h₀ env.locals s.heap m₀) (N : News h₀ env.locals s.heap news) (hj : J 0 m₀ news s.gens)
    (ha : env.kindOf a = some .local) (hp : (env.scope.kind == .class || (env.scope.kind == .module && env.locals != env.globals)) = false)
    (hev : wpAny (model prog w) A (eval iter env) (fun v s₁ => v = .ref l ∧ s₁ = s) E s)
    (turn : ∀ (i : Nat) n t m₁ news₁ h gn d tk I oI, ns[i]? = some n → (∀ p ∈ news₁, p.1 ≠ I) → h₀.get? I = none → env.locals ≠ I → env.locals < I → J i m₁ news₁ gn → Fr h₀ env.locals h (fun z => if z = a then some (.int n t) else m₁ z) → News h₀ env.locals h ((I, oI) :: news₁) →
      wpAny (model prog w) A (execs body env) (IntPost h₀ env.locals I oI (J (i + 1)) s.os Q) E ⟨h, gn, d, tk, s.os⟩)
    (done : ∀ m₁ news₁ h gn d tk, J ns.length m₁ news₁ gn → Fr h₀ env.locals h m₁ → News h₀ env.locals h news₁ → Q .next ⟨h, gn, d, tk, s.os⟩)
    (hs : ∀ x, foldedSetIterable iter env x = pure x := by intro _; rfl)
    (hE : PassesOwn (model prog w) A env E := by passes_own) :
    wpAny (model prog w) A (exec (.For (.Name a pa) iter body [] pos) env) Q E s := by
  refine wpAny_For (wpAny_mono hev (fun xv s₁ h₁ => ?_) fun _ _ e => e) hs
  obtain ⟨rfl, rfl⟩ := h₁
  have hl := hr
  have hlen : vs.length = ns.length := hvs.length
  have hls : s₁.heap.IsList l vs.toArray := hl.at fun o e => F.keep _ o e
  have hlt : l < s₁.heap.objs.size := by obtain ⟨_, e, _⟩ := hls; exact Heap.lt_size e
  refine wpAny_pyIter_list hls ?_
  generalize hI : s₁.heap.objs.size = I at hlt
  have hI₀ : h₀.get? I = none := by
    cases q : h₀.get? I with
    | none => rfl
    | some o => have := Heap.lt_size (F.keep _ _ q); rw [hI] at this; exact absurd this (Nat.lt_irrefl _)
  have hILt : env.locals < I := by have := F.ns.lt; rw [hI] at this; exact this
  have hIL : env.locals ≠ I := Nat.ne_of_lt hILt
  have hlI : l ≠ I := Nat.ne_of_lt hlt
  have up : ∀ b o, s₁.heap.get? b = some o → (s₁.heap.push { cls := .type "list_iterator", data := .fields #[.ref l, .int 0 0] }).get? b = some o := fun b o e => Heap.get?_push_of_some _ e
  have hit0 : (s₁.heap.push { cls := .type "list_iterator", data := .fields #[.ref l, .int 0 0] }).IsListIter I l 0 := ⟨_, by rw [← hI]; exact Heap.get?_push_size _ rfl, rfl, rfl⟩
  have offN : ∀ p ∈ news, p.1 ≠ I := fun p hp => by have := Heap.lt_size (N p hp).1; rw [hI] at this; exact Nat.ne_of_lt this
  refine codeAny_forLoop_any (fun k s' => ∃ h' gn' d' tk m' news' i, s' = ⟨h', gn', d', tk, s₁.os⟩ ∧ h'.IsListIter I l i ∧ Fr h₀ env.locals h' m' ∧ News h₀ env.locals h' news' ∧ (∀ p ∈ news', p.1 ≠ I) ∧ J i m' news' gn' ∧ i ≤ ns.length ∧ k = ns.length + 1 - i) ?_ (ns.length + 1)
    ⟨_, s₁.gens, s₁.drawn, s₁.toks, m₀, news, 0, rfl, hit0, F.keeps up, N.grown up, offN, hj, Nat.zero_le _, rfl⟩
  rintro k s' ⟨H, gn, d, tk, m', news', i, rfl, hit, F', N', off, hJ, hi, rfl⟩
  have hlH : H.IsList l vs.toArray := hl.at fun o e => F'.keep _ o e
  have next : ∀ h₁ : Heap, (∀ b o, b ∉ [I] → H.get? b = some o → h₁.get? b = some o) → Fr h₀ env.locals h₁ m' ∧ News h₀ env.locals h₁ news' := fun h₁ hk =>
    ⟨LCg.fr_but F' hk hIL hI₀, LCg.news_but N' hk off⟩
  by_cases hlt' : i < ns.length
  · obtain ⟨t, hv⟩ : ∃ t, vs[i]? = some (.int ns[i] t) := by
      obtain ⟨n, t, e, h⟩ := hvs.at i vs[i] (by simp [hlen, hlt'])
      rw [List.getElem?_eq_getElem hlt'] at h
      obtain rfl := Option.some.inj h
      exact ⟨t, by rw [← e]; simp [hlen, hlt']⟩
    refine wpAny_pyNext_list_item hit hlH (x := .int ns[i] t) (by simpa using hv) fun h₂ hit₂ hs₂ => ?_
    obtain ⟨F₂, N₂⟩ := next h₂ fun b o hb e => hs₂.extBut b o (by simpa using hb) e
    obtain ⟨oI, eI, rI⟩ := id hit₂
    have N₃ : News h₀ env.locals h₂ ((I, oI) :: news') := fun p hp => by
      rcases List.mem_cons.mp hp with rfl | hp
      · exact ⟨eI, Ne.symm hIL, hI₀⟩
      · exact N₂ p hp
    show wpAny _ _ (letOwnedTupleGo (.Name a pa) (.ref I) (.int ns[i] t)) _ _ _
    refine wpAny_pure (a := ()) ?_
    show wpAny _ _ (assign (.Name a pa) env (.int ns[i] t)) _ _ _
    refine wpAny_assign_Name ?_
    refine wpAny_storeName_local ha F₂.ns (fun h' hn hs => ?_) hp
    refine wpAny_passesOwn hE (wpAny_mono (turn i ns[i] t m' news' _ gn d _ I oI (by simp [hlt']) off hI₀ hIL hILt hJ (F₂.set hn hs) (N₃.set hs)) (fun f s₃ h₃' => ?_) fun _ _ e => e)
    have fin : (∃ h' gn' d' tk' m'' news'', s₃ = ⟨h', gn', d', tk', s₁.os⟩ ∧ Fr h₀ env.locals h' m'' ∧ News h₀ env.locals h' ((I, oI) :: news'') ∧ (∀ p ∈ news'', p.1 ≠ I) ∧ J (i + 1) m'' news'' gn') →
        ∃ m, m < ns.length + 1 - i ∧ ∃ h' gn' d' tk m' news' i, s₃ = ⟨h', gn', d', tk, s₁.os⟩ ∧ h'.IsListIter I l i ∧ Fr h₀ env.locals h' m' ∧ News h₀ env.locals h' news' ∧ (∀ p ∈ news', p.1 ≠ I) ∧ J i m' news' gn' ∧ i ≤ ns.length ∧ m = ns.length + 1 - i := by
      rintro ⟨h', gn', d', tk', m'', news'', rfl, F'', N'', off'', J''⟩
      refine ⟨ns.length + 1 - (i + 1), by omega, h', gn', d', tk', m'', news'', i + 1, rfl, ⟨oI, (N'' _ (.head _)).1, rI⟩, F'', fun p hp => N'' p (.tail _ hp), off'', J'', hlt', rfl⟩
    cases f with
    | ret v => exact h₃'
    | brk => exact h₃'
    | next => exact fin h₃'
    | cont => exact fin h₃'
  · have hin : i = ns.length := by omega
    subst hin
    refine wpAny_pyNext_list_end hh hit hlH (by simp [hlen]) fun h₂ he₂ => wpAny_execs_nil ?_
    obtain ⟨F₂, N₂⟩ := next h₂ fun b o hb e => he₂ b o (by simpa using hb) e
    exact done m' news' h₂ gn d tk hJ F₂ N₂
end
end
section
open PySem PySem.W PySem.Calls PySem.Spec PyProof.Rows
set_option maxRecDepth 100000
set_option maxHeartbeats 8000000

noncomputable def APb : Array UInt8 := #[65, 66, 67, 68, 69, 70, 71, 72, 73, 74, 75, 76, 77, 78, 79, 80]
theorem AP_cut (k : Nat) : KBy.picked #[65, 66, 67, 68, 69, 70, 71, 72, 73, 74, 75, 76, 77, 78, 79, 80] (some ((k : Int).fmod 16)) (some ((k : Int).fmod 16 + 1)) = #[(65 + k % 16).toUInt8] := by
  have e : (k : Int).fmod 16 = ((k % 16 : Nat) : Int) := by rw [Int.fmod_eq_emod_of_nonneg _ (by decide)]; rfl
  rw [e]
  have h : k % 16 < 16 := Nat.mod_lt _ (by decide)
  generalize k % 16 = j at h
  revert h
  revert j
  decide +kernel

local macro_rules | `(tactic| walk_at "exec While Name cons nil") => `(tactic| refine Stop.out ?_)
local macro_rules | `(tactic| walk_at "subscriptTail") => `(tactic| (k_here; (with_reducible show wpAny _ _ (subscriptTail _ (Expr.Slice _ _ none _) (Value.bytes _ _) (Value.ref _)) _ _ _); (with_reducible rename Fr _ _ _ _ => F'); (with_reducible rename News _ _ _ _ => N'); (refine KBc.slice_K (s := ⟨_, _, _, _, _⟩) F' N' rfl (by constructor) (by constructor) (by decide +kernel) ?_); intro _ _ _ _ _ _; rw [AP_cut]))
local macro_rules | `(tactic| walk_at "binaryOp Add bytes bytes") => `(tactic| (k_here; (refine KBy.add_bytes (by simp only [List.size_toArray, List.length_cons, List.length_nil]; omega) ?_); intro _ _))

theorem c_int2ap (w : World) (n : Nat) (t : Tok) :
    PureC 2 w 76 [.int n t] (fun _ => n < 65536) (fun v _ _ => ∃ t, v = .bytes ((W n).map (·.toUInt8)).toArray t) := by
  delta PureC Prg KK
  k_fill
  intro p loose mean mg mb dp un gd cn cs a ccd cl outer A₀ base h₀ L m s Q E B F X T hk hd hu hpre hQ
  refine' enter_pure (args := ⟨_, []⟩) (binds := [(PySem.Str.ofString "num", .int n t)]) B F X T rfl rfl hk ?k6 ?k7 ?k8 ?k9 ?kB ?_ ?c5 ?c2 ?c3 ?c4
  case k6 => k_is
  case k7 => k_is
  case k8 => (show dp < _; omega)
  case k9 => exact BindsTo.of_eq rfl
  case c5 => decide
  case kB => exact locs rfl
  case c2 => exact rfl
  case c3 => exact rfl
  case c4 => exact rfl
  clear F X T B
  intro L' h' F' N' B' X' T'
  (try dsimp only [List.reverse_cons, List.reverse_nil, List.nil_append, List.cons_append])

  k_fold
  k_steps
  refine Stop.out ?_
  rename Fr _ _ _ _ => F1
  rename News _ _ _ _ => N1
  refine While_inv2 (n₀ := n) (fun k m₁ news₁ => news₁ = [] ∧ ∃ (z : Int) (x : Array UInt8) (t1 t2 t3 : Tok), Knows m₁ [(Str.ofString "num", .int z t1), (Str.ofString "val", .bytes x t2), (Str.ofString "AP", .bytes #[65, 66, 67, 68, 69, 70, 71, 72, 73, 74, 75, 76, 77, 78, 79, 80] t3)] ∧ z = (k : Int) ∧ k ≤ n ∧ (W k).map (·.toUInt8) ++ x.toList = (W n).map (·.toUInt8)) F1 N1 ⟨rfl, _, _, _, _, _, ⟨rfl, rfl, rfl, trivial⟩, by rw [if_neg (by omega)], Nat.le_refl _, by simp⟩ ?_ .never
  rintro k m₁ _ h₁ tk₁ F₁ N₁ ⟨rfl, z, x, t1, t2, t3, hm, rfl, hkn, hW⟩
  replace F₁ := Knows.fr F₁ hm
  have hl : x.size ≤ 4 := by
    have h2 := W_len 4 n hpre
    have h1 : x.size = x.toList.length := by simp
    have h3 := congrArg List.length hW
    rw [List.length_append, List.length_map, List.length_map] at h3
    omega
  clear F1
  k_steps
  · rename_i F2 N2
    have hk0 : k ≠ 0 := by omega
    refine ⟨_, _, _, _, k / 16, rfl, F2, lose N2, by omega, rfl, _, _, _, _, _, ⟨rfl, rfl, rfl, trivial⟩, ?_, by omega, ?_⟩
    · rw [Int.fdiv_eq_ediv_of_nonneg _ (by decide)]; rfl
    · rw [← hW, W_step hk0]; simp
  · have hk0 : k = 0 := by omega
    subst hk0
    rw [W_zero] at hW
    have : x = ((W n).map (·.toUInt8)).toArray := Array.ext' (by rw [← hW]; simp)
    exact hQ _ _ _ F₁.keep ⟨t2, by rw [← this]⟩
end
section
open PySem PySem.W PySem.Calls PySem.Spec PyProof.Rows
set_option maxRecDepth 100000
set_option maxHeartbeats 8000000
local macro_rules | `(tactic| walk_at "call ref") => `(tactic| (k_here; (with_reducible show wpAny _ _ (call (Value.ref 76) _) _ _ _); (refine' use (c_int2ap _ _ _) (by k_asm) (by k_asm) (by k_asm) (by k_asm) (by k_asm) rfl (by ktr_room) (by ktr_units) (by assumption) ?_); intro v9 h9 tk9 hP9 st9 F9 N9; obtain ⟨t9, e9⟩ := hP9; subst e9; (try dsimp only); (try k_fold)))
local macro_rules | `(tactic| walk_at "call type:type") => `(tactic| (k_here; (with_reducible show wpAny _ _ (call _ [Value.bytes _ _]) _ _ _); refine call_type_of (Tx := "bytes") rfl (by decide +kernel) ?_))
local macro_rules | `(tactic| walk_at "eval ListComp") => `(tactic| refine Stop.out ?_)
local macro_rules | `(tactic| walk_at "call builtin:chr") => `(tactic| refine Stop.out ?_)
local macro_rules | `(tactic| walk_at "call builtin:str.join") => `(tactic| refine Stop.out ?_)

theorem W_ints (n : Nat) (h : n < 65536) : KBw.bInts ((W n).map (·.toUInt8)).toArray = (W n).map (fun (c : Nat) => (c : Int)) := by
  unfold KBw.bInts
  simp only [List.map_map]
  refine List.map_congr_left fun c hc => ?_
  have := W_mem 4 n h hc
  show (((c.toUInt8).toNat : Nat) : Int) = c
  have e : c.toUInt8.toNat = c := by
    show c % 256 = c
    omega
  rw [e]

theorem c_word (w : World) (n : Nat) (t : Tok) :
    PureC 4 w 135 [.int n t] (fun _ => n < 65536) (fun v _ _ => ∃ t, v = .str (wordOf n) t) := by
  delta PureC Prg KK
  k_fill
  intro p loose mean mg mb dp un gd cn cs a ccd cl outer A₀ base h₀ L m s Q E B F X T hk hd hu hpre hQ
  refine' enter_pure (args := ⟨_, []⟩) (binds := [(PySem.Str.ofString "number", .int n t)]) B F X T rfl rfl hk ?k6 ?k7 ?k8 ?k9 ?kB ?_ ?c5 ?c2 ?c3 ?c4
  case k6 => k_is
  case k7 => k_is
  case k8 => (show dp < _; omega)
  case k9 => exact BindsTo.of_eq rfl
  case c5 => decide
  case kB => exact locs rfl
  case c2 => exact rfl
  case c3 => exact rfl
  case c4 => exact rfl
  clear F X T B
  intro L' h' F' N' B' X' T'
  (try dsimp only [List.reverse_cons, List.reverse_nil, List.nil_append, List.cons_append])

  k_fold
  k_steps
  refine Stop.out ?_
  rename Fr _ _ _ _ => F1
  rename News _ _ _ _ => N1
  have hlen := W_len 4 n hpre
  refine lc_eval (intP fun _ => true) (intF fun c y => ∃ t, y = .str ⟨#[c.toNat]⟩ t) rfl (by decide) rfl (by decide) rfl ?_
  k_steps
  refine lc_bytes _ _ ?g0 ?g1 ?g2 ?g3 ?g4
  case g0 => exact rfl
  case g1 =>
    rw [sizeLine_eq]
    simp only [List.size_toArray, List.length_map]
    omega
  case g2 =>
    intros
    exact wpAny_pure ⟨rfl, _, _, rfl, fun _ _ e => e⟩
  case g3 =>
    intro C c u h g d k o m₃ E' hc _ hC hns hm hkk
    have cF' := Fr.keeps F1 hkk
    have cN' := News.grown N1 hkk
    have cE' := InElt.start h
    k_steps
    refine Stop.out ?_
    exact chr_of_range (KBw.ints_in hc).1 (by have := (KBw.ints_in hc).2; omega) ⟨⟨_, rfl⟩, _, _, rfl, fun _ _ e => e⟩
  case g4 =>
    intro D h1 tk1 ys hD hpl hF hkk
    have cF' := Fr.keeps F1 hkk
    have cN' := News.grown N1 hkk
    have hs := paired_strs hF
    rw [show (KBw.bInts ((W n).map (·.toUInt8)).toArray).filter (fun _ => true) = (W n).map (fun (c : Nat) => (c : Int)) from by rw [W_ints n hpre]; simp] at hs
    rw [List.map_map] at hs
    replace hs : StrsAre ys ((W n).map fun c => (⟨#[c]⟩ : Str)) := hs
    clear F1 N1 hF
    k_steps
    refine Stop.out ?_
    refine join_list hpl.isList (by simpa using hs) ?_ fun t' k => ?_
    · have h1 := sum_ones (W n) (fun c => (⟨#[c]⟩ : Str)) fun _ _ => rfl
      rw [h1, List.length_map]
      have : (Str.ofString "").length = 0 := by decide +kernel
      rw [this]; omega
    · rw [show Txt.join (Str.ofString "") ((W n).map fun c => (⟨#[c]⟩ : Str)) = wordOf n from (txt_join _ _).trans (join_chars (W n))]
      exact hQ _ _ _ cF'.keep ⟨_, rfl⟩
end
section
open PySem PySem.W PySem.Calls PySem.Spec PyProof.Rows
set_option maxRecDepth 100000
set_option maxHeartbeats 400000
theorem ints_set {y : Int} {u : Tok} : ∀ {vs : List Value} {ns : List Int}, IntsAre vs ns → ∀ j : Nat, IntsAre (vs.set j (.int y u)) (ns.set j y)
  | _, _, .nil, _ => .nil
  | _, _, .cons _ _ h, 0 => .cons y u h
  | _, _, .cons z t h, j + 1 => .cons z t (ints_set h j)
theorem ints_at {vs : List Value} {ns : List Int} (h : IntsAre vs ns) {j : Nat} (hj : j < ns.length) : ∃ t, vs[j]? = some (.int (ns.getD j 0) t) := by
  have hl := h.length
  obtain ⟨y, t, e1, e2⟩ := h.at j vs[j] (by rw [List.getElem?_eq_getElem (by omega)])
  refine ⟨t, ?_⟩
  rw [List.getElem?_eq_getElem (by omega), e1, List.getD_eq_getElem?_getD, e2]; rfl
section
variable {prog : Program} {w : World} {A : Around} {E : Value → Shared → Prop} {s : Shared} {env : Env} {h₀ : Heap} {L D : Addr} {m : Str → Option Value} {news : List (Addr × Obj)} {gU : Obj → List (Addr × Obj)} {vs : List Value} {ns : List Int} {n : Nat} {k : Int} {t u : Tok}
theorem il_subL {value slice : PySem.Expr} {Q : Value → Shared → Prop} (hl : s.heap.IsList D vs.toArray) (hs : IntsAre vs ns) (h0 : 0 ≤ k) (h1 : k < ns.length) (h2 : ns.length ≤ 1000) (h : ∀ t, Q (.int (ns.getD k.toNat 0) t) s)
    (he : subscripted slice false (.ref D) (.int k u) = operate [.ref D, .int k u] (getItem (.ref D) (.int k u)) := by with_unfolding_all rfl) :
    wpAny (model prog w) A (subscriptTail value slice (.ref D) (.int k u)) Q E s := by
  obtain ⟨t, e⟩ := ints_at hs (j := k.toNat) (by omega)
  exact tail_any hl.typeIs slot_list_getitem.lookup (wpAny_getItem_list hl h0 (by omega) (by simpa using e) (h t)) he
theorem il_set {y : Int} {Q : Unit → Shared → Prop} (F : Fr h₀ L s.heap m) (N : News h₀ L s.heap news) (U : UpdF D (listOf vs.toArray n) news gU) (hs : IntsAre vs ns) (h0 : 0 ≤ k) (h1 : k < ns.length) (h2 : ns.length ≤ 1000)
    (h : ∀ h', Fr h₀ L h' m → News h₀ L h' (gU (listOf (vs.set k.toNat (.int y u)).toArray n)) → Q () { s with heap := h' }) : wpAny (model prog w) A (setItem (.ref D) (.int k t) (.int y u)) Q E s := by
  have hl := hs.length
  exact ki_set F N h0 (by omega) (ki_setL_of (by show k.toNat < vs.toArray.toList.length; simp; omega)) (upd_of U) h
variable {x : Str} {body : List Stmt} {Q : Flow → Shared → Prop}
theorem for_up {r : Addr} {b₀ : Int} {t₀ u₀ v₀ : Tok} {n : Nat} {m₀ : Str → Option Value} {news : List (Addr × Obj)} (J : Nat → (Str → Option Value) → List (Addr × Obj) → Prop)
    (hh : A.handled = none) (hr : IsRange s.heap r 0 b₀ 1 t₀ u₀ v₀) (hsmall : Builtin.Range.small 0 b₀ 1 = true) (hn : Builtin.Range.rangeSize 0 b₀ 1 = (n : Int)) (F : Fr h₀ env.locals s.heap m₀) (N : News h₀ env.locals s.heap news) (hj : J 0 m₀ news)
    (turn : ∀ (i : Nat) t m₁ news₁ h tk own, i < n → news₁.map (·.1) = news.map (·.1) → OwnOff own (news.map (·.1)) → J i m₁ news₁ → Fr h₀ env.locals h (fun y => if y = x then some (.int (i : Int) t) else m₁ y) → News h₀ env.locals h (news₁ ++ own) →
      wpAny (model prog w) A (execs body env) (fun f s' => Stop (InvPostN h₀ env.locals (J (i + 1)) own (news.map (·.1)) { s with heap := h, toks := tk } Q f s')) E { s with heap := h, toks := tk })
    (done : ∀ m₁ news₁ h tk, J n m₁ news₁ → Fr h₀ env.locals h m₁ → News h₀ env.locals h news₁ → Q .next { s with heap := h, toks := tk }) :
    wpAny (model prog w) A (pyIter (.ref r)) (fun it s₂ => LoopAtV prog w A h₀ env x body Q E it s₂) E s := by
  refine wpAny_pyIter_range hr hsmall ?_
  have W : Walks prog w A s.heap.objs.size [s.heap.objs.size] [s.heap.objs.size] n (fun i v => i < n ∧ ∃ t, v = .int ((0 : Int) + i * 1) t)
      (fun i h => IsRangeIter h s.heap.objs.size ((0 : Int) + (i : Nat) * 1) ((n : Int) - (i : Nat)) 1) := (Walks.range hh _ 0 1 n).bound
  refine loop_invN J W ?_ ?_ ?_ ?_ (by show IsRangeIter _ _ _ _ _; rw [hn]; simpa using Heap.get?_push_size _ rfl) (F.push _) (fun p hp => ⟨Heap.get?_push_of_some _ (N p hp).1, (N p hp).2⟩) hj ?_ done
  · intro hm
    exact absurd F.ns.lt ((List.mem_singleton.mp hm) ▸ Nat.lt_irrefl _)
  · intro b hb
    rw [List.mem_singleton.mp hb]
    exact next_is_new F
  · intro p hp hI
    exact absurd (Heap.lt_size (N p hp).1) ((List.mem_singleton.mp hI) ▸ Nat.lt_irrefl _)
  · intro p hp hI
    exact absurd (Heap.lt_size (N p hp).1) ((List.mem_singleton.mp hI) ▸ Nat.lt_irrefl _)
  · rintro i v m₁ nx h tk own hi ⟨_, t, rfl⟩ ha hoff hJ F₁ N₁
    have e1 : (0 : Int) + (i : Int) * 1 = (i : Int) := by omega
    rw [e1] at F₁
    exact wpAny_mono (turn i t m₁ nx h tk own hi ha hoff hJ F₁ N₁) (fun f s' x => x.out) fun _ _ x => x
end
end
section
open PySem PySem.W PySem.Calls PySem.Spec PyProof.Rows
set_option maxRecDepth 100000
local macro_rules | `(tactic| walk_at "execs cons") => `(tactic| (k_here; (with_reducible show wpAny _ _ _ _ _ (Shared.mk _ _ _ (_ + 1) _)); refine any_pos fun tk htk => ?_))
local macro_rules | `(tactic| walk_at "execs nil") => `(tactic| (k_here; (with_reducible show wpAny _ _ _ _ _ (Shared.mk _ _ _ (_ + 1) _)); refine any_pos fun tk htk => ?_))
section
open PySem PySem.W PySem.Calls PySem.Spec PyProof.Rows
set_option maxRecDepth 100000
local macro_rules | `(tactic| walk_at "getAttr ref") => `(tactic| ((with_reducible rename Fr _ _ _ _ => F8); (with_reducible rename News _ _ _ _ => N8); refine get_append_K F8 N8 (by k_mem) ?_; intro u8 h8 tk8 F9 N9 lt9; replace lt9 := allLt_of lt9; simp only [AllLt, and_true] at lt9; clear F8 N8; (try k_fold)))
local macro_rules | `(tactic| walk_at "callWith ref") => `(tactic| ((with_reducible rename News _ _ _ _ => N8); refine callWith_app_K N8 (by k_mem) ?_))
local macro_rules | `(tactic| walk_at "subscriptTail Name Name str int") => `(tactic| (k_here; (with_reducible show wpAny _ _ (subscriptTail _ _ (Value.str _ _) (Value.int _ _)) _ _ _); (refine str_at (by omega) (by omega) (by omega) ?_); (try dsimp only)))
local macro_rules | `(tactic| walk_at "subscriptTail Name Constant str int") => `(tactic| (k_here; (with_reducible show wpAny _ _ (subscriptTail _ _ (Value.str _ _) (Value.int _ _)) _ _ _); (refine str_at (by omega) (by omega) (by omega) ?_); (try dsimp only)))
local macro_rules | `(tactic| walk_at "compareOp Eq str str") => `(tactic| (k_here; (with_reducible show wpAny _ _ (compareOp CmpOp.Eq (Value.str _ _) (Value.str _ _)) _ _ _); refine eq_one (by with_reducible assumption) ?_))
local macro_rules | `(tactic| walk_at "compareOp NotEq str str") => `(tactic| (k_here; (with_reducible show wpAny _ _ (compareOp CmpOp.NotEq (Value.str _ _) (Value.str _ _)) _ _ _); refine ne_one (by with_reducible assumption) ?_))
local macro_rules | `(tactic| walk_at "WhlIf") => `(tactic| first | refine WhlIf.yes (decide_eq_true (by omega)) ?_ | refine WhlIf.no (decide_eq_false (by omega)) ?_)
local macro_rules | `(tactic| walk_at "eval GeneratorExp") => `(tactic| refine Stop.out ?_)
local macro_rules | `(tactic| walk_at "eval Lambda") => `(tactic| ((with_reducible rename Fr _ _ _ _ => F8); (with_reducible rename News _ _ _ _ => N8); (with_reducible rename Top _ _ _ _ _ _ => T8); (with_reducible rename CodeHd _ _ _ => C8); (with_reducible rename TriplesOk _ => H8); (refine' kla_eval ?d0 ?_; (case d0 => exact rfl)); (refine' lam_K F8 N8 T8 C8 ?cd ?U H8 ?cl ?_; (case cd => exact rfl); (case U => k_updF); (case cl => exact rfl)); intro f8 fd8 ps8 h8 tk8 F9 N9 H9 lt9; (try dsimp only at N9); replace lt9 := allLt_of lt9; simp only [AllLt, and_true] at lt9; clear F8 N8 H8; (try k_fold)))
local macro_rules | `(tactic| walk_at "call builtin:str.replace") => `(tactic| refine Stop.out ?_)
local macro_rules | `(tactic| walk_at "getMethod ref") => `(tactic| ((with_reducible rename Fr _ _ _ _ => F8); refine getM_sub (F8.keep _ _ (by with_reducible assumption)) ?_))
local macro_rules | `(tactic| walk_at "call builtin:re.Pattern.sub") => `(tactic| refine Stop.out ?_)
local macro_rules | `(tactic| walk_at "And") => `(tactic| ((with_reducible show _ = some (appOf _) ∧ _); (with_reducible rename News _ _ _ _ => N8); refine And.intro (own_at N8 (by k_mem)) ?_))
local macro_rules | `(tactic| walk_at "And") => `(tactic| ((with_reducible show PySem.Str.length (_ ++ _) ≤ sizeLine ∧ wpAny _ _ (joinParts _ _) _ _ _); refine ⟨by (rw [sizeLine_eq]; simp only [PySem.Str.length_append]; omega), ?_⟩))
local macro_rules | `(tactic| walk_at "And") => `(tactic| ((with_reducible show PySem.Str.length (_ ++ _) ≤ sizeLine ∧ _); refine ⟨by (rw [sizeLine_eq]; simp only [PySem.Str.length_append]; omega), ?_⟩))
local macro_rules | `(tactic| walk_at "joinParts") => `(tactic| (k_here; (first | (with_reducible show wpAny _ _ (joinParts _ []) _ _ _) | (with_reducible show wpAny _ _ (joinParts _ (evalEach [] _)) _ _ _)); k_dflt (refine' joinParts_nil ?_ ?zz); (case zz => (with_reducible (rw [sizeLine_eq]; simp only [PySem.Str.length_append]; omega)))))
local macro_rules | `(tactic| walk_at "ite") => `(tactic| (k_here; refine ite_no (by with_reducible assumption) ?_))
local macro_rules | `(tactic| walk_at "truthy str") => `(tactic| (refine KXt.truthy_pos (K := 1000) (by omega) (by omega) (by decide) fun k => ?_))
local macro_rules | `(tactic| walk_at "call ref") => `(tactic| ((with_reducible rename Fr _ _ _ _ => F8); (with_reducible rename News _ _ _ _ => N8); refine' call_app_K F8 N8 (by k_mem) ?kU ?_ ?kz; (case kU => k_upd); (case kz => (rw [sizeLine_eq]; simp)); intro h8 F9 N9; clear F8 N8; (try k_fold)))
section
open PySem PySem.W PySem.Calls PySem.Spec PyProof.Rows
set_option maxRecDepth 100000
set_option maxHeartbeats 600000


noncomputable def setS (b : Bool) (y : Str) : Str := Str.ofString "[" ++ (if b = true then Str.ofString "^" ++ Txt.slice y (some 1) none else y) ++ Str.ofString "]"
structure RPre (y : Str) (b : Bool) : Prop where
  lo : 0 < y.cps.size
  hi : y.cps.size ≤ 600
  ok : ∀ i, i < y.cps.size → plainCp (y.cps.getD i 0)
  c0 : y.cps.getD 0 0 = 33 ↔ b = true
  c1 : b = true → 2 ≤ y.cps.size
  c2 : y.cps.getD 0 0 ≠ 91 ∧ y.cps.getD 0 0 ≠ 94
noncomputable abbrev trAt (dp un : Nat) (gd : Option (List Code)) (cn : Str) (cs : Scope) (L a : Addr) (ccd : Value) (cl : List (Str × Addr)) (outer : List Env) (L' : Addr) : Around := (ktrTop dp un gd cn cs L a ccd cl outer).deeper (envOf (Str.ofString "_translate") trScope L' 62 (Value.ref 61))
theorem trans_tail (w : World) (b : Bool) (y : Str) (hy : RPre y b) {p : Program} {loose : List Str} {mean : ExcName → Option Value} {mg mb : Str → Option Value}
    {dp un : Nat} {gd : Option (List Code)} {cn : Str} {cs : Scope} {L a : Addr} {ccd : Value} {cl : List (Str × Addr)} {outer : List Env} {L' : Addr} {base g h : Heap} {m : Str → Option Value} {u l : Addr} {ps : Array Value} {jv nv : Int} {t2 t3 t4 : Tok}
    {gn : Array GenState} {d : Drawn} {tk : Nat} {o : OsState} {Q : Flow → Shared → Prop} {E : Value → Shared → Prop}
    (B : Below (ktrTop dp un gd cn cs L a ccd cl outer) base (envX cn cs L a ccd cl :: outer) g) (X : (KK w).In g) (T : Top p loose mean mg mb g)
    (F : Fr g L' h m) (N : News g L' h [(u, appOf l), (l, W.listOf #[] 0), (57, tabObj ps)]) (hTr : TriplesOk ps.toList) (hl57 : @LT.lt Nat _ 57 l) (hlu : @LT.lt Nat _ l u) (hj : -1000 ≤ jv ∧ jv ≤ 1000)
    (hm : Knows m [(Str.ofString "res", .ref l), (Str.ofString "add", .ref u), (Str.ofString "n", .int nv t2), (Str.ofString "j", .int jv t3), (Str.ofString "stuff", .str y t4)])
    (hQ : ∀ m' h' tk' ps' t' ti, Fr g L' h' m' → News g L' h' [(u, appOf l), (l, W.listOf #[.str (setS b y) t'] 1), (57, tabObj ps')] → TriplesOk ps'.toList →
      Knows m' [(Str.ofString "res", .ref l), (Str.ofString "n", .int nv t2), (Str.ofString "i", .int (jv + 1) ti)] → Q .next ⟨h', gn, d, tk', o⟩) :
    wpAny (model Prg w) (trAt dp un gd cn cs L a ccd cl outer L') (execs trRest (envOf (Str.ofString "_translate") trScope L' 62 (Value.ref 61))) Q E ⟨h, gn, d, tk, o⟩ := by
  delta Prg KK trAt at *
  unfold trRest trScope
  show wpAny _ (Around.deeper _ (envOf _ (Scope.mk _ _ _ _ _) _ _ _)) (execs (_ :: _) (envOf _ (Scope.mk _ _ _ _ _) _ _ _)) _ _ _
  revert X
  k_fill
  intro X
  replace F := Knows.fr F hm
  obtain ⟨hlo, hhi, hok, hc0, hc1, hc2⟩ := hy
  have hyl : y.length = y.cps.size := rfl
  have g1 : (y == Str.ofString "!") = false := by
    rw [show Str.ofString "!" = ⟨#[33]⟩ from by decide +kernel, beq_eq_false_iff_ne]
    intro e
    subst e
    have := hc1 (hc0.mp rfl)
    exact absurd this (by decide)
  have g2 : ((⟨#[y.cps.getD (Int.toNat 0) 0]⟩ : Str) == Str.ofString "!") = b := by
    rw [one_eq (d := 33) (by decide +kernel), show y.cps.getD (Int.toNat 0) 0 = y.cps.getD 0 0 from rfl]
    cases b with
    | true => rw [hc0.mpr rfl]; rfl
    | false => rw [beq_eq_false_iff_ne]; exact fun e => Bool.false_ne_true (hc0.mp e)
  have hsl : (Txt.slice y (some 1) none).length ≤ 600 := Nat.le_trans (Txt.slice_le y (some 1) none) hhi
  have hsc : (Str.ofString "^").length = 1 := by decide +kernel
  have hs0 : Str.empty.length = 0 := rfl
  have hso : (Str.ofString "[").length = 1 := by decide +kernel
  have hse : (Str.ofString "]").length = 1 := by decide +kernel
  have g3 : ([Str.ofString "^", Str.ofString "["].any fun x => x == (⟨#[y.cps.getD (Int.toNat 0) 0]⟩ : Str)) = false := by
    have a1 : (Str.ofString "^" == (⟨#[y.cps.getD (Int.toNat 0) 0]⟩ : Str)) = false := by
      rw [beq_eq_false_iff_ne]; intro e; rw [show Str.ofString "^" = ⟨#[94]⟩ from by decide +kernel] at e; injection e with e; injection e with e; injection e with e; exact hc2.2 e.symm
    have a2 : (Str.ofString "[" == (⟨#[y.cps.getD (Int.toNat 0) 0]⟩ : Str)) = false := by
      rw [beq_eq_false_iff_ne]; intro e; rw [show Str.ofString "[" = ⟨#[91]⟩ from by decide +kernel] at e; injection e with e; injection e with e; injection e with e; exact hc2.1 e.symm
    simp only [List.any_cons, List.any_nil, a1, a2, Bool.or_false]
  have hC61 : CodeHd g 61 57 := codeHd_of_K (c := 61) (P := 57) X (by kernel_rfl)
  obtain ⟨pv0, pv1, pv3, pv4, pu1, pu6, pits, hP36, hC35, hcode⟩ := pat_in X
  (try k_unmd)
  k_steps
  refine unstop ?_
  rename Fr _ _ _ _ => F8
  rename News _ _ _ _ => N8
  refine call_sub (F8.keep _ _ hP36) (F8.keep _ _ hC35) hcode (own_at N8 (by k_mem)) hok hlo (by omega) fun t' h' tk' hk => ?_
  have F9 := F8.keeps hk
  have N9 := News.grown N8 hk
  clear F8 N8
  cases b
  all_goals k_steps
  · exact own_at (by assumption) (by k_mem)
  · rename Fr _ _ _ _ => F8
    rename News _ _ _ _ => N8
    rename TriplesOk _ => H8
    have e : setS false y = Str.empty ++ Str.ofString "[" ++ y ++ Str.ofString "]" := by
      unfold setS; rw [if_neg Bool.false_ne_true, Str.empty_append]
    replace N8 := lose (lose N8)
    rw [← e] at N8
    exact hQ _ _ _ _ _ _ F8 N8 H8 ⟨rfl, rfl, rfl, trivial⟩
  · exact own_at (by assumption) (by k_mem)
  · rename Fr _ _ _ _ => F8
    rename News _ _ _ _ => N8
    rename TriplesOk _ => H8
    have e : setS true y = Str.empty ++ Str.ofString "[" ++ (Str.ofString "^" ++ Txt.slice y (some 1) none) ++ Str.ofString "]" := by
      unfold setS; rw [if_pos rfl, Str.empty_append]
    replace N8 := lose N8
    rw [← e] at N8
    exact hQ _ _ _ _ _ _ F8 N8 H8 ⟨rfl, rfl, rfl, trivial⟩
end
section
open PySem PySem.W PySem.Calls PySem.Spec PyProof.Rows
set_option maxRecDepth 100000
set_option maxHeartbeats 8000000

local macro_rules | `(tactic| walk_at "binaryOp Add str str") => `(tactic| (k_here; (with_reducible show wpAny _ _ (binaryOp Operator.Add (Value.str _ _) (Value.str _ _)) _ _ _); (refine' SB.add ?_ (by with_reducible (rw [sizeLine_eq]; omega))); intro _ _))
local macro_rules | `(tactic| walk_at "inplaceOp Add str str") => `(tactic| (k_here; (with_reducible show wpAny _ _ (inplaceOp Operator.Add (Value.str _ _) (Value.str _ _)) _ _ _); (refine' SB.iadd ?_ (by with_reducible (rw [sizeLine_eq]; omega))); intro _ _))

local macro_rules | `(tactic| walk_at "exec For Name Call cons nil") => `(tactic| refine Stop.out ?_)
local macro_rules | `(tactic| walk_at "pyIter ref") => `(tactic| refine Stop.out ?_)
local macro_rules | `(tactic| walk_at "call builtin:str.join") => `(tactic| refine Stop.out ?_)
local macro_rules | `(tactic| walk_at "subscriptTail Name BinOp ref int") => `(tactic| (k_here; (with_reducible show wpAny _ _ (subscriptTail _ _ (Value.ref _) (Value.int _ _)) _ _ _); (with_reducible rename News _ _ _ _ => N8); (with_reducible rename StrsAre _ _ => hs8); (refine' sl_subE N8 ?mm hs8 ?vv ?i0 ?i1 ?i2 ?_ ?ee); (case mm => exact List.Mem.head _); (case vv => with_reducible assumption); (case i0 => omega); (case i1 => omega); (case i2 => omega); (case ee => with_unfolding_all rfl); intro t8; (try dsimp only)))
local macro_rules | `(tactic| walk_at "subscriptTail Name Name ref int") => `(tactic| (k_here; (with_reducible show wpAny _ _ (subscriptTail _ _ (Value.ref _) (Value.int _ _)) _ _ _); (with_reducible rename News _ _ _ _ => N8); (with_reducible rename StrsAre _ _ => hs8); (refine' sl_subE N8 ?mm hs8 ?vv ?i0 ?i1 ?i2 ?_ ?ee); (case mm => exact List.Mem.head _); (case vv => with_reducible assumption); (case i0 => omega); (case i1 => omega); (case i2 => omega); (case ee => with_unfolding_all rfl); intro t8; (try dsimp only)))
local macro_rules | `(tactic| walk_at "subscriptTail Subscript Constant str int") => `(tactic| (k_here; (with_reducible show wpAny _ _ (subscriptTail _ _ (Value.str _ _) (Value.int _ _)) _ _ _); (refine str_at (by omega) (by omega) (by omega) ?_); (try dsimp only)))
local macro_rules | `(tactic| walk_at "subscriptTail Name UnaryOp str int") => `(tactic| (k_here; (with_reducible show wpAny _ _ (subscriptTail _ _ (Value.str _ _) (Value.int (-1) _)) _ _ _); (refine str_last ?s1 ?s2 ?_); (case s1 => omega); (case s2 => omega); (try dsimp only)))
local macro_rules | `(tactic| walk_at "subscriptTail Subscript UnaryOp str int") => `(tactic| (k_here; (with_reducible show wpAny _ _ (subscriptTail _ _ (Value.str _ _) (Value.int (-1) _)) _ _ _); (refine str_last ?s1 ?s2 ?_); (case s1 => omega); (case s2 => omega); (try dsimp only)))
local macro_rules | `(tactic| walk_at "compareOp Gt str str") => `(tactic| (refine gt_oneE (by with_reducible assumption) ?_))
local macro_rules | `(tactic| walk_at "setItem ref int") => `(tactic| refine Stop.out ?_)
local macro_rules | `(tactic| walk_at "delItem ref int") => `(tactic| refine Stop.out ?_)
local macro_rules | `(tactic| walk_at "eval Name") => `(tactic| ((with_reducible show wpAny _ _ (eval (Expr.Name _ _) (genEnv _ _ _ _ _ _)) _ _ _); (with_unfolding_all refine' ldVarG ?FF ?mm ?_); (case FF => with_reducible assumption); (case mm => with_reducible assumption)))
structure ChOk (cs0 : List Str) : Prop where
  len : cs0.length ≤ 100
  ne : ∀ c ∈ cs0, 0 < c.cps.size
  fl : ∀ k, 1 ≤ k → k < cs0.length → ∃ d t, fallC (cs0.drop k) = d :: t ∧ 0 < d.cps.size
  bd : ∀ k, ∀ c ∈ fallC (cs0.drop k), c.cps.size ≤ 200
  bc : ∀ c ∈ cs0, c.cps.size ≤ 200
  ok : ∀ c ∈ fallC cs0, ∀ i, i < c.cps.size → c.cps.getD i 0 ≠ 92
  sm : (((fallC cs0).map escC).map (·.length)).sum ≤ 1000
noncomputable def trFall : List Stmt := trCh.drop 5
theorem trans_fall (w : World) (cs0 : List Str) (hch : ChOk cs0) {vs : List Value} {D : Addr} {c0 : Nat} {jv nv : Int} {t2 t3 : Tok} {p : Program} {loose : List Str} {mean : ExcName → Option Value} {mg mb : Str → Option Value}
    {dp un : Nat} {gd : Option (List Code)} {cn : Str} {cs : Scope} {L a : Addr} {ccd : Value} {cl : List (Str × Addr)} {outer : List Env} {L' : Addr} {base g h : Heap} {m : Str → Option Value} {u l : Addr} {ps : Array Value}
    {gn : Array GenState} {d : Drawn} {tk : Nat} {o : OsState} {Q : Flow → Shared → Prop}
    (B : Below (ktrTop dp un gd cn cs L a ccd cl outer) base (envX cn cs L a ccd cl :: outer) g) (X : (KK w).In g) (T : Top p loose mean mg mb g)
    (hTr : TriplesOk ps.toList) (hG : AllBare gn) (hd : dp + 4 < recursionLimit) (hu : un + 20 * 4 < cLine) (hl57 : @LT.lt Nat _ 57 l) (hlu : @LT.lt Nat _ l u)
    (F : Fr g L' h m) (N : News g L' h [(D, W.listOf vs.toArray c0), (u, appOf l), (l, W.listOf #[] 0), (57, tabObj ps)]) (hvs : StrsAre vs cs0) (huD : @LT.lt Nat _ u D)
    (hm : Knows m [(Str.ofString "res", .ref l), (Str.ofString "add", .ref u), (Str.ofString "n", .int nv t2), (Str.ofString "j", .int jv t3), (Str.ofString "chunks", .ref D)])
    (hQ : ∀ m' h' gn' d' tk' ps' t', Fr g L' h' m' → News g L' h' [(u, appOf l), (l, W.listOf #[] 0), (57, tabObj ps')] → TriplesOk ps'.toList → AllBare gn' →
      Knows m' [(Str.ofString "res", .ref l), (Str.ofString "add", .ref u), (Str.ofString "n", .int nv t2), (Str.ofString "j", .int jv t3), (Str.ofString "stuff", .str (Txt.join (Str.ofString "-") ((fallC cs0).map escC)) t')] → Q .next ⟨h', gn', d', tk', o⟩) :
    wpAny (model Prg w) (trAt dp un gd cn cs L a ccd cl outer L') (execs trFall (envOf (Str.ofString "_translate") trScope L' 62 (Value.ref 61))) Q (fun _ _ => False) ⟨h, gn, d, tk, o⟩ := by
  delta Prg KK trAt at *
  unfold trFall trScope
  show wpAny _ (Around.deeper _ (envOf _ (Scope.mk _ _ _ _ _) _ _ _)) (execs (_ :: _) (envOf _ (Scope.mk _ _ _ _ _) _ _ _)) _ _ _
  revert X
  k_fill
  intro X
  replace F := Knows.fr F hm
  have hC61 : CodeHd g 61 57 := codeHd_of_K (c := 61) (P := 57) X (by kernel_rfl)
  (try k_unmd)

  obtain ⟨hlen, hne, hfl, hbd, hbc, hok, hsm⟩ := hch
  have hvl := hvs.len_eq
  k_steps
  refine unstop ?_
  rename Fr _ _ _ _ => F1
  rename News _ _ _ _ => N1
  refine For_invVF F1 rfl rfl ?_ (by intro _; rfl) .never
  k_steps
  refine unstop ?_
  rename IsRange _ _ _ _ _ _ _ _ => R1
  rename Fr _ _ _ _ => F1
  rename News _ _ _ _ => N1
  rename StrsAre _ _ => hvs
  refine for_down (n := cs0.length - 1) (fun i m₁ news₁ => ∃ (vs' : List Value) (c : Nat), news₁ = [(D, W.listOf vs'.toArray c), (u, appOf l), (l, W.listOf #[] 0), (57, tabObj ps)] ∧ StrsAre vs' (cs0.take (cs0.length - 1 - i) ++ fallC (cs0.drop (cs0.length - 1 - i))) ∧
    Knows m₁ [(Str.ofString "res", .ref l), (Str.ofString "add", .ref u), (Str.ofString "n", .int nv t2), (Str.ofString "j", .int jv t3), (Str.ofString "chunks", .ref D)]) rfl R1 ?_ ?_ F1 N1 ⟨_, _, rfl, by rw [fall_start]; exact hvs, ⟨rfl, rfl, rfl, rfl, rfl, trivial⟩⟩ ?_ ?_
  · exact small_down (by omega) (by omega) (by omega) (by omega)
  · rw [rangeSize_downNat]; omega
  · clear F1 N1 R1 hvs
    rintro i t m₁ _ h₁ tk₁ own hi ha hoff ⟨vs', c, rfl, hs', hm'⟩ F₁ N₁
    replace F₁ := Knows.fr1 F₁ hm'
    obtain ⟨k, hk⟩ : ∃ k, k = cs0.length - 1 - i := ⟨_, rfl⟩
    have ek : ((cs0.length : Int) - 1 - (i : Int)) = ((k : Nat) : Int) := by omega
    rw [ek] at F₁
    rw [← hk] at hs'
    have en : cs0.length = k + 1 + i := by omega
    have k1 : 1 ≤ k := hk ▸ Nat.sub_pos_of_lt hi
    clear hk hi ek
    obtain ⟨d1, r1, hf, hd0⟩ := hfl k (by omega) (by omega)
    rw [hf] at hs'
    obtain ⟨e1, e2, e3, e4⟩ := fall_turn (by omega) (by omega) hf
    have hCl : (cs0.take k ++ d1 :: r1).length ≤ cs0.length := by
      have := fallC_len (cs0.drop k)
      rw [hf, List.length_drop] at this
      rw [List.length_append, List.length_take]
      omega
    have hCk : k < (cs0.take k ++ d1 :: r1).length := by rw [List.length_append, List.length_take, List.length_cons]; omega
    have hd1 : d1.cps.size ≤ 200 := hbd k d1 (by rw [hf]; exact .head _)
    have hcm : cs0.getD (k - 1) Str.empty ∈ cs0 := by rw [List.getD_eq_getElem?_getD, List.getElem?_eq_getElem (Nat.lt_of_le_of_lt (Nat.sub_le k 1) (by clear hCl hCk k1; omega))]; exact List.getElem_mem _
    have hc0 := hne _ hcm
    have hc1 := hbc _ hcm
    rw [show cs0.length - 1 - (i + 1) = k - 1 from by omega]
    generalize cs0.getD (k - 1) Str.empty = c1 at e1 e3 e4 hc0 hc1
    generalize hC : cs0.take k ++ d1 :: r1 = C at e1 e2 e3 e4 hs' hCl hCk
    have q1 : C.getD (Int.toNat ((k : Int) - 1)) Str.empty = c1 := by rw [show ((k : Int) - 1).toNat = k - 1 from Int.toNat_sub k 1]; exact e1
    have q2 : C.getD (Int.toNat (k : Int)) Str.empty = d1 := by rw [Int.toNat_natCast]; exact e2
    have hoff' : ∀ q ∈ (u, appOf l) :: (l, W.listOf #[] 0) :: (57, tabObj ps) :: own, q.1 ≠ D := by
      intro q hq
      rcases List.mem_cons.mp hq with rfl | hq
      · exact Nat.ne_of_lt huD
      · rcases List.mem_cons.mp hq with rfl | hq
        · exact Nat.ne_of_lt (Nat.lt_trans hlu huD)
        · rcases List.mem_cons.mp hq with rfl | hq
          · exact Nat.ne_of_lt (Nat.lt_trans hl57 (Nat.lt_trans hlu huD))
          · exact hoff q hq D (.head _)
    have z1 : (Txt.slice c1 none (some (-1))).length ≤ 200 := Nat.le_trans (Txt.slice_le _ _ _) hc1
    have z2 : (Txt.slice d1 (some 1) none).length ≤ 200 := Nat.le_trans (Txt.slice_le _ _ _) hd1
    simp only [List.cons_append, List.nil_append] at N₁
    by_cases hlt : firstC d1 < lastC c1
    · have q3 : decide (d1.cps.getD (Int.toNat 0) 0 < c1.cps.getD (c1.cps.size - 1) 0) = true := decide_eq_true hlt
      replace e3 := e3 hlt
      clear e4 hlt
      k_steps
      refine unstop ?_
      rename Fr _ _ _ _ => F8
      rename News _ _ _ _ => N8
      rename StrsAre _ _ => hs7
      refine sl_set F8 N8 (UpdF.head hoff') hs7 (by omega) (by omega) (by omega) fun h8 F9 N9 => ?_
      have hs9 := fun y u => strs_set (y := y) (u := u) hs7 (Int.toNat ((k : Int) - 1))
      clear F8 N8 hs7
      dsimp only at N9 ⊢
      k_steps
      refine unstop ?_
      rename Fr _ _ _ _ => F8
      rename News _ _ _ _ => N8
      refine sl_del F8 N8 (UpdF.head hoff') (hs9 _ _) (by omega) (by rw [List.length_set]; omega) (by rw [List.length_set]; omega) fun h8 F9 N9 => ?_
      clear F8 N8
      dsimp only at N9 ⊢
      k_steps
      refine unstop ?_
      rename Fr _ _ _ _ => F9
      rename News _ _ _ _ => N9
      have hk1 : ((k : Int) - 1).toNat = k - 1 := Int.toNat_sub k 1
      have hs8 := fun u => strs_del (hs9 (meld c1 d1) u) (Int.toNat (k : Int))
      simp only [hk1, Int.toNat_natCast] at hs8 N9
      show InvEndN _ _ _ _ _ _ _
      refine inv_end (rest := [(u, appOf l), (l, W.listOf #[] 0), (57, tabObj ps)]) F9 N9 rfl ?_
      exact ⟨_, _, rfl, by rw [← e3]; exact hs8 _, ⟨rfl, rfl, rfl, rfl, rfl, trivial⟩⟩
    · have q3 : decide (d1.cps.getD (Int.toNat 0) 0 < c1.cps.getD (c1.cps.size - 1) 0) = false := decide_eq_false hlt
      replace e4 := e4 hlt
      clear e3 hlt
      k_steps
      refine unstop ?_
      rename Fr _ _ _ _ => F9
      rename News _ _ _ _ => N9
      rename StrsAre _ _ => hs9
      refine ⟨_, _, _, _, [(D, W.listOf vs'.toArray c), (u, appOf l), (l, W.listOf #[] 0), (57, tabObj ps)], rfl, F9, N9, ?_, ?_, rfl, _, _, rfl, by rw [← e4]; exact hs9, ⟨rfl, rfl, rfl, rfl, rfl, trivial⟩⟩
      · intro q hq; exact List.mem_append_left own hq
      · intro q hq; exact List.mem_append_right [(D, W.listOf vs'.toArray c), (u, appOf l), (l, W.listOf #[] 0), (57, tabObj ps)] hq
  · clear F1 N1 R1 hvs
    rintro m₁ _ h₁ tk₁ ⟨vs', c, rfl, hs', hm'⟩ F₁ N₁
    replace F₁ := Knows.fr F₁ hm'
    rw [Nat.sub_self, List.take_zero, List.drop_zero, List.nil_append] at hs'
    k_steps
    refine unstop ?_
    rename Fr _ _ _ _ => F8
    rename News _ _ _ _ => N8
    rename StrsAre _ _ => hs7
    refine gexp_K (f := escC) F8 N8 T hC61 (UpdF.tail ?_ (UpdF.tail ?_ (UpdF.tail ?_ (UpdF.head ?_)))) hTr hG (.head _) (by simpa using hs7) rfl rfl rfl rfl rfl (by decide) rfl rfl rfl ?_ ?_ (by intro _; rfl) ?_ ?_
    · exact Nat.ne_of_gt (Nat.lt_trans hl57 (Nat.lt_trans hlu huD))
    · exact Nat.ne_of_gt (Nat.lt_trans hl57 hlu)
    · exact Nat.ne_of_gt hl57
    · intro q hq; cases hq
    · ktr_room
    · intro Q' hq'
      k_steps
      exact hq'
    · intro C code A' E' y t0 u0 m₂ hA hD hU hy hns hm2
      obtain ⟨hp0, gn0, d0, tk0, o0⟩ := u0
      have Fz : Fr ({ objs := #[] } : Heap) C hp0 m₂ := ⟨hns, fun b o e => by simp [Heap.get?] at e, Nat.zero_le _⟩
      clear F8 N8
      have hyok := hok y hy
      have hyb := hbd 0 y (by simpa using hy)
      k_steps
      refine unstop ?_
      refine rep_none (c := 92) (by decide +kernel) hyok ?_
      k_steps
      refine unstop ?_
      refine SC.replaceW (Nat.succ_ne_zero _) (Nat.succ_ne_zero _) (Nat.ne_of_lt (Nat.lt_succ_self _)) (by decide +kernel) (by show y.cps.size ≤ _; omega) (by decide +kernel) fun t' k => ?_
      refine ⟨⟨t', ?_⟩, _, _, rfl, fun _ _ e => e⟩
      unfold escC
      rw [show Str.ofString "\\" = ⟨#[92]⟩ from by decide +kernel, rep_id hyok]
    · intro a ps' s' F9 N9 ht9 hG9 ho9 hJ
      obtain ⟨h9, gn9, d9, tk9, o9⟩ := s'
      have ho9' : o9 = o := ho9
      subst ho9'
      clear F8 N8
      k_steps
      refine unstop ?_
      have hfl2 := fallC_len cs0
      refine gjoin_K F9 N9 hG9 hJ (by omega) (joinOk_of ?_) fun s'' t'' Fa Na Ga hoa => ?_
      · rw [List.length_map, show (Str.ofString "-").length = 1 from by decide +kernel]
        omega
      · obtain ⟨ha, gna, da, tka, oa⟩ := s''
        have hoa' : oa = o9 := hoa
        subst hoa'
        clear F9 N9 hJ
        k_steps
        rename Fr _ _ _ _ => F9
        rename News _ _ _ _ => N9
        exact hQ _ _ _ _ _ _ _ F9 (lose N9) ht9 Ga ⟨rfl, rfl, rfl, rfl, rfl, trivial⟩
end
section
open PySem PySem.W PySem.Calls PySem.Spec PyProof.Rows
set_option maxRecDepth 100000
set_option maxHeartbeats 8000000

local macro_rules | `(tactic| walk_at "binaryOp Add str str") => `(tactic| (k_here; (with_reducible show wpAny _ _ (binaryOp Operator.Add (Value.str _ _) (Value.str _ _)) _ _ _); (refine' SB.add ?_ (by with_reducible (rw [sizeLine_eq]; omega))); intro _ _))
local macro_rules | `(tactic| walk_at "inplaceOp Add str str") => `(tactic| (k_here; (with_reducible show wpAny _ _ (inplaceOp Operator.Add (Value.str _ _) (Value.str _ _)) _ _ _); (refine' SB.iadd ?_ (by with_reducible (rw [sizeLine_eq]; omega))); intro _ _))

local macro_rules | `(tactic| walk_at "exec While Constant cons nil") => `(tactic| refine Stop.out ?_)
local macro_rules | `(tactic| walk_at "call builtin:str.find") => `(tactic| refine Stop.out ?_)
local macro_rules | `(tactic| walk_at "call builtin:list.append") => `(tactic| refine Stop.out ?_)
local macro_rules | `(tactic| walk_at "getItem ref int") => `(tactic| refine Stop.out ?_)
local macro_rules | `(tactic| walk_at "setItem ref int") => `(tactic| refine Stop.out ?_)
local macro_rules | `(tactic| walk_at "execs cons") => `(tactic| ((with_reducible show wpAny _ _ (execs (Stmt.For _ _ _ _ _ :: _) _) _ _ _); refine Stop.out ?_))
local macro_rules | `(tactic| walk_at "execs cons") => `(tactic| ((with_reducible show wpAny _ _ (execs (Stmt.While _ _ _ _ :: _) _) _ _ _); refine Stop.out ?_))
local macro_rules | `(tactic| walk_at "truthy str") => `(tactic| (refine KXt.truthy (b := false) (by with_reducible assumption) (by omega) fun k => ?_))
structure TPre (x : Str) (b : Bool) : Prop where
  lo : 10 ≤ x.cps.size
  hi : x.cps.size ≤ 100
  c0 : x.cps.getD 0 0 = 91
  c1 : x.cps.getD 1 0 = 33 ↔ b = true
  ce : x.cps.getD (x.cps.size - 1) 0 = 93
  cm : ∀ i, 1 ≤ i → i < x.cps.size - 1 → okCp (x.cps.getD i 0)
theorem execs_go {M : Model} {A : Around} {E : Value → Shared → Prop} {s : Shared} {st : Stmt} {rest : List Stmt} {env : Env} {Q : Flow → Shared → Prop}
    (h : wpAny M A (exec st env) (fun f s' => match f with | .next => wpAny M A (execs rest env) Q E s' | f => Q f s') E s) : wpAny M A (execs (st :: rest) env) Q E s := wpAny_execs_cons h
noncomputable def kst (b : Bool) : Nat := if b = true then 3 else 2
theorem trans_chunks (w : World) (x : Str) (b : Bool) (hx : TPre x b) (hch : ChOk (fixC (chunksAt x (x.cps.size - 1) 1 (kst b)))) {t t1 t2 t3 : Tok} {p : Program} {loose : List Str} {mean : ExcName → Option Value} {mg mb : Str → Option Value}
    {dp un : Nat} {gd : Option (List Code)} {cn : Str} {cs : Scope} {L a : Addr} {ccd : Value} {cl : List (Str × Addr)} {outer : List Env} {L' : Addr} {base g h : Heap} {m : Str → Option Value} {u l : Addr} {ps : Array Value}
    {gn : Array GenState} {d : Drawn} {tk : Nat} {o : OsState} {Q : Flow → Shared → Prop}
    (B : Below (ktrTop dp un gd cn cs L a ccd cl outer) base (envX cn cs L a ccd cl :: outer) g) (X : (KK w).In g) (T : Top p loose mean mg mb g)
    (hTr : TriplesOk ps.toList) (hG : AllBare gn) (hd : dp + 4 < recursionLimit) (hu : un + 20 * 4 < cLine) (hl57 : @LT.lt Nat _ 57 l) (hlu : @LT.lt Nat _ l u)
    (F : Fr g L' h m) (N : News g L' h [(u, appOf l), (l, W.listOf #[] 0), (57, tabObj ps)])
    (hm : Knows m [(Str.ofString "pat", .str x t), (Str.ofString "res", .ref l), (Str.ofString "add", .ref u), (Str.ofString "i", .int (0 + 1) t1), (Str.ofString "n", .int (x.length : Nat) t2), (Str.ofString "j", .int ((x.cps.size - 1 : Nat) : Int) t3)])
    (hQ : ∀ m' h' gn' d' tk' ps' t', Fr g L' h' m' → News g L' h' [(u, appOf l), (l, W.listOf #[] 0), (57, tabObj ps')] → TriplesOk ps'.toList → AllBare gn' →
      Knows m' [(Str.ofString "res", .ref l), (Str.ofString "add", .ref u), (Str.ofString "n", .int (x.length : Nat) t2), (Str.ofString "j", .int ((x.cps.size - 1 : Nat) : Int) t3), (Str.ofString "stuff", .str (Txt.join (Str.ofString "-") ((fallC (fixC (chunksAt x (x.cps.size - 1) 1 (kst b)))).map escC)) t')] → Q .next ⟨h', gn', d', tk', o⟩) :
    wpAny (model Prg w) (trAt dp un gd cn cs L a ccd cl outer L') (execs trCh (envOf (Str.ofString "_translate") trScope L' 62 (Value.ref 61))) Q (fun _ _ => False) ⟨h, gn, d, tk, o⟩ := by
  delta Prg KK trAt at *
  unfold trCh trScope
  show wpAny _ (Around.deeper _ (envOf _ (Scope.mk _ _ _ _ _) _ _ _)) (execs (_ :: _) (envOf _ (Scope.mk _ _ _ _ _) _ _ _)) _ _ _
  revert X
  k_fill
  intro X
  replace F := Knows.fr F hm
  have hC61 : CodeHd g 61 57 := codeHd_of_K (c := 61) (P := 57) X (by kernel_rfl)
  (try k_unmd)

  obtain ⟨hlo, hhi, hc0, hc1, hce, hcm⟩ := hx
  have hxl : x.length = x.cps.size := rfl
  have f4 : ((⟨#[x.cps.getD (Int.toNat (0 + 1)) 0]⟩ : Str) == Str.ofString "!") = b := by
    rw [one_eq (d := 33) (by decide +kernel), show x.cps.getD (Int.toNat (0 + 1)) 0 = x.cps.getD 1 0 from rfl]
    cases b with
    | true => rw [hc1.mpr rfl]; rfl
    | false => rw [beq_eq_false_iff_ne]; exact fun e => Bool.false_ne_true (hc1.mp e)
  clear hc0 hc1
  have key : ∀ (D c : Nat) (m₀ : Str → Option Value) (tk₀ : Nat) (h₀ : Heap) (t4 t5 : Tok), @LT.lt Nat _ u D → Fr g L' h₀ m₀ → News g L' h₀ [(D, W.listOf #[] c), (u, appOf l), (l, W.listOf #[] 0), (57, tabObj ps)] →
      Knows m₀ [(Str.ofString "pat", .str x t), (Str.ofString "res", .ref l), (Str.ofString "add", .ref u), (Str.ofString "i", .int ((1 : Nat) : Int) t4), (Str.ofString "n", .int (x.length : Nat) t2), (Str.ofString "j", .int ((x.cps.size - 1 : Nat) : Int) t3), (Str.ofString "k", .int ((kst b : Nat) : Int) t5), (Str.ofString "chunks", .ref D)] →
      wpAny (model PySem.Challenge.rw_rx0051_01.row.prog w) (Around.deeper (ktrTop dp un gd cn cs L a ccd cl outer) (envOf (Str.ofString "_translate") trScope L' 62 (Value.ref 61))) (execs (trCh.drop 2) (envOf (Str.ofString "_translate") trScope L' 62 (Value.ref 61))) Q (fun _ _ => False) ⟨h₀, gn, d, tk₀, o⟩ := by
    clear F N hm
    intro D c m₀ tk₀ h₀ t4 t5 huD F₀ N₀ hm₀
    replace F₀ := Knows.fr F₀ hm₀
    unfold trCh trScope
    show wpAny _ (Around.deeper _ (envOf _ (Scope.mk _ _ _ _ _) _ _ _)) (execs (_ :: _) (envOf _ (Scope.mk _ _ _ _ _) _ _ _)) _ _ _
    refine execs_go ?_
    generalize hj : x.cps.size - 1 = j at *
    have hj' : x.cps.size = j + 1 := by omega
    clear hj
    have hoff : ∀ q ∈ [(u, appOf l), (l, W.listOf #[] 0), (57, tabObj ps)], q.1 ≠ D := by
      intro z hz
      rcases List.mem_cons.mp hz with rfl | hz
      · exact Nat.ne_of_lt huD
      · rcases List.mem_cons.mp hz with rfl | hz
        · exact Nat.ne_of_lt (Nat.lt_trans hlu huD)
        · rcases List.mem_cons.mp hz with rfl | hz
          · exact Nat.ne_of_lt (Nat.lt_trans hl57 (Nat.lt_trans hlu huD))
          · cases hz
    refine While_inv2 (n₀ := x.cps.size + 3 - kst b) (fun n m₁ news₁ => ∃ (i k : Nat) (done : List Str) (vs : List Value) (c : Nat) (t4 t5 : Tok), n = x.cps.size + 3 - k ∧ news₁ = [(D, W.listOf vs.toArray c), (u, appOf l), (l, W.listOf #[] 0), (57, tabObj ps)] ∧ StrsAre vs done ∧
      done ++ chunksAt x j i k = chunksAt x j 1 (kst b) ∧ i ≤ j ∧ i < k ∧ k ≤ j + 3 ∧ done.length ≤ k ∧ (i < j ∨ 0 < done.length) ∧
      Knows m₁ [(Str.ofString "pat", .str x t), (Str.ofString "res", .ref l), (Str.ofString "add", .ref u), (Str.ofString "i", .int (i : Nat) t4), (Str.ofString "n", .int (x.length : Nat) t2), (Str.ofString "j", .int (j : Nat) t3), (Str.ofString "k", .int (k : Nat) t5), (Str.ofString "chunks", .ref D)]) F₀ N₀
      ⟨1, kst b, [], [], c, t4, t5, ?_, rfl, .nil, rfl, by omega, ?_, ?_, Nat.zero_le _, .inl (by omega), ⟨rfl, rfl, rfl, rfl, rfl, rfl, rfl, rfl, trivial⟩⟩ ?_ .never
    · rfl
    · unfold kst; split <;> omega
    · unfold kst; split <;> omega
    · clear F₀ N₀
      rintro n m₁ _ h₁ tk₁ F₁ N₁ ⟨i, k, done, vs, c, t4, t5, rfl, rfl, hvs, hdn, hij, hik, hk3, hdl, hor, hm'⟩
      replace F₁ := Knows.fr F₁ hm'
      k_steps
      refine unstop ?_
      refine call_find4 (c := 45) (by decide +kernel) (by omega) ?_ ?_
      · clear hor
        intro q t' tk' hq1 hq2 hq3 hq4
        have hds : done ++ [cut x i q] ++ chunksAt x j (q + 1) (q + 3) = chunksAt x j 1 (kst b) := by
          rw [← hdn, chunksAt_some (i := i) hq1 hq2 hq3 hq4, List.append_assoc]; rfl
        k_steps
        refine unstop ?_
        rename Fr _ _ _ _ => F8
        rename News _ _ _ _ => N8
        rename StrsAre _ _ => hvs
        rw [slice_nat]
        have hvl := hvs.len_eq
        refine append_K F8 N8 (Upd.head hoff) ?_ (by rw [sizeLine_eq, List.size_toArray]; omega)
        intro h9 F9 N9
        clear F8 N8
        dsimp only
        k_steps
        rename Fr _ _ _ _ => F8
        rename News _ _ _ _ => N8
        rename StrsAre _ _ => hvs
        rw [List.push_toArray] at N8
        exact ⟨_, _, _, _, x.cps.size + 3 - (q + 3), rfl, F8, N8, by omega, q + 1, q + 3, done ++ [cut x i q], _, _, _, _, rfl, rfl, strs_snoc hvs, hds, by omega, by omega, by omega, by simp; omega, .inr (by simp), ⟨rfl, rfl, rfl, rfl, rfl, rfl, rfl, rfl, trivial⟩⟩
      · intro t' tk' hn
        have hds : done ++ [cut x i j] = chunksAt x j 1 (kst b) := by rw [← hdn, chunksAt_none (i := i) hn]
        rcases Nat.lt_or_ge i j with hlt | hge
        · have hcl : (Txt.slice x (some (i : Int)) (some (j : Int))).length = j - i := by rw [slice_nat]; exact cut_size (by omega)
          clear hor
          k_steps
          dsimp only [WhileStep2]
          k_steps
          refine unstop ?_
          rename Fr _ _ _ _ => F8
          rename News _ _ _ _ => N8
          rename StrsAre _ _ => hvs
          rw [slice_nat]
          have hvl := hvs.len_eq
          rw [← hds, fixC_keep (by rw [cut_size (by omega)]; omega)] at hch hQ
          refine append_K F8 N8 (Upd.head hoff) ?_ (by rw [sizeLine_eq, List.size_toArray]; omega)
          intro h9 F9 N9
          clear F8 N8
          dsimp only
          rw [List.push_toArray] at N9
          have hv2 := fun tt => strs_snoc (u := tt) (y := cut x i j) hvs
          clear hvs
          k_steps
          refine unstop ?_
          rename Fr _ _ _ _ => F9
          rename News _ _ _ _ => N9
          exact trans_fall w _ hch B X T hTr hG hd hu hl57 hlu F9 N9 (hv2 _) huD ⟨rfl, rfl, rfl, rfl, rfl, trivial⟩ hQ
        · have hcl : (Txt.slice x (some (i : Int)) (some (j : Int))).length = j - i := by rw [slice_nat]; exact cut_size (by omega)
          have hdp : 0 < done.length := hor.resolve_left (Nat.not_lt_of_ge hge)
          clear hor
          have hz : (((Txt.slice x (some (i : Int)) (some (j : Int))).length : Int) != 0) = false := by rw [hcl, show j - i = 0 from by omega]; rfl
          k_steps
          dsimp only [WhileStep2]
          k_steps
          refine unstop ?_
          rename News _ _ _ _ => N8
          rename StrsAre _ _ => hvs
          rw [← hds, fixC_mend (by rw [cut_size (by omega)]; omega) hdp] at hch hQ
          have hlast : (done.getD (done.length - 1) Str.empty).length ≤ 200 := by
            have h1 := hch.bc (done.getD (done.length - 1) Str.empty ++ Str.ofString "-") (List.mem_of_getElem? (i := done.length - 1) (by rw [List.getElem?_set_self (by omega)]))
            have h2 := Str.length_append (done.getD (done.length - 1) Str.empty) (Str.ofString "-")
            have h3 : (done.getD (done.length - 1) Str.empty ++ Str.ofString "-").length ≤ 200 := h1
            omega
          have hhy : (Str.ofString "-").length = 1 := by decide +kernel
          refine sl_getLast N8 (.head _) hvs hdp (by omega) fun t9 => ?_
          dsimp only
          k_steps
          refine unstop ?_
          rename Fr _ _ _ _ => F8
          rename News _ _ _ _ => N8
          rename StrsAre _ _ => hvs
          refine sl_setLast F8 N8 (UpdF.head hoff) hvs hdp fun h9 F9 N9 => ?_
          have hv2 := fun tt => strs_set (u := tt) (y := done.getD (done.length - 1) Str.empty ++ Str.ofString "-") hvs (done.length - 1)
          clear F8 N8 hvs
          dsimp only at N9 ⊢
          k_steps
          refine unstop ?_
          rename Fr _ _ _ _ => F9
          rename News _ _ _ _ => N9
          exact trans_fall w _ hch B X T hTr hG hd hu hl57 hlu F9 N9 (hv2 _) huD ⟨rfl, rfl, rfl, rfl, rfl, trivial⟩ hQ
  cases b
  all_goals k_steps
  · refine unstop ?_
    rename Fr _ _ _ _ => F8
    rename News _ _ _ _ => N8
    refine key _ 0 _ _ _ _ _ ?_ F8 N8 ⟨rfl, rfl, rfl, rfl, rfl, rfl, rfl, rfl, trivial⟩
    omega
  · refine unstop ?_
    rename Fr _ _ _ _ => F8
    rename News _ _ _ _ => N8
    refine key _ 0 _ _ _ _ _ ?_ F8 N8 ⟨rfl, rfl, rfl, rfl, rfl, rfl, rfl, rfl, trivial⟩
    omega
end
section
open PySem PySem.W PySem.Calls PySem.Spec PyProof.Rows
set_option maxRecDepth 100000
set_option maxHeartbeats 8000000

local macro_rules | `(tactic| walk_at "binaryOp Add str str") => `(tactic| (k_here; (with_reducible show wpAny _ _ (binaryOp Operator.Add (Value.str _ _) (Value.str _ _)) _ _ _); (refine' SB.add ?_ (by with_reducible (rw [sizeLine_eq]; omega))); intro _ _))
local macro_rules | `(tactic| walk_at "inplaceOp Add str str") => `(tactic| (k_here; (with_reducible show wpAny _ _ (inplaceOp Operator.Add (Value.str _ _) (Value.str _ _)) _ _ _); (refine' SB.iadd ?_ (by with_reducible (rw [sizeLine_eq]; omega))); intro _ _))

local macro_rules | `(tactic| walk_at "exec While BoolOp cons nil") => `(tactic| refine Stop.out ?_)
local macro_rules | `(tactic| walk_at "execs cons") => `(tactic| ((with_reducible show wpAny _ _ (execs (Stmt.Assign [Expr.Name _ _] (Expr.Call (Expr.Attribute (Expr.Name (PySem.Str.ofString "_twin_re_1") _) _ _) _ _ _) _ :: _) _) _ _ _); refine Stop.out ?_))
local macro_rules | `(tactic| walk_at "execs cons") => `(tactic| ((with_reducible show wpAny _ _ (execs (Stmt.Assign [Expr.Name (PySem.Str.ofString "chunks") _] (Expr.List [] _) _ :: _) _) _ _ _); refine Stop.out ?_))
noncomputable def stuffS (x : Str) (b : Bool) : Str := if (Builtin.Str.occurrences (cut x 1 (x.cps.size - 1)) (Str.ofString "-") 0 (cut x 1 (x.cps.size - 1)).length 1).isEmpty = true then cut x 1 (x.cps.size - 1) else Txt.join (Str.ofString "-") ((fallC (fixC (chunksAt x (x.cps.size - 1) 1 (kst b)))).map escC)
structure TrOk (x : Str) (b : Bool) : Prop where
  pre : TPre x b
  ch : (Builtin.Str.occurrences (cut x 1 (x.cps.size - 1)) (Str.ofString "-") 0 (cut x 1 (x.cps.size - 1)).length 1).isEmpty = false → ChOk (fixC (chunksAt x (x.cps.size - 1) 1 (kst b)))
  rp : RPre (stuffS x b) b
/-- the rows of _translate from the search of the closing bracket on -/
noncomputable def trScan : List Stmt := (hdBody (hdElse (hdElse ((hdBody ((fnBody 8).drop 3)).drop 2)))).drop 3
theorem trans_scan (w : World) (x : Str) (b : Bool) (hx : TrOk x b) {t t1 t2 t3 : Tok} {j0 : Nat} {p : Program} {loose : List Str} {mean : ExcName → Option Value} {mg mb : Str → Option Value}
    {dp un : Nat} {gd : Option (List Code)} {cn : Str} {cs : Scope} {L a : Addr} {ccd : Value} {cl : List (Str × Addr)} {outer : List Env} {L' : Addr} {base g h : Heap} {m : Str → Option Value} {u l : Addr} {ps : Array Value}
    {gn : Array GenState} {d : Drawn} {tk : Nat} {o : OsState} {Q : Flow → Shared → Prop}
    (B : Below (ktrTop dp un gd cn cs L a ccd cl outer) base (envX cn cs L a ccd cl :: outer) g) (X : (KK w).In g) (T : Top p loose mean mg mb g)
    (hTr : TriplesOk ps.toList) (hG : AllBare gn) (hd : dp + 4 < recursionLimit) (hu : un + 20 * 4 < cLine) (hl57 : @LT.lt Nat _ 57 l) (hlu : @LT.lt Nat _ l u)
    (F : Fr g L' h m) (N : News g L' h [(u, appOf l), (l, W.listOf #[] 0), (57, tabObj ps)])
    (hm : Knows m [(Str.ofString "pat", .str x t), (Str.ofString "res", .ref l), (Str.ofString "add", .ref u), (Str.ofString "i", .int (0 + 1) t1), (Str.ofString "n", .int (x.length : Nat) t2), (Str.ofString "j", .int (j0 : Nat) t3)])
    (hj1 : 1 ≤ j0) (hj2 : j0 ≤ x.cps.size - 1)
    (hQ : ∀ m' h' gn' d' tk' ps' t' t2' ti, Fr g L' h' m' → News g L' h' [(u, appOf l), (l, W.listOf #[.str (setS b (stuffS x b)) t'] 1), (57, tabObj ps')] → TriplesOk ps'.toList → AllBare gn' →
      Knows m' [(Str.ofString "res", .ref l), (Str.ofString "n", .int (x.length : Nat) t2'), (Str.ofString "i", .int (((x.cps.size - 1 : Nat) : Int) + 1) ti)] → Q .next ⟨h', gn', d', tk', o⟩) :
    wpAny (model Prg w) (trAt dp un gd cn cs L a ccd cl outer L') (execs trScan (envOf (Str.ofString "_translate") trScope L' 62 (Value.ref 61))) Q (fun _ _ => False) ⟨h, gn, d, tk, o⟩ := by
  delta Prg KK trAt at *
  unfold trScan trScope
  show wpAny _ (Around.deeper _ (envOf _ (Scope.mk _ _ _ _ _) _ _ _)) (execs (_ :: _) (envOf _ (Scope.mk _ _ _ _ _) _ _ _)) _ _ _
  revert X
  k_fill
  intro X
  replace F := Knows.fr F hm
  have hC61 : CodeHd g 61 57 := codeHd_of_K (c := 61) (P := 57) X (by kernel_rfl)
  (try k_unmd)

  obtain ⟨⟨hlo, hhi, hc0, hc1, hce, hcm⟩, hch, hR⟩ := hx
  have hTP : TPre x b := ⟨hlo, hhi, hc0, hc1, hce, hcm⟩
  have hxl : x.length = x.cps.size := rfl
  clear hc0 hc1
  k_steps
  refine unstop ?_
  rename Fr _ _ _ _ => F1
  rename News _ _ _ _ => N1
  refine While_inv2 (n₀ := x.cps.size - j0) (fun n m₁ news₁ => ∃ (k : Nat) (t1 t2 t3 : Tok), n = x.cps.size - k ∧ news₁ = [(u, appOf l), (l, W.listOf #[] 0), (57, tabObj ps)] ∧
    Knows m₁ [(Str.ofString "pat", .str x t), (Str.ofString "res", .ref l), (Str.ofString "add", .ref u), (Str.ofString "i", .int (0 + 1) t1), (Str.ofString "n", .int (x.length : Nat) t2), (Str.ofString "j", .int (k : Nat) t3)] ∧ 1 ≤ k ∧ k ≤ x.cps.size - 1) F1 N1
    ⟨j0, _, _, _, rfl, rfl, ⟨rfl, rfl, rfl, rfl, rfl, rfl, trivial⟩, by omega, by omega⟩ ?_ .never
  rintro n m₁ _ h₁ tk₁ F₁ N₁ ⟨k, t1, t2, t3, rfl, rfl, hm, hk1, hk2⟩
  replace F₁ := Knows.fr F₁ hm
  clear F1 N1
  rcases Nat.lt_or_ge k (x.cps.size - 1) with hlt | hge
  · have f7 : ((⟨#[x.cps.getD (Int.toNat (k : Int)) 0]⟩ : Str) == Str.ofString "]") = false := by
      rw [one_eq (d := 93) (by decide +kernel), Int.toNat_natCast, beq_eq_false_iff_ne]
      exact (hcm k hk1 hlt).2.2.2.1
    k_steps
    rename Fr _ _ _ _ => F2
    rename News _ _ _ _ => N2
    exact ⟨_, _, _, _, x.cps.size - (k + 1), rfl, F2, N2, by omega, k + 1, _, _, _, rfl, rfl, ⟨rfl, rfl, rfl, rfl, rfl, rfl, trivial⟩, by omega, by omega⟩
  · obtain rfl : k = x.cps.size - 1 := by omega
    have f7 : ((⟨#[x.cps.getD (Int.toNat ((x.cps.size - 1 : Nat) : Int)) 0]⟩ : Str) == Str.ofString "]") = true := by
      rw [one_eq (d := 93) (by decide +kernel), Int.toNat_natCast, hce]; rfl
    have hcut : Txt.slice x (some (0 + 1)) (some ((x.cps.size - 1 : Nat) : Int)) = cut x 1 (x.cps.size - 1) := slice_nat x 1 (x.cps.size - 1)
    have hyok : ∀ i, i < (cut x 1 (x.cps.size - 1)).cps.size → okCp ((cut x 1 (x.cps.size - 1)).cps.getD i 0) := fun i hi => by
      have e := cut_get (by omega) hi
      rw [e.1]; exact hcm _ (by omega) (by omega)
    k_steps
    · refine unstop ?_
      rw [hcut]
      have hoc : (Builtin.Str.occurrences (cut x 1 (x.cps.size - 1)) (Str.ofString "-") 0 (cut x 1 (x.cps.size - 1)).length 1).isEmpty = true := by
        rw [← hcut]; with_reducible assumption
      have hst : stuffS x b = cut x 1 (x.cps.size - 1) := if_pos hoc
      refine rep_none (c := 92) (by decide +kernel) (fun i hi => (hyok i hi).2.2.1) ?_
      k_steps
      refine unstop ?_
      rename Fr _ _ _ _ => F8
      rename News _ _ _ _ => N8
      rw [hst] at hR hQ
      refine trans_tail w b (cut x 1 (x.cps.size - 1)) hR B X T F8 N8 hTr hl57 hlu (by omega) ⟨rfl, rfl, rfl, rfl, rfl, trivial⟩ ?_
      intro m' h' tk' ps' t' ti F9 N9 H9 hm9
      replace F9 := Knows.fr F9 hm9
      clear F8 N8
      k_steps
      rename Fr _ _ _ _ => Fz
      rename News _ _ _ _ => Nz
      show Q _ _
      exact hQ _ _ _ _ _ _ _ _ _ Fz Nz H9 hG ⟨rfl, rfl, rfl, trivial⟩
    · refine unstop ?_
      rename Fr _ _ _ _ => F8
      rename News _ _ _ _ => N8
      have hoc : (Builtin.Str.occurrences (cut x 1 (x.cps.size - 1)) (Str.ofString "-") 0 (cut x 1 (x.cps.size - 1)).length 1).isEmpty = false := by
        rw [← hcut]; with_reducible assumption
      have hst : stuffS x b = Txt.join (Str.ofString "-") ((fallC (fixC (chunksAt x (x.cps.size - 1) 1 (kst b)))).map escC) := if_neg (by rw [hoc]; exact Bool.false_ne_true)
      rw [hst] at hR hQ
      refine trans_chunks w x b hTP (hch hoc) B X T hTr hG (by omega) (by omega) hl57 hlu F8 N8 ⟨rfl, rfl, rfl, rfl, rfl, rfl, trivial⟩ ?_
      clear F8 N8 hTr hG
      intro m' h' gn' d' tk' ps' t' F9 N9 H9 G9 hm9
      replace F9 := Knows.fr F9 hm9
      k_steps
      refine unstop ?_
      rename Fr _ _ _ _ => F8
      rename News _ _ _ _ => N8
      refine trans_tail w b _ hR B X T F8 N8 H9 hl57 hlu (by omega) ⟨rfl, rfl, rfl, rfl, rfl, trivial⟩ ?_
      clear F8 N8 H9
      intro m' h' tk' ps' t' ti F9 N9 H9 hm9
      replace F9 := Knows.fr F9 hm9
      k_steps
      rename Fr _ _ _ _ => Fz
      rename News _ _ _ _ => Nz
      show Q _ _
      exact hQ _ _ _ _ _ _ _ _ _ Fz Nz H9 G9 ⟨rfl, rfl, rfl, trivial⟩
local macro_rules | `(tactic| walk_at "execs cons") => `(tactic| ((with_reducible show wpAny _ _ (execs (Stmt.While (Expr.BoolOp _ _ _) _ _ _ :: _) _) _ _ _); refine Stop.out ?_))
/-- the rows of _translate behind 'j = i' -/
noncomputable def trBr : List Stmt := (hdBody (hdElse (hdElse ((hdBody ((fnBody 8).drop 3)).drop 2)))).drop 1
theorem trans_br (w : World) (x : Str) (b : Bool) (hx : TrOk x b) {t t1 t2 t3 : Tok} {p : Program} {loose : List Str} {mean : ExcName → Option Value} {mg mb : Str → Option Value}
    {dp un : Nat} {gd : Option (List Code)} {cn : Str} {cs : Scope} {L a : Addr} {ccd : Value} {cl : List (Str × Addr)} {outer : List Env} {L' : Addr} {base g h : Heap} {m : Str → Option Value} {u l : Addr} {ps : Array Value}
    {gn : Array GenState} {d : Drawn} {tk : Nat} {o : OsState} {Q : Flow → Shared → Prop}
    (B : Below (ktrTop dp un gd cn cs L a ccd cl outer) base (envX cn cs L a ccd cl :: outer) g) (X : (KK w).In g) (T : Top p loose mean mg mb g)
    (hTr : TriplesOk ps.toList) (hG : AllBare gn) (hd : dp + 4 < recursionLimit) (hu : un + 20 * 4 < cLine) (hl57 : @LT.lt Nat _ 57 l) (hlu : @LT.lt Nat _ l u)
    (F : Fr g L' h m) (N : News g L' h [(u, appOf l), (l, W.listOf #[] 0), (57, tabObj ps)])
    (hm : Knows m [(Str.ofString "pat", .str x t), (Str.ofString "res", .ref l), (Str.ofString "add", .ref u), (Str.ofString "i", .int (0 + 1) t1), (Str.ofString "n", .int (x.length : Nat) t2), (Str.ofString "j", .int (0 + 1) t3)])
    (hQ : ∀ m' h' gn' d' tk' ps' t' t2' ti, Fr g L' h' m' → News g L' h' [(u, appOf l), (l, W.listOf #[.str (setS b (stuffS x b)) t'] 1), (57, tabObj ps')] → TriplesOk ps'.toList → AllBare gn' →
      Knows m' [(Str.ofString "res", .ref l), (Str.ofString "n", .int (x.length : Nat) t2'), (Str.ofString "i", .int (((x.cps.size - 1 : Nat) : Int) + 1) ti)] → Q .next ⟨h', gn', d', tk', o⟩) :
    wpAny (model Prg w) (trAt dp un gd cn cs L a ccd cl outer L') (execs trBr (envOf (Str.ofString "_translate") trScope L' 62 (Value.ref 61))) Q (fun _ _ => False) ⟨h, gn, d, tk, o⟩ := by
  delta Prg KK trAt at *
  unfold trBr trScope
  show wpAny _ (Around.deeper _ (envOf _ (Scope.mk _ _ _ _ _) _ _ _)) (execs (_ :: _) (envOf _ (Scope.mk _ _ _ _ _) _ _ _)) _ _ _
  revert X
  k_fill
  intro X
  replace F := Knows.fr F hm
  have hC61 : CodeHd g 61 57 := codeHd_of_K (c := 61) (P := 57) X (by kernel_rfl)
  (try k_unmd)

  have hTO := hx
  obtain ⟨⟨hlo, hhi, hc0, hc1, hce, hcm⟩, hch, hR⟩ := hx
  have hxl : x.length = x.cps.size := rfl
  have f4 : ((⟨#[x.cps.getD (Int.toNat (0 + 1)) 0]⟩ : Str) == Str.ofString "!") = b := by
    rw [one_eq (d := 33) (by decide +kernel), show x.cps.getD (Int.toNat (0 + 1)) 0 = x.cps.getD 1 0 from rfl]
    cases b with
    | true => rw [hc1.mpr rfl]; rfl
    | false => rw [beq_eq_false_iff_ne]; exact fun e => Bool.false_ne_true (hc1.mp e)
  have f5 : ((⟨#[x.cps.getD (Int.toNat (0 + 1)) 0]⟩ : Str) == Str.ofString "]") = false := by
    rw [one_eq (d := 93) (by decide +kernel), show x.cps.getD (Int.toNat (0 + 1)) 0 = x.cps.getD 1 0 from rfl, beq_eq_false_iff_ne]
    exact (hcm 1 (by omega) (by omega)).2.2.2.1
  have f6 : ((⟨#[x.cps.getD (Int.toNat (0 + 1 + 1)) 0]⟩ : Str) == Str.ofString "]") = false := by
    rw [one_eq (d := 93) (by decide +kernel), show x.cps.getD (Int.toNat (0 + 1 + 1)) 0 = x.cps.getD 2 0 from rfl, beq_eq_false_iff_ne]
    exact (hcm 2 (by omega) (by omega)).2.2.2.1
  clear hc0 hc1 hce hcm hch hR
  k_steps

  · refine unstop ?_
    rename Fr _ _ _ _ => F1
    rename News _ _ _ _ => N1
    exact trans_scan (j0 := 2) w x _ hTO B X T hTr hG hd hu hl57 hlu F1 N1 ⟨rfl, rfl, rfl, rfl, rfl, rfl, trivial⟩ (by omega) (by omega) hQ
  · refine unstop ?_
    rename Fr _ _ _ _ => F1
    rename News _ _ _ _ => N1
    exact trans_scan (j0 := 1) w x _ hTO B X T hTr hG hd hu hl57 hlu F1 N1 ⟨rfl, rfl, rfl, rfl, rfl, rfl, trivial⟩ (by omega) (by omega) hQ
end
section
open PySem PySem.W PySem.Calls PySem.Spec PyProof.Rows
set_option maxRecDepth 100000
set_option maxHeartbeats 8000000

local macro_rules | `(tactic| walk_at "binaryOp Add str str") => `(tactic| (k_here; (with_reducible show wpAny _ _ (binaryOp Operator.Add (Value.str _ _) (Value.str _ _)) _ _ _); (refine' SB.add ?_ (by with_reducible (rw [sizeLine_eq]; omega))); intro _ _))
local macro_rules | `(tactic| walk_at "inplaceOp Add str str") => `(tactic| (k_here; (with_reducible show wpAny _ _ (inplaceOp Operator.Add (Value.str _ _) (Value.str _ _)) _ _ _); (refine' SB.iadd ?_ (by with_reducible (rw [sizeLine_eq]; omega))); intro _ _))

local macro_rules | `(tactic| walk_at "execs cons") => `(tactic| ((with_reducible show wpAny _ _ (execs (Stmt.If (Expr.BoolOp _ _ _) _ _ _ :: _) _) _ _ _); refine Stop.out ?_))
theorem not_yet {s g : Heap} {l : Nat} (hX : ∀ (b : Addr) (o : Obj), b ≠ 57 → s.get? b = some o → g.get? b = some o) (h57 : 57 < l) (hn : g.get? l = none) : s.get? l = none := by
  cases e : s.get? l with
  | none => rfl
  | some o =>
    have e2 := hX l o (Nat.ne_of_gt h57) e
    rw [hn] at e2; cases e2
theorem c_trans (w : World) (x : Str) (b : Bool) (star : Addr) (t tq : Tok) :
    TabC 8 w 62 [.str x t, .ref star, .str (Str.ofString ".") tq] (fun h => TrOk x b) (fun v h h' => ∃ r tt, v = .ref r ∧ h'.get? r = some (W.listOf #[.str (setS b (stuffS x b)) tt] 1) ∧ h.get? r = none) := by
  delta TabC Prg KK
  k_fill
  intro p loose mean mg mb dp un gd cn cs a ccd cl outer A₀ base h₀ L m s Q E B F X T hk hd hu hpre hT h57 hL57 hG hQ
  refine' enter_tab (args := ⟨_, []⟩) (binds := [(PySem.Str.ofString "pat", .str x t), (PySem.Str.ofString "STAR", .ref star), (PySem.Str.ofString "QUESTION_MARK", .str (Str.ofString ".") tq)]) B F X T rfl rfl hk hT h57 hL57 ?k6 ?k7 ?k8 ?k9 ?kB ?_ ?c5 ?c2 ?c3 ?c4
  case k6 => k_is
  case k7 => k_is
  case k8 => (show dp < _; omega)
  case k9 => exact BindsTo.of_eq rfl
  case c5 => decide
  case kB => exact locs rfl
  case c2 => exact rfl
  case c3 => exact rfl
  case c4 => exact rfl
  clear F X T B hT
  intro g L' h' ps F' N' hTr B' X' T' hX57 hlt57
  (try dsimp only [List.reverse_cons, List.reverse_nil, List.nil_append, List.cons_append])

  k_fold
  have hTO : TrOk x b := hpre
  obtain ⟨⟨hlo, hhi, hc0, hc1, hce, hcm⟩, hch, hR⟩ := hpre
  have hxl : x.length = x.cps.size := rfl
  have f1 : ((⟨#[x.cps.getD (Int.toNat 0) 0]⟩ : Str) == Str.ofString "*") = false := by rw [one_eq (d := 42) (by decide +kernel)]; rw [show x.cps.getD (Int.toNat 0) 0 = 91 from hc0]; rfl
  have f2 : ((⟨#[x.cps.getD (Int.toNat 0) 0]⟩ : Str) == Str.ofString "?") = false := by rw [one_eq (d := 63) (by decide +kernel)]; rw [show x.cps.getD (Int.toNat 0) 0 = 91 from hc0]; rfl
  have f3 : ((⟨#[x.cps.getD (Int.toNat 0) 0]⟩ : Str) == Str.ofString "[") = true := by rw [one_eq (d := 91) (by decide +kernel)]; rw [show x.cps.getD (Int.toNat 0) 0 = 91 from hc0]; rfl
  clear hc0 hc1 hce hcm hch hR
  k_steps

  · refine unstop ?_
    rename Fr _ _ _ _ => F1
    rename News _ _ _ _ => N1
    replace N1 := lose N1
    refine trans_br w x _ hTO B' X' T' hTr hG (by omega) (by omega) (by omega) (by omega) F1 N1 ⟨rfl, rfl, rfl, rfl, rfl, rfl, trivial⟩ ?_
    clear F1 N1 hTr hG
    intro m' h' gn' d' tk' ps' t' t2' ti F9 N9 H9 G9 hm9
    replace F9 := Knows.fr F9 hm9
    k_steps
    rename Fr _ _ _ _ => Fz
    rename News _ _ _ _ => Nz
    show Q _ _
    exact hQ _ _ (fun b' o' hb' e' => Fz.keep _ _ (hX57 b' o' hb' e')) ⟨ps', (Nz _ (.tail _ (.tail _ (.head _)))).1, H9⟩ G9 rfl ⟨_, t', rfl, (Nz _ (.tail _ (.head _))).1, not_yet (fun b' o' hb' e' => hX57 b' o' hb' e') (by omega) (Nz _ (.tail _ (.head _))).2.2⟩
end
end
section
open PySem PySem.W PySem.Calls PySem.Spec PyProof.Rows
set_option maxRecDepth 100000
set_option maxHeartbeats 8000000

theorem setS_len {b : Bool} {y : Str} (h : y.cps.size ≤ 600) : (setS b y).length ≤ 1000 := by
  have h1 : (Str.ofString "[").length = 1 := by decide +kernel
  have h2 : (Str.ofString "]").length = 1 := by decide +kernel
  have h3 : (Str.ofString "^").length = 1 := by decide +kernel
  have h4 : y.length ≤ 600 := h
  have h5 := Txt.slice_le y (some 1) none
  unfold setS
  rw [Str.length_append, Str.length_append, h1, h2]
  split
  · rw [Str.length_append, h3]; omega
  · omega
theorem useT {b : Nat} {w : World} {f : Addr} {vs : List Value} {Pre : Heap → Prop} {P : Value → Heap → Heap → Prop} (C : TabC b w f vs Pre P)
    {p : Program} {loose : List Str} {mean : ExcName → Option Value} {mg mb : Str → Option Value}
    {dp un : Nat} {gd : Option (List Code)} {cn : Str} {cs : Scope} {a : Addr} {ccd : Value} {cl : List (Str × Addr)} {outer : List Env}
    {A₀ : Around} {base h₀ : Heap} {L : Addr} {m : Str → Option Value} {s : Shared} {Q E : Value → Shared → Prop} {news : List (Addr × Obj)} {gU : Obj → List (Addr × Obj)} {ps : Array Value}
    (B : Below A₀ base outer h₀) (F : Fr h₀ L s.heap m) (X : (K39 w.params).In h₀) (T : Top p loose mean mg mb h₀) (N : News h₀ L s.heap news) (U : UpdF 57 (tabObj ps) news gU) (ht : TriplesOk ps.toList) (hG : AllBare s.gens) (hk : cs.kind = .function)
    (hdp : dp + b < recursionLimit) (hun : un + 20 * b < cLine) (hp : Pre s.heap)
    (h : ∀ v h' gn' d' tk' ps', P v s.heap h' → Fr h₀ L h' m → News h₀ L h' (gU (tabObj ps')) → TriplesOk ps'.toList → AllBare gn' → Q v ⟨h', gn', d', tk', s.os⟩) :
    wpAny (model PySem.Challenge.rw_rx0051_01.row.prog w) (ktrTop dp un gd cn cs L a ccd cl outer) (call (.ref f) vs) Q E s := by
  obtain ⟨own, rest, rfl, hgr, u1, u2⟩ := U.split
  have hP := N (57, tabObj ps) (List.mem_append_right _ (.head _))
  refine C p loose mean mg mb dp un gd cn cs a ccd cl outer A₀ base h₀ L m s Q E B F X T hk hdp hun hp ⟨ps, hP.1, ht⟩ hP.2.2 hP.2.1 hG fun v s' hx hT hG' ho hPv => ?_
  obtain ⟨ps', hP', ht'⟩ := hT
  obtain ⟨h', gn', d', tk', o'⟩ := s'
  have ho' : o' = s.os := ho
  subst ho'
  refine h v h' gn' d' tk' ps' hPv ⟨F.ns.extBut hx (Ne.symm hP.2.1), fun b o e => hx b o (fun q => by rw [q, hP.2.2] at e; cases e) (F.keep b o e), F.above⟩ (fun q hq => ?_) ht' hG'
  rw [hgr] at hq
  rcases List.mem_append.mp hq with hq | hq
  · have n := N q (List.mem_append_left _ hq)
    exact ⟨hx _ _ (u1 q hq) n.1, n.2⟩
  · rcases List.mem_cons.mp hq with rfl | hq
    · exact ⟨hP', hP.2⟩
    · have n := N q (List.mem_append_right _ (.tail _ hq))
      exact ⟨hx _ _ (u2 q hq) n.1, n.2⟩

local macro_rules | `(tactic| walk_at "call ref") => `(tactic| refine Stop.out ?_)
theorem c_translate (w : World) (x : Str) (b : Bool) (t : Tok) :
    TabC 16 w 43 [.str x t] (fun h => TrOk x b) (fun v h h' => ∃ tt, v = .str (framedS (setS b (stuffS x b))) tt) := by
  delta TabC Prg KK
  k_fill
  intro p loose mean mg mb dp un gd cn cs a ccd cl outer A₀ base h₀ L m s Q E B F X T hk hd hu hpre hT h57 hL57 hG hQ
  refine' enter_tab (args := ⟨_, []⟩) (binds := [(PySem.Str.ofString "pat", .str x t)]) B F X T rfl rfl hk hT h57 hL57 ?k6 ?k7 ?k8 ?k9 ?kB ?_ ?c5 ?c2 ?c3 ?c4
  case k6 => k_is
  case k7 => k_is
  case k8 => (show dp < _; omega)
  case k9 => exact BindsTo.of_eq rfl
  case c5 => decide
  case kB => exact locs rfl
  case c2 => exact rfl
  case c3 => exact rfl
  case c4 => exact rfl
  clear F X T B hT
  intro g L' h' ps F' N' hTr B' X' T' hX57 hlt57
  (try dsimp only [List.reverse_cons, List.reverse_nil, List.nil_append, List.cons_append])

  k_fold
  k_steps
  refine new_object_N F' N' ?_
  intro S h2 hLS F2 N2
  have hS57 : S ≠ 57 := fun e => by subst e; exact absurd hLS (Nat.not_lt.mpr (Nat.le_of_lt hlt57))
  k_steps
  refine unstop ?_
  rename Fr _ _ _ _ => F3
  rename News _ _ _ _ => N3
  refine useT (c_trans w x b S _ _) B' F3 X' T' N3 (UpdF.tail hS57 (UpdF.head fun _ h => nomatch h)) hTr hG rfl ?kd ?ku hpre ?_
  case kd => ktr_room
  case ku => ktr_units
  intro v h4 gn4 d4 tk4 ps4 hP4 F4 N4 hTr4 hG4
  obtain ⟨r, tt, rfl, hr, hr0⟩ := hP4
  replace N4 := News.more F4 N4 hr (fun es n e => by cases e) (F3.noneBack hr0)
  have hr57 : r ≠ 57 := fun e => by subst e; rw [(N3 _ (.tail _ (.head _))).1] at hr0; cases hr0
  (try dsimp only)
  (try k_fold)
  try clear F3 N3
  k_steps
  refine unstop ?_
  rename Fr _ _ _ _ => F5
  rename News _ _ _ _ => N5
  refine use (c_joined w r S (setS b (stuffS x b)) tt) B' F5 X' T' N5 rfl ?kd ?ku ⟨⟨_, (N5 _ (.head _)).1, rfl, _, rfl⟩, setS_len hpre.rp.hi⟩ ?_
  case kd => ktr_room
  case ku => ktr_units
  intro v h6 tk6 hP6 _ F6 N6
  obtain ⟨t6, rfl⟩ := hP6
  show Q _ _
  exact hQ _ _ (fun b' o' hb' e' => F6.keep _ _ (hX57 b' o' hb' e')) ⟨_, (N6 _ (.tail _ (.tail _ (.head _)))).1, hTr4⟩ hG4 rfl ⟨_, rfl⟩
end
section
open PySem PySem.W PySem.Calls PySem.Spec PyProof.Rows
set_option maxRecDepth 100000
set_option maxHeartbeats 400000
noncomputable def barS (c : Int) : Bool := (c.fdiv 12288).fmod 2 == 1
noncomputable def insS (md : Nat) (c : Int) : Str := insideS c (wordOf md) (rowS md) (wordOf (c.fmod 4096).toNat)
noncomputable def txtS (md : Nat) (c : Int) : Str := (if barS c = true then Str.ofString "[!" else Str.ofString "[") ++ insS md c ++ Str.ofString "]"
noncomputable def outS (md : Nat) (c : Int) : Str := framedS (setS (barS c) (stuffS (txtS md c) (barS c)))
structure LawAt (md : Nat) (c : Int) : Prop where
  tr : TrOk (txtS md c) (barS c)
  fr : Framed (outS md c) (barS c)
  eq : takenS (readAt (innerS (outS md c) (barS c)) 0) (barS c) = takenS (toldAt (insS md c) 0) (barS c)
  le : (insS md c).length ≤ 100
  tl : (toldAt (insS md c) 0).length ≤ 100
  fm : ∀ k : Nat, k < 65536 → (⟨((List.range 10).map (fmCell (md + 65536 * k : Nat))).toArray⟩ : Str) = rowS md
end
section
open PySem PySem.W PySem.Calls PySem.Spec PyProof.Rows
set_option maxRecDepth 100000
set_option maxHeartbeats 400000

local macro_rules | `(tactic| walk_at "call ref") => `(tactic| (k_here; (with_reducible show wpAny _ _ (call (Value.ref 135) _) _ _ _); (try (with_reducible rename Int.fmod _ 4096 = _ => e8; rw [e8])); (refine' use (c_word _ _ _) (by k_asm) (by k_asm) (by k_asm) (by k_asm) (by k_asm) rfl (by ktr_room) (by ktr_units) (by omega) ?_); intro v9 h9 tk9 hP9 st9 F9 N9; obtain ⟨t9, e9⟩ := hP9; subst e9; (try dsimp only); (try k_fold)))
local macro_rules | `(tactic| walk_at "call ref") => `(tactic| (k_here; (with_reducible show wpAny _ _ (call (Value.ref 142) _) _ _ _); (try (with_reducible rename Int.fmod _ 4096 = _ => e8; rw [e8])); (refine' use (c_spelled _ _ _) (by k_asm) (by k_asm) (by k_asm) (by k_asm) (by k_asm) rfl (by ktr_room) (by ktr_units) (by omega) ?_); intro v9 h9 tk9 hP9 st9 F9 N9; obtain ⟨t9, e9⟩ := hP9; subst e9; (try dsimp only); (try k_fold)))
local macro_rules | `(tactic| walk_at "call ref") => `(tactic| (k_here; (with_reducible show wpAny _ _ (call (Value.ref 149) _) _ _ _); (refine' use (c_row _ _ _) (by k_asm) (by k_asm) (by k_asm) (by k_asm) (by k_asm) rfl (by ktr_room) (by ktr_units) (by omega) ?_); intro v9 h9 tk9 hP9 st9 F9 N9; obtain ⟨t9, e9⟩ := hP9; subst e9; (try dsimp only); (try k_fold)))
local macro_rules | `(tactic| walk_at "call ref") => `(tactic| (k_here; (with_reducible show wpAny _ _ (call (Value.ref 187) _) _ _ _); (refine' use (c_members _ _ _ _) (by k_asm) (by k_asm) (by k_asm) (by k_asm) (by k_asm) rfl (by ktr_room) (by ktr_units) (by with_reducible assumption) ?_); intro v9 h9 tk9 hP9 st9 F9 N9; obtain ⟨t9, e9⟩ := hP9; subst e9; (try dsimp only); (try k_fold)))
local macro_rules | `(tactic| walk_at "call ref") => `(tactic| (k_here; (with_reducible show wpAny _ _ (call (Value.ref 156) _) _ _ _); (refine' use (c_inside _ _ _ _ _ _ _ _ _) (by k_asm) (by k_asm) (by k_asm) (by k_asm) (by k_asm) rfl (by ktr_room) (by ktr_units) (by exact ⟨by with_reducible assumption, by with_reducible assumption, by with_reducible assumption⟩) ?_); intro v9 h9 tk9 hP9 st9 F9 N9; obtain ⟨t9, e9⟩ := hP9; subst e9; (try dsimp only); (try k_fold)))

local macro_rules | `(tactic| walk_at "call ref") => `(tactic| (k_here; (first | (with_reducible show wpAny _ _ (call (Value.ref 43) _) _ _ _) | (with_reducible show wpAny _ _ (call (Value.ref 123) _) _ _ _) | (with_reducible show wpAny _ _ (call (Value.ref 168) _) _ _ _) | (with_reducible show wpAny _ _ (call (Value.ref 161) _) _ _ _)); refine Stop.out ?_))
local macro_rules | `(tactic| walk_at "exec For Name Name cons nil") => `(tactic| refine Stop.out ?_)
local macro_rules | `(tactic| walk_at "binaryOp Add str str") => `(tactic| (k_here; (with_reducible show wpAny _ _ (binaryOp Operator.Add (Value.str _ _) (Value.str _ _)) _ _ _); (refine' SB.add ?_ (by with_reducible (rw [sizeLine_eq]; simp only [PySem.Str.length_append]; omega))); intro _ _))
local macro_rules | `(tactic| walk_at "eval ListComp") => `(tactic| refine Stop.out ?_)
noncomputable def apP (c : Nat) : Bool := decide (65 ≤ c) && decide (c ≤ 80)
theorem paired_ints {α : Type} {f : α → Int} : ∀ {l : List α} {ys : List Value}, Paired (fun a y => ∃ t, y = .int (f a) t) l ys → IntsAre ys (l.map f)
  | _, _, .nil => .nil
  | _, _, .cons ⟨t, e⟩ r => by subst e; exact .cons _ _ (paired_ints r)
theorem taken_len (ps : List (Str × Str)) (b : Bool) : (takenS ps b).cps.size ≤ 37 := by
  have h2 := List.length_filter_le (fun c => (Txt.contains (takS ps) ⟨#[c]⟩) != b) (Str.ofString "-0?ABCDEFGHIJKLMNOPQST_abcdlpqrstuwxz").cps.toList
  have h3 : (Str.ofString "-0?ABCDEFGHIJKLMNOPQST_abcdlpqrstuwxz").cps.toList.length = 37 := by rw [← len_list]; exact sig_len
  unfold takenS
  rw [List.size_toArray]
  omega
theorem taken_fit (ps : List (Str × Str)) (b : Bool) : (takenS ps b).cps.size ≤ sizeLine := by
  rw [sizeLine_eq]
  have := taken_len ps b
  omega
noncomputable def nxt (s : Str) : Nat := ((s.cps.toList.filter apP).map fun c => 2 ^ (c - 65)).sum
theorem sum_sub (f : Nat → Nat) (q : Nat → Bool) : ∀ l : List Nat, ((l.filter q).map f).sum ≤ (l.map f).sum
  | [] => Nat.le_refl _
  | a :: l => by
    have ih := sum_sub f q l
    cases h : q a with
    | true => rw [List.filter_cons_of_pos h]; simp only [List.map_cons, List.sum_cons]; omega
    | false => rw [List.filter_cons_of_neg (by simp [h])]; simp only [List.map_cons, List.sum_cons]; omega
theorem nxt_lt (ps : List (Str × Str)) (b : Bool) : nxt (takenS ps b) < 65536 := by
  unfold nxt takenS
  rw [show ∀ l : List Nat, (⟨l.toArray⟩ : Str).cps.toList = l from fun l => by simp]
  rw [List.filter_filter, show (fun a => apP a && ((Txt.contains (takS ps) ⟨#[a]⟩) != b)) = fun a => ((Txt.contains (takS ps) ⟨#[a]⟩) != b) && apP a from funext fun a => Bool.and_comm _ _, ← List.filter_filter]
  refine Nat.lt_of_le_of_lt (sum_sub _ _ _) ?_
  decide +kernel
theorem sum_cast (f : Nat → Nat) : ∀ l : List Nat, (l.map fun c => ((f c : Nat) : Int)).sum = (((l.map f).sum : Nat) : Int)
  | [] => rfl
  | a :: l => by rw [List.map_cons, List.sum_cons, sum_cast f l, List.map_cons, List.sum_cons]; omega
theorem strA : Str.ofString "A" = ⟨#[65]⟩ := by decide +kernel
theorem strP : Str.ofString "P" = ⟨#[80]⟩ := by decide +kernel
theorem ltA {c : Nat} : ((⟨#[c]⟩ : Str).cps.toList < (Str.ofString "A").cps.toList) ↔ c < 65 := by
  rw [strA]
  exact List.cons_lt_cons_iff.trans ⟨fun h => h.elim id fun h => absurd h.2 (List.not_lt_nil _), Or.inl⟩
theorem gtP {c : Nat} : ((Str.ofString "P").cps.toList < (⟨#[c]⟩ : Str).cps.toList) ↔ 80 < c := by
  rw [strP]
  exact List.cons_lt_cons_iff.trans ⟨fun h => h.elim id fun h => absurd h.2 (List.not_lt_nil _), Or.inl⟩
theorem apP_lt {c : Nat} (h : c < 65) : apP c = false := by unfold apP; rw [decide_eq_false (by omega)]; rfl
theorem apP_gt {c : Nat} (h : ¬ c < 65) : (!decide ((Str.ofString "P").cps.toList < (⟨#[c]⟩ : Str).cps.toList)) = apP c := by
  unfold apP
  rw [decide_eq_true (show 65 ≤ c by omega), Bool.true_and, decide_eq_decide.mpr (gtP (c := c))]
  by_cases q : c ≤ 80
  · rw [decide_eq_true q, decide_eq_false (by omega)]; rfl
  · rw [decide_eq_false q, decide_eq_true (by omega)]; rfl
theorem pow_cast {c : Nat} (h : 65 ≤ c) : (2 : Int) ^ ((c : Int) - 65).toNat = ((2 ^ (c - 65) : Nat) : Int) := by
  rw [show ((c : Int) - 65).toNat = c - 65 from by omega]
  exact (Int.natCast_pow 2 (c - 65)).symm
local macro_rules | `(tactic| walk_at "call builtin:sum") => `(tactic| refine Stop.out ?_)
theorem ite_txt {M : Model} {A : Around} {E : Value → Shared → Prop} {s : Shared} {env : Env} {b : Bool} {inst : Decidable (b = true)} {x y : Str} {k1 k2 : Nat} {p1 p2 : Pos} {Q : Value → Shared → Prop} (hx : x.length ≤ 2) (hy : y.length ≤ 2)
    (h : ∀ op t tk, op = (if b = true then x else y) → op.length ≤ 2 → Q (.str op t) { s with toks := tk }) : @ite Prop (b = true) inst (wpAny M A (eval (.Constant (.str x) k1 p1) env) Q E s) (wpAny M A (eval (.Constant (.str y) k2 p2) env) Q E s) := by
  cases b
  · rw [if_neg Bool.false_ne_true]; exact wpAny_Constant_str (h _ _ _ (if_neg Bool.false_ne_true).symm hy)
  · rw [if_pos rfl]; exact wpAny_Constant_str (h _ _ _ (if_pos rfl).symm hx)
local macro_rules | `(tactic| walk_at "ite") => `(tactic| ((with_reducible refine ite_txt ?hx ?hy ?_); (case hx => decide +kernel); (case hy => decide +kernel); intro op8 t8 tk8 hop8 hl8))
theorem ne_same {prog : Program} {w : World} {A : Around} {E : Value → Shared → Prop} {s : Shared} {x : Str} {t u : Tok} {Q : Value → Shared → Prop} (h : Q (.bool false) s) : wpAny (model prog w) A (compareOp .NotEq (.str x t) (.str x u)) Q E s :=
  ne_one (beq_self_eq_true x) h
local macro_rules | `(tactic| walk_at "compareOp NotEq str str") => `(tactic| (k_here; (with_reducible show wpAny _ _ (compareOp CmpOp.NotEq (Value.str _ _) (Value.str _ _)) _ _ _); refine ne_same ?_))
theorem eq_int_f {prog : Program} {w : World} {A : Around} {E : Value → Shared → Prop} {s : Shared} {x y : Int} {t u : Tok} {b : Bool} {Q : Value → Shared → Prop} (hb : (x == y) = b) (h : Q (.bool b) s) : wpAny (model prog w) A (compareOp .Eq (.int x t) (.int y u)) Q E s := by
  subst hb
  exact P.eq_int h
local macro_rules | `(tactic| walk_at "compareOp Eq int int") => `(tactic| (k_here; (with_reducible show wpAny _ _ (compareOp CmpOp.Eq (Value.int _ _) (Value.int _ _)) _ _ _); refine eq_int_f (by with_reducible assumption) ?_))
theorem c_run (w : World) (hlaw : ∀ md : Nat, md < 65536 → ∀ c : Int, LawAt md c) (md0 : Nat) (hmd0 : md0 < 65536) (nl : Addr) (vs : List Value) (ns : List Int) (hvs : IntsAre vs ns) (t : Tok) :
    TabC 24 w 192 [.int md0 t, .ref nl] (fun h => h.IsList nl vs.toArray ∧ @Ne Nat nl 57) (fun v h h' => v = .bool true) := by
  delta TabC Prg KK
  k_fill
  intro p loose mean mg mb dp un gd cn cs a ccd cl outer A₀ base h₀ L m s Q E B F X T hk hd hu hpre hT h57 hL57 hG hQ
  refine' enter_tab (args := ⟨_, []⟩) (binds := [(PySem.Str.ofString "mode", .int md0 t), (PySem.Str.ofString "numbers", .ref nl)]) B F X T rfl rfl hk hT h57 hL57 ?k6 ?k7 ?k8 ?k9 ?kB ?_ ?c5 ?c2 ?c3 ?c4
  case k6 => k_is
  case k7 => k_is
  case k8 => (show dp < _; omega)
  case k9 => exact BindsTo.of_eq rfl
  case c5 => decide
  case kB => exact locs rfl
  case c2 => exact rfl
  case c3 => exact rfl
  case c4 => exact rfl
  clear F X T B hT
  intro g L' h' ps F' N' hTr B' X' T' hX57 hlt57
  (try dsimp only [List.reverse_cons, List.reverse_nil, List.nil_append, List.cons_append])

  k_fold
  obtain ⟨hl0, hl57⟩ := hpre
  have hl : g.IsList nl vs.toArray := hl0.at fun o e => hX57 _ o hl57 e
  k_steps
  refine unstop ?_
  rename Fr _ _ _ _ => F1
  rename News _ _ _ _ => N1
  refine For_ints (h₀ := g) (fun i m₁ news₁ gn₁ => AllBare gn₁ ∧ ∃ (md : Nat) (t1 : Tok) (ps' : Array Value), md < 65536 ∧ news₁ = [(57, tabObj ps')] ∧ TriplesOk ps'.toList ∧ Knows m₁ [(Str.ofString "mode", .int md t1), (Str.ofString "numbers", .ref nl)]) rfl hl hvs F1 N1 ⟨hG, md0, _, _, hmd0, rfl, hTr, ⟨rfl, rfl, trivial⟩⟩ rfl rfl ?_ ?_ ?_ (hE := .never)
  · k_steps
  · clear F1 N1 hTr hG
    rintro i c tc m₁ _ h₁ gn₁ d₁ tk₁ I oI hns hoff hI0 hIL hILt ⟨hG, md, t1, ps1, hmd, rfl, hTr, hm⟩ F₁ N₁
    have F₁ := Knows.fr1 F₁ hm
    have hI57 : @Ne Nat 57 I := hoff (57, _) (.head _)
    obtain ⟨hTO, hFO, hEQ, hLE, hTL, hFM⟩ := hlaw md hmd c
    obtain ⟨r, hr⟩ : ∃ r : Nat, Int.fmod c 4096 = (r : Int) := ⟨(Int.fmod c 4096).toNat, (Int.toNat_of_nonneg (Int.fmod_nonneg_of_pos c (by decide))).symm⟩
    have hr2 : r < 4096 := by have := Int.fmod_lt_of_pos c (show (0 : Int) < 4096 by decide); omega
    obtain ⟨q, hq⟩ : ∃ q : Nat, Int.fmod (Int.fdiv c 24576) 65536 = (q : Int) := ⟨(Int.fmod (Int.fdiv c 24576) 65536).toNat, (Int.toNat_of_nonneg (Int.fmod_nonneg_of_pos _ (by decide))).symm⟩
    have hq2 : q < 65536 := by have := Int.fmod_lt_of_pos (Int.fdiv c 24576) (show (0 : Int) < 65536 by decide); omega
    obtain ⟨bb, hbb⟩ : ∃ bb : Bool, ((c.fdiv 12288).fmod 2 == 1) = bb := ⟨_, rfl⟩
    have hw1 : (wordOf md).length ≤ 16 := by
      have := W_len 4 md (by omega)
      show (W md).toArray.size ≤ 16
      rw [List.size_toArray]; omega
    have hw2 : (wordOf r).length ≤ 16 := by
      have := W_len 4 r (by omega)
      show (W r).toArray.size ≤ 16
      rw [List.size_toArray]; omega
    have hw3 : (rowS md).length ≤ 16 := by
      show (rowL md).toArray.size ≤ 16
      rw [List.size_toArray]; exact (by decide : 10 ≤ 16)
    k_steps
    refine unstop ?_
    rename Fr _ _ _ _ => F2
    rename News _ _ _ _ => N2
    rw [show ((md : Int) + 65536 * (c.fdiv 24576).fmod 65536) = ((md + 65536 * q : Nat) : Int) from by rw [hq]; omega]
    refine use (c_filemode w (md + 65536 * q) _) B' F2 X' T' N2 rfl ?kd ?ku (by omega) ?_
    case kd => ktr_room
    case ku => ktr_units
    intro v h2 tk2 hP2 _ F3 N3
    obtain ⟨t3, rfl⟩ := hP2
    rw [hFM q hq2]
    (try dsimp only)
    (try k_fold)
    clear F2 N2
    have l1 : (Str.ofString "[!").length = 2 := by decide +kernel
    have l2 : (Str.ofString "[").length = 1 := by decide +kernel
    have l3 : (Str.ofString "]").length = 1 := by decide +kernel
    unfold insS at hLE
    rw [show (Int.fmod c 4096).toNat = r from by rw [hr]; rfl] at hLE
    have hrr : (Int.fmod c 4096).toNat = r := by rw [hr]; rfl
    have hx : txtS md c = (if bb = true then Str.ofString "[!" else Str.ofString "[") ++ insideS c (wordOf md) (rowS md) (wordOf r) ++ Str.ofString "]" := by
      unfold txtS insS; rw [show barS c = bb from hbb, hrr]
    unfold outS at hFO hEQ
    rw [show barS c = bb from hbb] at hTO hFO hEQ
    unfold insS at hEQ hTL
    rw [hx] at hTO hFO hEQ
    rw [hrr] at hEQ hTL
    k_steps
    refine unstop ?_
    rename Fr _ _ _ _ => F4
    rename News _ _ _ _ => N4
    rename (_ = ite _ _ _) => hop
    subst hop
    refine useT (c_translate w _ bb _) B' F4 X' T' N4 (UpdF.tail (Ne.symm hI57) (UpdF.head fun _ h => nomatch h)) hTr hG rfl ?kd ?ku hTO ?_
    case kd => ktr_room
    case ku => ktr_units
    intro v h4 gn4 d4 tk4 ps4 hP4 F5 N5 hTr4 hG4
    obtain ⟨tt, rfl⟩ := hP4
    clear F4 N4 hTr hG
    (try dsimp only)
    (try k_fold)
    k_steps
    refine unstop ?_
    rename Fr _ _ _ _ => F6
    rename News _ _ _ _ => N6
    refine use (c_told w _ _) B' F6 X' T' N6 rfl ?kd ?ku hLE ?_
    case kd => ktr_room
    case ku => ktr_units
    intro v h7 tk7 hP7 _ F7 N7
    obtain ⟨la, vs7, k7, tups7, rfl, R7, Fh7⟩ := hP7
    have RW : RowsIn h7 la vs7 _ := rowsIn_of R7 fun p hp => (Fh7.news F6 N7 p (List.mem_append_left _ hp)).1
    clear F6 N6
    (try dsimp only)
    (try k_fold)
    k_steps
    refine unstop ?_
    rename Fr _ _ _ _ => F8
    rename News _ _ _ _ => N8
    refine use (c_takenR (h := h7) bb RW hTL) B' F8 X' T' N8 rfl ?kd ?ku ⟨RW, hTL⟩ ?_
    case kd => ktr_room
    case ku => ktr_units
    intro v h9 tk9 hP9 _ F9 N9
    obtain ⟨t9, rfl⟩ := hP9
    rw [← hEQ]
    clear F8 N8
    (try dsimp only)
    (try k_fold)
    k_steps
    refine unstop ?_
    refine lc_eval (chrP apP) (chrF fun c y => ∃ t, y = .int ((2 ^ (c - 65) : Nat) : Int) t) rfl (by decide) rfl (by decide) rfl ?_
    k_steps
    rename Fr _ _ _ _ => F1
    rename News _ _ _ _ => N1
    refine lc_str _ _ ?g0 ?g1 ?g2 ?g3 ?g4
    case g0 => exact rfl
    case g1 => exact taken_fit _ _
    case g2 =>
      intro C c u h g d k o m₃ E' hc hC hns hm hkk
      have cF' := Fr.keeps F1 hkk
      have cN' := News.grown N1 hkk
      have cE' := InElt.start h
      refine wpAny_tests_one ?_
      k_steps
      · rename (_ < _) => q
        exact (apP_lt (ltA.mp q)).symm
      · exact ⟨_, _, rfl, fun _ _ e => e⟩
      · rename (¬ _ < _) => q
        exact apP_gt fun z => q (ltA.mpr z)
      · exact ⟨_, _, rfl, fun _ _ e => e⟩
    case g3 =>
      intro C c u h g d k o m₃ E' hc hp hC hns hm hkk
      have cF' := Fr.keeps F1 hkk
      have cN' := News.grown N1 hkk
      have cE' := InElt.start h
      have hcc : 65 ≤ c ∧ c ≤ 80 := by simpa [apP] using hp
      clear hp
      k_steps
      · exact congrArg (fun z => Value.int z _) (pow_cast hcc.1)
      · exact ⟨_, _, rfl, fun _ _ e => e⟩
    case g4 =>
      intro D h1 tk1 ys hD hpl hF hkk
      have cF' := Fr.keeps F1 hkk
      have cN' := News.grown N1 hkk
      have hi := paired_ints hF
      clear F1 N1 hF
      k_steps
      refine unstop ?_
      refine sumK rfl cF' cN' hpl.isList hi ?_
      intro h1 tk1 tt1 F1 N1
      rw [sum_cast]
      clear cF' cN'
      k_steps
      rename Fr _ _ _ _ => F2
      rename News _ _ _ _ => N2
      refine ⟨_, _, _, _, _, _, rfl, F2, N2, fun p hp => ?_, hG4, _, _, ps4, nxt_lt _ _, rfl, hTr4, ⟨rfl, rfl, trivial⟩⟩
      rw [List.mem_singleton] at hp
      subst hp
      exact hI57
  · clear F1 N1 hTr hG
    rintro m₁ _ h₁ gn₁ d₁ tk₁ ⟨hG, md, t1, ps1, hmd, rfl, hTr, hm⟩ F₁ N₁
    replace F₁ := Knows.fr F₁ hm
    k_steps
    show Q _ _
    exact hQ _ _ (fun b' o' hb' e' => F₁.keep _ _ (hX57 b' o' hb' e')) ⟨_, (N₁ _ (.head _)).1, hTr⟩ hG rfl rfl
end
section
open PySem PySem.W PySem.Calls PySem.Spec PyProof.Rows
set_option maxRecDepth 100000
set_option maxHeartbeats 400000

local macro_rules | `(tactic| walk_at "pyIter ref") => `(tactic| refine Stop.out ?_)
local macro_rules | `(tactic| walk_at "exec For Name Call cons nil") => `(tactic| refine Stop.out ?_)
local macro_rules | `(tactic| walk_at "subscriptTail Name BinOp ref int") => `(tactic| refine Stop.out ?_)
local macro_rules | `(tactic| walk_at "subscriptTail Name Name ref int") => `(tactic| refine Stop.out ?_)
local macro_rules | `(tactic| walk_at "setItem ref int") => `(tactic| refine Stop.out ?_)
noncomputable def Cells (h h' : Heap) (v : Value) : Prop := ∃ a vs ns k, v = .ref a ∧ h'.get? a = some (W.listOf vs.toArray k) ∧ h.get? a = none ∧ IntsAre vs ns ∧ ns.length = 5
theorem c_cells (w : World) (sp : Addr) (vs : List Value) (ns : List Int) (hvs : IntsAre vs ns) (hns : ns.length ≤ 1000) :
    PureC 4 w 130 [.ref sp] (fun h => h.IsList sp vs.toArray) (fun v h h' => Cells h h' v) := by
  delta PureC Prg KK
  k_fill
  intro p loose mean mg mb dp un gd cn cs a ccd cl outer A₀ base h₀ L m s Q E B F X T hk hd hu hpre hQ
  refine' enter_pure (args := ⟨_, []⟩) (binds := [(PySem.Str.ofString "script", .ref sp)]) B F X T rfl rfl hk ?k6 ?k7 ?k8 ?k9 ?kB ?_ ?c5 ?c2 ?c3 ?c4
  case k6 => k_is
  case k7 => k_is
  case k8 => (show dp < _; omega)
  case k9 => exact BindsTo.of_eq rfl
  case c5 => decide
  case kB => exact locs rfl
  case c2 => exact rfl
  case c3 => exact rfl
  case c4 => exact rfl
  clear F X T B
  intro L' h' F' N' B' X' T'
  (try dsimp only [List.reverse_cons, List.reverse_nil, List.nil_append, List.cons_append])

  k_fold
  k_steps
  refine unstop ?_
  rename Fr _ _ _ _ => F1
  refine For_invVF F1 rfl rfl ?_ (by intro _; rfl) .never
  k_steps
  refine unstop ?_
  rename IsRange _ _ _ _ _ _ _ _ => R1
  rename Fr _ _ _ _ => F1
  rename News _ _ _ _ => N1
  have hvl := hvs.length
  refine for_up (n := ns.length) (fun i m₁ news₁ => ∃ (D : Addr) (vs' : List Value) (ns' : List Int) (c : Nat), news₁ = [(D, W.listOf vs'.toArray c)] ∧ IntsAre vs' ns' ∧ ns'.length = 5 ∧
    Knows m₁ [(Str.ofString "script", .ref sp), (Str.ofString "cells", .ref D)]) rfl R1 ?_ ?_ F1 N1 ⟨_, _, _, _, rfl, .cons _ _ (.cons _ _ (.cons _ _ (.cons _ _ (.cons _ _ .nil)))), rfl, ⟨rfl, rfl, trivial⟩⟩ ?_ ?_
  · exact small_one (by omega) (by omega) (by omega) (by omega)
  · rw [rangeSize_nat]; omega
  · clear F1 N1 R1
    rintro i t m₁ _ h₁ tk₁ own hi ha hoff ⟨D, vs', ns', c, rfl, hs', hl5, hm'⟩ F₁ N₁
    replace F₁ := Knows.fr1 F₁ hm'
    have hsp : h₁.IsList sp vs.toArray := hpre.at fun o e => F₁.keep _ o e
    simp only [List.cons_append, List.nil_append] at N₁
    have hoff' : ∀ q ∈ own, q.1 ≠ D := fun q hq => hoff q hq D (ha ▸ .head _)
    have hi5 : (0 : Int) ≤ Int.fmod i 5 ∧ Int.fmod i 5 < 5 := ⟨Int.fmod_nonneg_of_pos _ (by decide), Int.fmod_lt_of_pos _ (by decide)⟩
    k_steps
    refine unstop ?_
    rename News _ _ _ _ => N2
    refine il_subL (PySem.IsL.isList (n := c) (N2 _ (.head _)).1) hs' (by omega) (by omega) (by omega) (fun t5 => ?_)
    k_steps
    refine unstop ?_
    rename Fr _ _ _ _ => F3
    refine il_subL (hpre.at fun o e => F3.keep _ o e) hvs (by omega) (by omega) (by omega) (fun t6 => ?_)
    k_steps
    refine unstop ?_
    rename Fr _ _ _ _ => F4
    rename News _ _ _ _ => N4
    refine il_set F4 N4 (UpdF.head hoff') hs' (by omega) (by omega) (by omega) fun h8 F9 N9 => ?_
    (try dsimp only)
    clear F4 N4
    k_steps
    rename Fr _ _ _ _ => F5
    rename News _ _ _ _ => N5
    refine unstop ?_
    exact inv_end (rest := []) F5 N5 ha ⟨_, _, _, _, rfl, ints_set hs' _, by rw [List.length_set]; exact hl5, ⟨rfl, rfl, trivial⟩⟩
  · clear F1 N1 R1
    rintro m₁ _ h₁ tk₁ ⟨D, vs', ns', c, rfl, hs', hl5, hm'⟩ F₁ N₁
    replace F₁ := Knows.fr F₁ hm'
    k_steps
    show Q _ _
    exact hQ _ _ _ F₁.keep ⟨D, vs', ns', c, rfl, (N₁ _ (.head _)).1, (N₁ _ (.head _)).2.2, hs', hl5⟩
end
end
section
open PySem PySem.W PySem.Calls PySem.Spec PyProof.Rows
set_option maxRecDepth 100000
set_option maxHeartbeats 400000
/-- the signs of a bracket's inside, told from the left: one sign, or a range -/
noncomputable def sgs : List Nat → List (Nat × Option Nat)
  | a :: b :: c :: r => if b = 45 then (a, some c) :: sgs r else (a, none) :: sgs (b :: c :: r)
  | [a, b] => [(a, none), (b, none)]
  | [a] => [(a, none)]
  | [] => []
theorem sgs_range {a c : Nat} {r : List Nat} : sgs (a :: 45 :: c :: r) = (a, some c) :: sgs r := by rw [sgs, if_pos rfl]
theorem sgs_one {a b : Nat} {r : List Nat} (h : b ≠ 45 ∨ r = []) : sgs (a :: b :: r) = (a, none) :: sgs (b :: r) := by
  cases r with
  | nil => rfl
  | cons c r => rw [sgs, if_neg (by rcases h with h | h; exact h; cases h)]
noncomputable def sgPair (p : Nat × Option Nat) : Str × Str := (⟨#[p.1]⟩, ⟨#[p.2.getD p.1]⟩)
/-- no fall -/
noncomputable def sgUp (p : Nat × Option Nat) : Bool := match p.2 with | none => true | some c => !decide (c < p.1)
theorem sgs_down : ∀ (s : List Nat), (sgs s).filter sgUp = [] → s = [] ∨ ∃ a c r, s = a :: 45 :: c :: r ∧ c < a ∧ (sgs r).filter sgUp = []
  | [], _ => .inl rfl
  | [a], h => by simp [sgs, sgUp] at h
  | [a, b], h => by simp [sgs, sgUp] at h
  | a :: b :: c :: r, h => by
    by_cases e : b = 45
    · subst e
      rw [sgs_range] at h
      refine .inr ⟨a, c, r, rfl, ?_⟩
      rw [List.filter_cons] at h
      split at h
      · cases h
      · rename_i q
        exact ⟨by simpa [sgUp] using q, h⟩
    · rw [sgs_one (.inl e), List.filter_cons_of_pos rfl] at h
      cases h
theorem sgs_mem : ∀ (s : List Nat) (P : Nat → Prop), (∀ a ∈ s, P a) → ∀ p ∈ sgs s, P p.1 ∧ P (p.2.getD p.1)
  | [], P, h, p, hp => by cases hp
  | [a], P, h, p, hp => by
    simp only [sgs, List.mem_singleton] at hp; subst hp
    exact ⟨h _ (.head _), h _ (.head _)⟩
  | [a, b], P, h, p, hp => by
    simp only [sgs, List.mem_cons, List.not_mem_nil, or_false] at hp
    rcases hp with rfl | rfl
    · exact ⟨h _ (.head _), h _ (.head _)⟩
    · exact ⟨h _ (.tail _ (.head _)), h _ (.tail _ (.head _))⟩
  | a :: b :: c :: r, P, h, p, hp => by
    rw [sgs] at hp
    split at hp
    · rcases List.mem_cons.mp hp with rfl | hp
      · exact ⟨h _ (.head _), h _ (.tail _ (.tail _ (.head _)))⟩
      · exact sgs_mem r P (fun a ha => h a (.tail _ (.tail _ (.tail _ ha)))) p hp
    · rcases List.mem_cons.mp hp with rfl | hp
      · exact ⟨h _ (.head _), h _ (.head _)⟩
      · exact sgs_mem (b :: c :: r) P (fun a ha => h a (.tail _ ha)) p hp
theorem sgs_length : ∀ (s : List Nat), (sgs s).length ≤ s.length
  | [] => Nat.le_refl _
  | [a] => Nat.le_refl _
  | [a, b] => Nat.le_refl _
  | a :: b :: c :: r => by
    rw [sgs]
    split
    · have := sgs_length r; simp only [List.length_cons]; omega
    · have := sgs_length (b :: c :: r); simp only [List.length_cons] at this ⊢; omega
/-- the signs cut into chunks at the hyphens of the ranges -/
noncomputable def chk (p : List Nat) : List (Nat × Option Nat) → List (List Nat)
  | [] => [p]
  | (a, none) :: T => chk (p ++ [a]) T
  | (a, some c) :: T => (p ++ [a]) :: chk [c] T
theorem chk_pre (q : List Nat) : ∀ (T : List (Nat × Option Nat)) (p : List Nat), ∃ h t, chk p T = (p ++ h) :: t ∧ chk (q ++ p) T = (q ++ p ++ h) :: t
  | [], p => ⟨[], [], by simp [chk], by simp [chk]⟩
  | (a, none) :: T, p => by
    obtain ⟨h, t, e1, e2⟩ := chk_pre q T (p ++ [a])
    refine ⟨a :: h, t, ?_, ?_⟩
    · rw [chk, e1]; simp
    · rw [chk, List.append_assoc, e2]; simp
  | (a, some c) :: T, p => ⟨[a], chk [c] T, by simp [chk], by simp [chk]⟩
noncomputable def mkS (l : List Nat) : Str := ⟨l.toArray⟩
theorem mkS_app (a b : List Nat) : mkS (a ++ b) = mkS a ++ mkS b := by
  apply Str.ext'
  show (a ++ b).toArray = a.toArray ++ b.toArray
  simp
theorem mkS_cps (x : Str) : mkS x.cps.toList = x := by apply Str.ext'; simp [mkS]
theorem mkS_getD (l : List Nat) (i : Nat) : (mkS l).cps.getD i 0 = l.getD i 0 := by simp [mkS]
theorem mkS_size (l : List Nat) : (mkS l).cps.size = l.length := by simp [mkS]
theorem mkS_length (l : List Nat) : (mkS l).length = l.length := by simp [mkS, PySem.Str.length]
theorem lastC_mk (p : List Nat) (a : Nat) : lastC (mkS (p ++ [a])) = a := by
  unfold lastC
  rw [mkS_getD, mkS_size]
  simp
theorem firstC_mk (a : Nat) (p : List Nat) : firstC (mkS (a :: p)) = a := by
  unfold firstC
  rw [mkS_getD]
  simp
theorem cut_mk (l : List Nat) (a b : Nat) : cut (mkS l) a b = mkS ((l.drop a).take (b - a)) := by simp [cut, mkS]
theorem meld_mk (p h : List Nat) (a c : Nat) : meld (mkS (p ++ [a])) (mkS (c :: h)) = mkS (p ++ h) := by
  unfold meld
  rw [slice_cut, slice_cut, cut_mk, cut_mk, mkS_length, mkS_length, mkS_app]
  congr 1
  · congr 1
    have e1 : clipI (p ++ [a]).length 0 none = 0 := rfl
    have e2 : clipI (p ++ [a]).length (p ++ [a]).length (some (-1)) = p.length := by
      show (max 0 (min (if (-1 : Int) < 0 then -1 + ((p ++ [a]).length : Int) else -1) ((p ++ [a]).length : Int))).toNat = _
      rw [if_pos (by decide), List.length_append]
      simp only [List.length_singleton]
      omega
    rw [e1, e2]
    simp
  · congr 1
    have e1 : clipI (c :: h).length 0 (some 1) = 1 := by
      show (max 0 (min (if (1 : Int) < 0 then 1 + ((c :: h).length : Int) else 1) ((c :: h).length : Int))).toNat = _
      rw [if_neg (by decide), List.length_cons]
      omega
    have e2 : clipI (c :: h).length (c :: h).length none = (c :: h).length := rfl
    rw [e1, e2]
    simp
theorem fallC_chk : ∀ (T : List (Nat × Option Nat)) (p : List Nat), fallC ((chk p T).map mkS) = (chk p (T.filter sgUp)).map mkS
  | [], p => rfl
  | (a, none) :: T, p => by
    rw [chk, List.filter_cons_of_pos rfl, chk]
    exact fallC_chk T (p ++ [a])
  | (a, some c) :: T, p => by
    rw [chk, List.map_cons]
    obtain ⟨h, t, e1, e2⟩ := chk_pre p (T.filter sgUp) []
    obtain ⟨h', t', e3, e4⟩ := chk_pre [c] (T.filter sgUp) []
    rw [e1] at e3
    simp only [List.nil_append, List.append_nil] at e1 e2 e3 e4
    obtain ⟨rfl, rfl⟩ : h = h' ∧ t = t' := by cases e3; exact ⟨rfl, rfl⟩
    have hf : fallC ((chk [c] T).map mkS) = mkS (c :: h) :: t.map mkS := by
      rw [fallC_chk T [c], e4]; rfl
    by_cases hc : c < a
    · rw [fallC_yes hf (by rw [firstC_mk, lastC_mk]; exact hc), meld_mk]
      rw [List.filter_cons_of_neg (by simp [sgUp, hc]), e2]
      rfl
    · rw [fallC_no hf (by rw [firstC_mk, lastC_mk]; exact hc)]
      rw [List.filter_cons_of_pos (by simp [sgUp, hc]), chk, e4]
      rfl
/-- the chunks' sizes -/
theorem chk_mem : ∀ (T : List (Nat × Option Nat)) (p : List Nat) (P : Nat → Prop), (∀ a ∈ p, P a) → (∀ q ∈ T, P q.1 ∧ P (q.2.getD q.1)) → ∀ c ∈ chk p T, ∀ a ∈ c, P a
  | [], p, P, h1, h2, c, hc, a, ha => by
    simp only [chk, List.mem_singleton] at hc; subst hc; exact h1 a ha
  | (b, none) :: T, p, P, h1, h2, c, hc, a, ha => by
    rw [chk] at hc
    refine chk_mem T (p ++ [b]) P (fun a ha => ?_) (fun q hq => h2 q (.tail _ hq)) c hc a ha
    rcases List.mem_append.mp ha with ha | ha
    · exact h1 a ha
    · rw [List.mem_singleton] at ha; subst ha; exact (h2 _ (.head _)).1
  | (b, some d) :: T, p, P, h1, h2, c, hc, a, ha => by
    rw [chk] at hc
    rcases List.mem_cons.mp hc with rfl | hc
    · rcases List.mem_append.mp ha with ha | ha
      · exact h1 a ha
      · rw [List.mem_singleton] at ha; subst ha; exact (h2 _ (.head _)).1
    · refine chk_mem T [d] P (fun a ha => ?_) (fun q hq => h2 q (.tail _ hq)) c hc a ha
      rw [List.mem_singleton] at ha; subst ha; exact (h2 _ (.head _)).2
theorem chk_size : ∀ (T : List (Nat × Option Nat)) (p : List Nat), ((chk p T).map List.length).sum ≤ p.length + 2 * T.length
  | [], p => by simp [chk]
  | (b, none) :: T, p => by
    have := chk_size T (p ++ [b])
    rw [chk]; simp only [List.length_append, List.length_cons, List.length_nil] at this ⊢; omega
  | (b, some d) :: T, p => by
    have := chk_size T [d]
    rw [chk]; simp only [List.map_cons, List.sum_cons, List.length_append, List.length_cons, List.length_nil] at this ⊢; omega
theorem chk_len : ∀ (T : List (Nat × Option Nat)) (p : List Nat), (chk p T).length ≤ 1 + T.length
  | [], p => by simp [chk]
  | (b, none) :: T, p => by
    have := chk_len T (p ++ [b])
    rw [chk]; simp only [List.length_cons]; omega
  | (b, some d) :: T, p => by
    have := chk_len T [d]
    rw [chk]; simp only [List.length_cons]; omega
/-- with a sign in front, no chunk is empty -/
theorem chk_pos : ∀ (T : List (Nat × Option Nat)) (p : List Nat), p ≠ [] ∨ T ≠ [] → ∀ c ∈ chk p T, c ≠ []
  | [], p, h, c, hc => by
    simp only [chk, List.mem_singleton] at hc; subst hc; rcases h with h | h; exact h; exact absurd rfl h
  | (b, none) :: T, p, h, c, hc => by
    rw [chk] at hc
    exact chk_pos T (p ++ [b]) (.inl (by simp)) c hc
  | (b, some d) :: T, p, h, c, hc => by
    rw [chk] at hc
    rcases List.mem_cons.mp hc with rfl | hc
    · simp
    · exact chk_pos T [d] (.inl (by simp)) c hc
/-- a later chunk opens with a range's end -/
theorem chk_drop : ∀ (T : List (Nat × Option Nat)) (p : List Nat) (k : Nat), 1 ≤ k → k < (chk p T).length → ∃ c T', (chk p T).drop k = chk [c] T' ∧ T'.length ≤ T.length ∧ (∀ q ∈ T', q ∈ T)
  | [], p, k, h1, h2 => by simp [chk] at h2; omega
  | (b, none) :: T, p, k, h1, h2 => by
    rw [chk] at h2 ⊢
    obtain ⟨c, T', e, l, m⟩ := chk_drop T (p ++ [b]) k h1 h2
    exact ⟨c, T', e, by simp; omega, fun q hq => .tail _ (m q hq)⟩
  | (b, some d) :: T, p, k, h1, h2 => by
    obtain ⟨j, rfl⟩ : ∃ j, k = j + 1 := ⟨k - 1, by omega⟩
    rw [chk] at h2 ⊢
    rw [List.drop_succ_cons]
    rcases Nat.eq_zero_or_pos j with rfl | hj
    · exact ⟨d, T, rfl, by simp, fun q hq => .tail _ hq⟩
    · obtain ⟨c, T', e, l, m⟩ := chk_drop T [d] j hj (by simpa using h2)
      exact ⟨c, T', e, by simp; omega, fun q hq => .tail _ (m q hq)⟩
end
section
open PySem PySem.W PySem.Calls PySem.Spec PyProof.Rows PySem.Builtin PySem.Builtin.Str
set_option maxRecDepth 100000
set_option maxHeartbeats 400000
theorem chunksAt_noneE {x : Str} {j i k : Nat} (h : nextH x k j = none) : chunksAt x j i k = [cut x i j] := by
  rw [chunksAt]
  split
  · rfl
  · rename_i p e; rw [h] at e; cases e
theorem chunksAt_someE {x : Str} {j i k p : Nat} (h : nextH x k j = some p) : chunksAt x j i k = cut x i p :: chunksAt x j (p + 1) (p + 3) := by
  rw [chunksAt]
  split
  · rename_i e; rw [h] at e; cases e
  · rename_i q e; rw [h] at e; cases e; rfl
theorem nextH_skip {x : Str} {j k : Nat} (h : k < j → x.cps.getD k 0 ≠ 45) : nextH x k j = nextH x (k + 1) j := by
  unfold nextH
  by_cases hk : k < j
  · rw [show j - k = (j - (k + 1)) + 1 from by omega, List.range'_succ, List.find?_cons_of_neg]
    have := h hk
    simpa using this
  · rw [show j - k = 0 from by omega, show j - (k + 1) = 0 from by omega]; rfl
theorem chunksAt_skip {x : Str} {j i k : Nat} (h : k < j → x.cps.getD k 0 ≠ 45) : chunksAt x j i k = chunksAt x j i (k + 1) := by
  have e := nextH_skip h
  cases q : nextH x k j with
  | none => rw [chunksAt_noneE q, chunksAt_noneE (by rw [← e]; exact q)]
  | some p => rw [chunksAt_someE q, chunksAt_someE (e ▸ q : nextH x (k + 1) j = some p)]
theorem chunksAt_head (x : Str) (j i k : Nat) (hi : i < j) (hik : i < k) (hj : j ≤ x.cps.size) : ∃ c r, chunksAt x j i k = c :: r ∧ 0 < c.cps.size := by
  cases q : nextH x k j with
  | none => exact ⟨_, _, chunksAt_noneE q, by rw [cut_size hj]; omega⟩
  | some p =>
    have := nextH_spec q
    exact ⟨_, _, chunksAt_someE q, by rw [cut_size (by omega)]; omega⟩
theorem fixC_cons {c d : Str} {L : List Str} (h : 0 < d.cps.size) : fixC (c :: d :: L) = c :: fixC (d :: L) := by
  rcases List.eq_nil_or_concat L with rfl | ⟨M, z, rfl⟩
  · have e1 : fixC [d] = [d] := fixC_keep (done := []) h
    have e2 : fixC [c, d] = [c, d] := fixC_keep (done := [c]) h
    rw [e1, e2]
  · rw [List.concat_eq_append]
    by_cases hz : z.cps.size = 0
    · have e1 : fixC (d :: (M ++ [z])) = _ := fixC_mend (done := d :: M) hz (by simp)
      have e2 : fixC (c :: d :: (M ++ [z])) = _ := fixC_mend (done := c :: d :: M) hz (by simp)
      rw [e1, e2]
      simp
    · have e1 : fixC (d :: (M ++ [z])) = _ := fixC_keep (done := d :: M) (by omega)
      have e2 : fixC (c :: d :: (M ++ [z])) = _ := fixC_keep (done := c :: d :: M) (by omega)
      rw [e1, e2]
      rfl
noncomputable def sl (l : List Nat) (a b : Nat) : List Nat := (l.drop a).take (b - a)
theorem sl_head {l : List Nat} {a b : Nat} (h : a < b) (hb : b ≤ l.length) : sl l a b = l.getD a 0 :: sl l (a + 1) b := by
  unfold sl
  rw [List.drop_eq_getElem_cons (by omega), show b - a = (b - (a + 1)) + 1 from by omega, List.take_succ_cons]
  simp [show a < l.length by omega]
theorem sl_last {l : List Nat} {i a : Nat} (h : i ≤ a) (ha : a < l.length) : sl l i (a + 1) = sl l i a ++ [l.getD a 0] := by
  unfold sl
  rw [show a + 1 - i = (a - i) + 1 from by omega, List.take_add_one]
  congr 1
  rw [List.getElem?_drop, show i + (a - i) = a from by omega, List.getElem?_eq_getElem ha]
  simp [ha]
theorem sl_nil {l : List Nat} {a : Nat} : sl l a a = [] := by simp [sl]
theorem cut_sl (x : Str) (a b : Nat) : cut x a b = mkS (sl x.cps.toList a b) := rfl
theorem getD_list (x : Str) (i : Nat) : x.cps.toList.getD i 0 = x.cps.getD i 0 := by
  simp [Array.getD_eq_getD_getElem?]
theorem fix_end (x : Str) (j : Nat) (hj : j ≤ x.cps.size) (i a : Nat) (hij : i < j) (e : j ≤ a) (haj : a ≤ j) : fixC (chunksAt x j i (a + 1)) = (chk (sl x.cps.toList i a) (sgs (sl x.cps.toList a j))).map mkS := by
  obtain rfl : a = j := Nat.le_antisymm haj e
  rw [chunksAt_noneE (nextH_none fun v q1 q2 => absurd q2 (Nat.not_lt_of_lt q1)), sl_nil]
  rw [show [cut x i a] = [] ++ [cut x i a] from rfl, fixC_keep (by rw [cut_size hj]; exact Nat.sub_pos_of_lt hij)]
  rfl
theorem fix_chk (x : Str) (j : Nat) (hj : j ≤ x.cps.size) (n : Nat) : ∀ (i a : Nat), j ≤ a + n → i ≤ a → a ≤ j → i < j → fixC (chunksAt x j i (a + 1)) = (chk (sl x.cps.toList i a) (sgs (sl x.cps.toList a j))).map mkS := by
  induction n with
  | zero => exact fun i a hn hia haj hij => fix_end x j hj i a hij hn haj
  | succ n IH =>
    intro i a hn hia haj hij
    have hjl : j ≤ x.cps.toList.length := by simpa using hj
    rcases Nat.lt_or_ge a j with hlt | hge
    · by_cases h45 : a + 1 < j ∧ x.cps.getD (a + 1) 0 = 45
      · obtain ⟨h1, h2⟩ := h45
        have hN : nextH x (a + 1) j = some (a + 1) := nextH_some (Nat.le_refl _) h1 h2 fun v q1 q2 => by omega
        rw [chunksAt_someE hN]
        rcases Nat.lt_or_ge (a + 2) j with h3 | h3
        · rw [sl_head hlt hjl, sl_head h1 hjl, sl_head h3 hjl, getD_list, getD_list, getD_list, h2, sgs_range, chk]
          obtain ⟨d, r, e, hd⟩ := chunksAt_head x j (a + 2) (a + 4) h3 (by omega) hj
          have ih := IH (a + 2) (a + 3) (by omega) (by omega) (by omega) h3
          rw [show a + 3 + 1 = a + 4 from rfl, e, sl_last (Nat.le_refl _) (by omega), sl_nil, getD_list] at ih
          rw [show a + 1 + 1 = a + 2 from rfl, show a + 1 + 3 = a + 4 from rfl, e]
          rw [fixC_cons hd, ih, List.map_cons, ← getD_list x a, ← sl_last hia (by omega)]
          rfl
        · have e2 : chunksAt x j (a + 1 + 1) (a + 1 + 3) = [cut x (a + 1 + 1) j] := chunksAt_noneE (nextH_none fun v q1 q2 => by omega)
          rw [e2, show [cut x i (a + 1), cut x (a + 1 + 1) j] = [cut x i (a + 1)] ++ [cut x (a + 1 + 1) j] from rfl]
          rw [fixC_mend (by rw [cut_size hj]; omega) (by simp)]
          have e3 : sl x.cps.toList a j = [x.cps.getD a 0, 45] := by
            rw [sl_head hlt hjl, sl_head h1 hjl, getD_list, getD_list, h2, show a + 1 + 1 = j from by omega, sl_nil]
          rw [e3]
          show [cut x i (a + 1) ++ Str.ofString "-"] = [mkS (sl x.cps.toList i a ++ [x.cps.getD a 0] ++ [45])]
          rw [mkS_app, ← getD_list, ← sl_last hia (by omega)]
          rfl
      · rw [chunksAt_skip (fun q e => h45 ⟨q, e⟩)]
        rw [IH i (a + 1) (by omega) (by omega) (by omega) hij, sl_last hia (by omega), sl_head hlt hjl]
        have e : sgs (x.cps.toList.getD a 0 :: sl x.cps.toList (a + 1) j) = (x.cps.toList.getD a 0, none) :: sgs (sl x.cps.toList (a + 1) j) := by
          rcases Nat.lt_or_ge (a + 1) j with h1 | h1
          · rw [sl_head h1 hjl]
            exact sgs_one (.inl (by rw [getD_list]; exact fun e => h45 ⟨h1, e⟩))
          · rw [show a + 1 = j from by omega, sl_nil]; rfl
        rw [e, chk]
    · exact fix_end x j hj i a hij hge haj
/-- a hyphen is written with a stroke -/
noncomputable def escL : List Nat → List Nat
  | [] => []
  | k :: r => if k = 45 then 92 :: 45 :: escL r else k :: escL r
theorem escL_app : ∀ a b : List Nat, escL (a ++ b) = escL a ++ escL b
  | [], _ => rfl
  | k :: r, b => by
    rw [List.cons_append, escL, escL, escL_app r b]
    split <;> rfl
theorem escL_free : ∀ l : List Nat, 45 ∉ l → escL l = l
  | [], _ => rfl
  | k :: r, h => by
    have h1 : ¬ k = 45 := fun e => h (e ▸ List.mem_cons_self ..)
    rw [escL, if_neg h1, escL_free r fun m => h (List.mem_cons_of_mem _ m)]
theorem escL_join : ∀ parts : List Str, (∀ p ∈ parts, 45 ∉ p.cps.toList) → escL (Str.join ⟨#[45]⟩ parts).cps.toList = (Str.join ⟨#[92, 45]⟩ parts).cps.toList
  | [], _ => rfl
  | [p], h => escL_free _ (h p (List.mem_singleton.mpr rfl))
  | p :: q :: r, h => by
    have ih := escL_join (q :: r) fun a ha => h a (List.mem_cons_of_mem _ ha)
    show escL (p ++ ⟨#[45]⟩ ++ Str.join ⟨#[45]⟩ (q :: r)).cps.toList = (p ++ ⟨#[92, 45]⟩ ++ Str.join ⟨#[92, 45]⟩ (q :: r)).cps.toList
    simp only [Str.cps_append, Array.toList_append]
    rw [escL_app, escL_app, ih, escL_free _ (h p (List.mem_cons_self ..))]
    rfl
theorem esc_mk {l : List Nat} (h : 92 ∉ l) : escC (mkS l) = mkS (escL l) := by
  unfold escC
  have h2 : Txt.replace (mkS l) (Str.ofString "\\") (Str.ofString "\\\\") = mkS l := by
    have e : Str.ofString "\\" = ⟨#[92]⟩ := by decide +kernel
    rw [e]
    refine rep_id fun i hi e => h ?_
    rw [mkS_size] at hi
    rw [mkS_getD] at e
    rw [← e]
    simp [hi]
  rw [h2]
  have e1 : Str.ofString "-" = ⟨#[45]⟩ := by decide +kernel
  have e3 : Str.ofString "\\-" = ⟨#[92, 45]⟩ := by decide +kernel
  rw [e1, e3]
  apply Str.ext'
  apply Array.ext'
  rw [StrLaws.replace_one, ← escL_join _ (StrLaws.split_free _ 45), StrLaws.join_split]
  simp [mkS]
noncomputable def encSg (p : Nat × Option Nat) : List Nat := match p.2 with | none => escL [p.1] | some c => escL [p.1] ++ 45 :: escL [c]
noncomputable def enc (T : List (Nat × Option Nat)) : List Nat := T.flatMap encSg
theorem join_cons {sep x y : Str} {r : List Str} : Str.join sep (x :: y :: r) = x ++ sep ++ Str.join sep (y :: r) := rfl
theorem join_enc : ∀ (T : List (Nat × Option Nat)) (p : List Nat), Str.join (mkS [45]) ((chk p T).map fun l => mkS (escL l)) = mkS (escL p ++ enc T)
  | [], p => by simp [chk, enc, Str.join]
  | (a, none) :: T, p => by
    rw [chk, join_enc T (p ++ [a]), escL_app, enc, enc, List.flatMap_cons, List.append_assoc]
    rfl
  | (a, some c) :: T, p => by
    rw [chk, List.map_cons]
    obtain ⟨h, t, e, _⟩ := chk_pre [] T [c]
    have ih := join_enc T [c]
    rw [e, List.map_cons] at ih ⊢
    rw [join_cons, ih, ← mkS_app, ← mkS_app, escL_app, enc, enc, List.flatMap_cons]
    simp [encSg]
end
section
open PySem PySem.W PySem.Calls PySem.Spec PyProof.Rows PySem.Builtin PySem.Builtin.Str
set_option maxRecDepth 100000
set_option maxHeartbeats 400000
theorem hy45 : Str.ofString "-" = mkS [45] := by decide +kernel
theorem bs92 : Str.ofString "\\" = mkS [92] := by decide +kernel
theorem mk_one_beq (a b : Nat) : (mkS [a] == mkS [b]) = decide (a = b) := by
  by_cases e : a = b
  · subst e; simp
  · rw [decide_eq_false e]
    apply Bool.eq_false_iff.mpr
    intro hh
    have e1 := eq_of_beq hh
    injection e1 with e2
    simp at e2
    exact e e2
theorem mk_nil_beq (b : Nat) : (mkS [] == mkS [b]) = false := by
  apply Bool.eq_false_iff.mpr
  intro hh
  have e1 := eq_of_beq hh
  injection e1 with e2
  simp at e2
theorem drop_lt {l r : List Nat} {k a : Nat} (h : l.drop k = a :: r) : k < l.length := by
  rcases Nat.lt_or_ge k l.length with q | q
  · exact q
  · rw [List.drop_of_length_le q] at h; cases h
theorem drop_more {l p r : List Nat} {k : Nat} (h : l.drop k = p ++ r) : l.drop (k + p.length) = r := by
  rw [← List.drop_drop, h]; simp
theorem drop_one {l r : List Nat} {k a : Nat} (h : l.drop k = a :: r) : l.drop (k + 1) = r := drop_more (p := [a]) h
theorem cut1 {x : Str} {k : Nat} : cut x k (k + 1) = mkS ((x.cps.toList.drop k).take 1) := by
  rw [show cut x k (k + 1) = mkS ((x.cps.toList.drop k).take (k + 1 - k)) from rfl, show k + 1 - k = 1 from by omega]
theorem ch_mk {x : Str} {k a : Nat} {r : List Nat} (h : x.cps.toList.drop k = a :: r) : ch x k = mkS [a] := by
  have hk := drop_lt h
  have e : x.cps.getD k 0 = a := by
    rw [← getD_list]
    rw [List.drop_eq_getElem_cons hk] at h
    injection h with h1 h2
    rw [List.getD_eq_getElem?_getD, List.getElem?_eq_getElem hk, h1]
    rfl
  show (⟨#[x.cps.getD k 0]⟩ : Str) = ⟨#[a]⟩
  rw [e]
theorem told_sgs (x : Str) : ∀ (s : List Nat) (k : Nat), x.cps.toList.drop k = s → toldAt x k = (sgs s).map sgPair
  | [], k, h => by
    rw [toldAt_end]; rfl
    intro q
    have : (x.cps.toList.drop k).length = 0 := by rw [h]; rfl
    rw [List.length_drop] at this
    have e : x.length = x.cps.toList.length := by simp [PySem.Str.length]
    omega
  | [a], k, h => by
    have e : x.length = x.cps.toList.length := by simp [PySem.Str.length]
    have h1 := drop_one h
    rw [toldAt_one (by rw [e]; exact drop_lt h) (.inl (by rw [cut1, h1, hy45]; exact mk_nil_beq 45)), told_sgs x [] (k + 1) h1, ch_mk h]
    rfl
  | [a, b], k, h => by
    have e : x.length = x.cps.toList.length := by simp [PySem.Str.length]
    have h1 := drop_one h
    have h2 : ¬ k + 2 < x.length := by
      have : (x.cps.toList.drop k).length = 2 := by rw [h]; rfl
      rw [List.length_drop] at this
      omega
    rw [toldAt_one (by rw [e]; exact drop_lt h) (.inr h2), told_sgs x [b] (k + 1) h1, ch_mk h]
    rfl
  | a :: b :: c :: r, k, h => by
    have e : x.length = x.cps.toList.length := by simp [PySem.Str.length]
    have h1 := drop_one h
    have h2 := drop_one h1
    have h3 := drop_one h2
    by_cases hb : b = 45
    · subst hb
      rw [toldAt_range (by rw [e]; exact drop_lt h) (by rw [cut1, h1, hy45]; exact (mk_one_beq 45 45).trans rfl) (by rw [e]; exact drop_lt h2), told_sgs x r (k + 3) h3, ch_mk h, ch_mk h2, sgs_range]
      rfl
    · rw [toldAt_one (by rw [e]; exact drop_lt h) (.inl (by rw [cut1, h1, hy45]; exact (mk_one_beq b 45).trans (decide_eq_false hb))), told_sgs x (b :: c :: r) (k + 1) h1, ch_mk h, sgs_one (.inl hb)]
      rfl
theorem sign_esc {x : Str} {k a : Nat} {r : List Nat} (h : x.cps.toList.drop k = escL [a] ++ r) (ha : a ≠ 92) : (signS x k).1 = mkS [a] ∧ x.cps.toList.drop (signS x k).2 = r ∧ k < x.cps.toList.length := by
  by_cases e : a = 45
  · subst e
    have h' : x.cps.toList.drop k = 92 :: 45 :: r := h
    have h1 := drop_one h'
    have h2 := drop_one h1
    have c1 : (cut x k (k + 1) == Str.ofString "\\") = true := by rw [cut1, h', bs92]; exact (mk_one_beq 92 92).trans rfl
    unfold signS
    rw [if_pos c1]
    exact ⟨by show cut x (k + 1) (k + 1 + 1) = _; rw [cut1, h1]; rfl, h2, drop_lt h'⟩
  · have h' : x.cps.toList.drop k = a :: r := by rw [h, escL, if_neg e]; rfl
    have c1 : ¬ (cut x k (k + 1) == Str.ofString "\\") = true := by rw [cut1, h', bs92]; show ¬ (mkS [a] == mkS [92]) = true; rw [mk_one_beq, decide_eq_false ha]; exact Bool.false_ne_true
    unfold signS
    rw [if_neg c1]
    exact ⟨by show cut x k (k + 1) = _; rw [cut1, h']; rfl, drop_one h', drop_lt h'⟩
theorem enc_head : ∀ T : List (Nat × Option Nat), (∀ q ∈ T, q.1 ≠ 45 ∨ q.1 = 45) → enc T = [] ∨ ∃ b r, enc T = b :: r ∧ b ≠ 45
  | [], _ => .inl rfl
  | (a, o) :: T, _ => by
    refine .inr ?_
    have e : ∃ b r, escL [a] = b :: r ∧ b ≠ 45 := by
      by_cases h : a = 45
      · exact ⟨92, [45], by rw [h]; rfl, by decide⟩
      · exact ⟨a, [], by rw [escL, if_neg h]; rfl, h⟩
    obtain ⟨b, r, e, hb⟩ := e
    rw [enc, List.flatMap_cons]
    cases o with
    | none => exact ⟨b, r ++ List.flatMap encSg T, by show escL [a] ++ _ = _; rw [e]; rfl, hb⟩
    | some c => exact ⟨b, r ++ (45 :: escL [c]) ++ List.flatMap encSg T, by show (escL [a] ++ 45 :: escL [c]) ++ _ = _; rw [e]; simp, hb⟩
theorem read_enc (x : Str) : ∀ (T : List (Nat × Option Nat)) (k : Nat), x.cps.toList.drop k = enc T → (∀ q ∈ T, q.1 ≠ 92 ∧ q.2.getD q.1 ≠ 92) → readAt x k = T.map sgPair
  | [], k, h, _ => by
    rw [readAt_end]; rfl
    intro q
    have : (x.cps.toList.drop k).length = 0 := by rw [h]; rfl
    rw [List.length_drop] at this
    have e : x.length = x.cps.toList.length := by simp [PySem.Str.length]
    omega
  | (a, none) :: T, k, h, hT => by
    have e : x.length = x.cps.toList.length := by simp [PySem.Str.length]
    have h' : x.cps.toList.drop k = escL [a] ++ enc T := h
    obtain ⟨s1, s2, s3⟩ := sign_esc h' (hT _ (.head _)).1
    rw [readAt_one (by rw [e]; exact s3) (.inl ?_), read_enc x T _ s2 (fun q hq => hT q (.tail _ hq)), s1]
    · rfl
    · rw [cut1, s2, hy45]
      rcases enc_head T (fun q _ => (Decidable.em (q.1 = 45)).symm) with q | ⟨b, r, q, hb⟩
      · rw [q]; exact mk_nil_beq 45
      · rw [q]; exact (mk_one_beq b 45).trans (decide_eq_false hb)
  | (a, some c) :: T, k, h, hT => by
    have e : x.length = x.cps.toList.length := by simp [PySem.Str.length]
    have h' : x.cps.toList.drop k = escL [a] ++ (45 :: (escL [c] ++ enc T)) := by rw [h, enc, List.flatMap_cons]; simp [encSg]; rfl
    obtain ⟨s1, s2, s3⟩ := sign_esc h' (hT _ (.head _)).1
    have s4 := drop_one s2
    obtain ⟨u1, u2, u3⟩ := sign_esc s4 (hT _ (.head _)).2
    rw [readAt_range (by rw [e]; exact s3) (by rw [cut1, s2, hy45]; exact (mk_one_beq 45 45).trans rfl) (by rw [e]; exact u3), read_enc x T _ u2 (fun q hq => hT q (.tail _ hq)), s1, u1]
    rfl
/-- the signs of the law -/
noncomputable def sigL : List Nat := [45, 48, 63, 65, 66, 67, 68, 69, 70, 71, 72, 73, 74, 75, 76, 77, 78, 79, 80, 81, 83, 84, 95, 97, 98, 99, 100, 108, 112, 113, 114, 115, 116, 117, 119, 120, 122]
theorem rng_falls : ∀ lo ∈ sigL, ∀ hi ∈ sigL, hi < lo → rng (mkS [lo]) (mkS [hi]) = Str.empty := by decide +kernel
theorem takS_acc : ∀ (ps : List (Str × Str)) (acc : Str), ps.foldl (fun acc p => acc ++ rng p.1 p.2) acc = acc ++ mkS (ps.flatMap fun p => (rng p.1 p.2).cps.toList)
  | [], acc => by
    show acc = acc ++ mkS []
    apply Str.ext'
    show acc.cps = acc.cps ++ #[]
    simp
  | p :: r, acc => by
    rw [List.foldl_cons, takS_acc r, List.flatMap_cons, mkS_app, mkS_cps]
    apply Str.ext'
    show (acc.cps ++ (rng p.1 p.2).cps) ++ _ = acc.cps ++ ((rng p.1 p.2).cps ++ _)
    rw [Array.append_assoc]
theorem takS_up (T : List (Nat × Option Nat)) (h : ∀ q ∈ T, q.1 ∈ sigL ∧ q.2.getD q.1 ∈ sigL) : takS ((T.filter sgUp).map sgPair) = takS (T.map sgPair) := by
  unfold takS
  rw [takS_acc, takS_acc]
  congr 2
  induction T with
  | nil => rfl
  | cons q T ih =>
    have ih := ih fun q hq => h q (.tail _ hq)
    by_cases hq : sgUp q = true
    · rw [List.filter_cons_of_pos hq, List.map_cons, List.flatMap_cons, List.map_cons, List.flatMap_cons, ih]
    · rw [List.filter_cons_of_neg hq, List.map_cons, List.flatMap_cons, ih]
      obtain ⟨a, o⟩ := q
      cases o with
      | none => exact absurd rfl hq
      | some c =>
        have hc : c < a := by simpa [sgUp] using hq
        have := h _ (.head _)
        have e : rng (mkS [a]) (mkS [c]) = Str.empty := rng_falls a this.1 c this.2 hc
        show _ = (rng (mkS [a]) (mkS [c])).cps.toList ++ _
        rw [e]
        rfl
theorem takenS_up (T : List (Nat × Option Nat)) (b : Bool) (h : ∀ q ∈ T, q.1 ∈ sigL ∧ q.2.getD q.1 ∈ sigL) : takenS ((T.filter sgUp).map sgPair) b = takenS (T.map sgPair) b := by
  unfold takenS
  rw [takS_up T h]
end
section
open PySem PySem.W PySem.Calls PySem.Spec PyProof.Rows PySem.Builtin PySem.Builtin.Str
set_option maxRecDepth 100000
set_option maxHeartbeats 400000
noncomputable def preL (b : Bool) : List Nat := if b = true then [33] else []
noncomputable def cirL (b : Bool) : List Nat := if b = true then [94] else []
structure Inside (l : List Nat) : Prop where
  lo : 10 ≤ l.length
  hi : l.length ≤ 17
  mem : ∀ a ∈ l, a ∈ sigL
  up : (sgs l).filter sgUp ≠ []
theorem sig_ok : ∀ a ∈ sigL, plainCp a ∧ a ≠ 33 ∧ a ≠ 91 ∧ a ≠ 92 ∧ a ≠ 93 ∧ a ≠ 94 := by unfold plainCp; decide
noncomputable def upL (l : List Nat) : List (Nat × Option Nat) := (sgs l).filter sgUp
theorem Inside.up_mem {l : List Nat} (h : Inside l) : ∀ q ∈ upL l, q.1 ∈ sigL ∧ q.2.getD q.1 ∈ sigL := fun q hq => sgs_mem l _ h.mem q ((List.mem_filter.mp hq).1)
theorem Inside.up_len {l : List Nat} (h : Inside l) : (upL l).length ≤ 17 := by
  have h1 := sgs_length l
  have h2 := List.length_filter_le sgUp (sgs l)
  have h3 := h.hi
  unfold upL; omega
noncomputable def txtL (b : Bool) (l : List Nat) : List Nat := [91] ++ preL b ++ l ++ [93]
theorem pre_len (b : Bool) : (preL b).length ≤ 1 ∧ kst b = 1 + (preL b).length + 1 := by cases b <;> decide
theorem txt_len (b : Bool) (l : List Nat) : (txtL b l).length = 2 + (preL b).length + l.length := by simp [txtL]; omega
theorem txt_cut (b : Bool) (l : List Nat) : cut (mkS (txtL b l)) 1 ((mkS (txtL b l)).cps.size - 1) = mkS (preL b ++ l) := by
  rw [cut_mk, mkS_size, txt_len]
  congr 1
  rw [show txtL b l = 91 :: (preL b ++ l ++ [93]) from by simp [txtL]]
  rw [List.drop_succ_cons, List.drop_zero, List.take_append_of_le_length (by simp; omega), List.take_of_length_le (by simp; omega)]
theorem txt_chunks (b : Bool) {l : List Nat} (h : Inside l) : fixC (chunksAt (mkS (txtL b l)) ((mkS (txtL b l)).cps.size - 1) 1 (kst b)) = (chk (preL b) (sgs l)).map mkS := by
  have h1 := h.lo
  obtain ⟨hp, hk⟩ := pre_len b
  rw [hk, mkS_size, txt_len]
  rw [fix_chk (mkS (txtL b l)) (2 + (preL b).length + l.length - 1) (by rw [mkS_size, txt_len]; omega) _ 1 (1 + (preL b).length) (Nat.le_add_left _ _) (by omega) (by omega) (by omega)]
  have e : (mkS (txtL b l)).cps.toList = txtL b l := by simp [mkS]
  rw [e]
  have e1 : sl (txtL b l) 1 (1 + (preL b).length) = preL b := by
    unfold sl txtL
    rw [show [91] ++ preL b ++ l ++ [93] = 91 :: (preL b ++ (l ++ [93])) from by simp, List.drop_succ_cons, List.drop_zero, show 1 + (preL b).length - 1 = (preL b).length from by omega, List.take_left]
  have e2 : sl (txtL b l) (1 + (preL b).length) (2 + (preL b).length + l.length - 1) = l := by
    unfold sl txtL
    rw [show [91] ++ preL b ++ l ++ [93] = (91 :: preL b) ++ (l ++ [93]) from by simp]
    rw [show 1 + (preL b).length = (91 :: preL b).length from by simp; omega, List.drop_left]
    rw [show 2 + (preL b).length + l.length - 1 - (91 :: preL b).length = l.length from by simp; omega, List.take_left]
  rw [e1, e2]
theorem pre_sig (b : Bool) : ∀ a ∈ preL b, plainCp a ∧ a ≠ 45 ∧ a ≠ 91 ∧ a ≠ 92 ∧ a ≠ 93 ∧ a ≠ 94 := by unfold plainCp preL; cases b <;> decide
/-- the pieces hold signs and bars alone -/
theorem chk_ok (b : Bool) (T : List (Nat × Option Nat)) (hT : ∀ q ∈ T, q.1 ∈ sigL ∧ q.2.getD q.1 ∈ sigL) : ∀ c ∈ chk (preL b) T, 92 ∉ c := by
  intro c hc hm
  have := chk_mem T (preL b) (fun a => a ≠ 92) (fun a ha => (pre_sig b a ha).2.2.2.1) (fun q hq => ⟨(sig_ok _ (hT q hq).1).2.2.2.1, (sig_ok _ (hT q hq).2).2.2.2.1⟩) c hc 92 hm
  exact this rfl
theorem escL_len : ∀ l : List Nat, (escL l).length ≤ 2 * l.length
  | [] => Nat.le_refl _
  | k :: r => by
    have := escL_len r
    rw [escL]
    split <;> (simp only [List.length_cons]; omega)
theorem mem_sum {c : List Nat} : ∀ {L : List (List Nat)}, c ∈ L → c.length ≤ (L.map List.length).sum
  | x :: r, h => by
    rw [List.map_cons, List.sum_cons]
    rcases List.mem_cons.mp h with rfl | h
    · omega
    · have := mem_sum h; omega
theorem chk_one {T : List (Nat × Option Nat)} {p c : List Nat} (h : c ∈ chk p T) : c.length ≤ p.length + 2 * T.length := Nat.le_trans (mem_sum h) (chk_size T p)
theorem esc_sum : ∀ L : List (List Nat), (∀ c ∈ L, 92 ∉ c) → (((L.map mkS).map escC).map (·.length)).sum ≤ 2 * (L.map List.length).sum
  | [], _ => Nat.le_refl _
  | c :: r, h => by
    have ih := esc_sum r fun a ha => h a (.tail _ ha)
    simp only [List.map_cons, List.sum_cons]
    rw [esc_mk (h c (.head _)), mkS_length]
    have := escL_len c
    omega
theorem chOk_of (b : Bool) {l : List Nat} (h : Inside l) : ChOk ((chk (preL b) (sgs l)).map mkS) := by
  have hT := sgs_mem l _ h.mem
  have hl := sgs_length l
  have hh := h.hi
  have hp := (pre_len b).1
  have hne : sgs l ≠ [] := fun e => h.up (by rw [e]; rfl)
  have fl : ∀ k, k < (chk (preL b) (sgs l)).length → ∃ p T', (chk (preL b) (sgs l)).drop k = chk p T' ∧ p.length ≤ 1 ∧ T'.length ≤ 20 ∧ (1 ≤ k → ∃ c, p = [c]) := by
    intro k hk
    rcases Nat.eq_zero_or_pos k with rfl | hk0
    · exact ⟨preL b, sgs l, rfl, hp, by omega, fun q => by omega⟩
    · obtain ⟨c, T', e, l', m⟩ := chk_drop (sgs l) (preL b) k hk0 hk
      exact ⟨[c], T', e, Nat.le_refl _, by omega, fun _ => ⟨c, rfl⟩⟩
  refine ⟨?_, ?_, ?_, ?_, ?_, ?_, ?_⟩
  · have := chk_len (sgs l) (preL b)
    rw [List.length_map]; omega
  · intro c hc
    obtain ⟨d, hd, rfl⟩ := List.mem_map.mp hc
    have := chk_pos (sgs l) (preL b) (.inr hne) d hd
    rw [mkS_size]
    exact List.length_pos_iff.mpr this
  · intro k h1 h2
    rw [List.length_map] at h2
    obtain ⟨p, T', e, _, _, hc⟩ := fl k h2
    obtain ⟨c, rfl⟩ := hc h1
    rw [← List.map_drop, e, fallC_chk]
    obtain ⟨q, t, _, e2⟩ := chk_pre [c] (T'.filter sgUp) []
    rw [List.append_nil] at e2
    rw [e2]
    exact ⟨_, _, rfl, by rw [mkS_size]; simp⟩
  · intro k c hc
    rw [← List.map_drop] at hc
    rcases Nat.lt_or_ge k (chk (preL b) (sgs l)).length with hk | hk
    · obtain ⟨p, T', e, q1, q2, _⟩ := fl k hk
      rw [e, fallC_chk] at hc
      obtain ⟨d, hd, rfl⟩ := List.mem_map.mp hc
      have := chk_one hd
      have := List.length_filter_le sgUp T'
      rw [mkS_size]; omega
    · rw [List.drop_of_length_le hk] at hc
      cases hc
  · intro c hc
    obtain ⟨d, hd, rfl⟩ := List.mem_map.mp hc
    have := chk_one hd
    rw [mkS_size]; omega
  · intro c hc i hi
    rw [fallC_chk] at hc
    obtain ⟨d, hd, rfl⟩ := List.mem_map.mp hc
    have := chk_ok b _ h.up_mem d hd
    rw [mkS_getD]
    rw [mkS_size] at hi
    intro e
    rw [← e] at this
    exact this (by simp [hi])
  · rw [fallC_chk]
    have h1 := esc_sum _ (chk_ok b _ h.up_mem)
    have h2 := chk_size (upL l) (preL b)
    have h3 := h.up_len
    unfold upL at h1 h2 h3
    omega
theorem sgs_free : ∀ l : List Nat, 45 ∉ l → (sgs l).filter sgUp = sgs l ∧ enc (sgs l) = l
  | [], _ => ⟨rfl, rfl⟩
  | [a], h => by
    have h1 : ¬ a = 45 := fun e => h (e ▸ List.mem_cons_self ..)
    exact ⟨rfl, by simp [sgs, enc, encSg, escL, h1]⟩
  | a :: b :: r, h => by
    have h1 : ¬ a = 45 := fun e => h (e ▸ List.mem_cons_self ..)
    have h2 : ¬ b = 45 := fun e => h (e ▸ List.mem_cons_of_mem _ (List.mem_cons_self ..))
    obtain ⟨i1, i2⟩ := sgs_free (b :: r) fun m => h (List.mem_cons_of_mem _ m)
    rw [sgs_one (.inl h2)]
    refine ⟨by rw [List.filter_cons_of_pos rfl, i1], ?_⟩
    rw [enc, List.flatMap_cons]
    show escL [a] ++ enc (sgs (b :: r)) = _
    rw [i2, escL, if_neg h1]
    rfl
theorem txt_stuff (b : Bool) {l : List Nat} (h : Inside l) : stuffS (mkS (txtL b l)) b = mkS (preL b ++ enc (upL l)) := by
  unfold stuffS
  rw [txt_cut, txt_chunks b h, fallC_chk]
  split
  · rename_i q
    have hno : 45 ∉ preL b ++ l := by
      intro hm
      have e : (occurrences (mkS (preL b ++ l)) ⟨#[45]⟩ 0 (mkS (preL b ++ l)).length 1).isEmpty = true := q
      rcases StrLaws.occ_head_from (mkS (preL b ++ l)) ⟨#[45]⟩ 0 1 (Nat.le_refl _) with ⟨_, h0⟩ | ⟨k, r, h0, _⟩
      · obtain ⟨i, hi, hget⟩ := List.mem_iff_getElem.mp hm
        refine h0 i (Nat.zero_le _) ((StrLaws.subAt_one _ _ _).mpr ?_)
        rw [← hget]
        show (preL b ++ l).toArray.toList[i]? = _
        simp [hi]
      · rw [h0] at e; cases e
    obtain ⟨i1, i2⟩ := sgs_free l fun m => hno (List.mem_append_right _ m)
    unfold upL
    rw [i1, i2]
  · rw [txt_join, hy45, List.map_map]
    rw [show ((chk (preL b) (List.filter sgUp (sgs l))).map (escC ∘ mkS)) = (chk (preL b) (List.filter sgUp (sgs l))).map fun p => mkS (escL p) from List.map_congr_left fun c hc => esc_mk (chk_ok b _ h.up_mem c hc)]
    rw [join_enc, escL_free _ fun m => (pre_sig b 45 m).2.1 rfl]
    rfl
end
section
open PySem PySem.W PySem.Calls PySem.Spec PyProof.Rows PySem.Builtin PySem.Builtin.Str
set_option maxRecDepth 100000
set_option maxHeartbeats 400000
theorem escL_mem : ∀ (l : List Nat), ∀ a ∈ escL l, a ∈ l ∨ a = 92
  | [], a, h => by cases h
  | k :: r, a, h => by
    rw [escL] at h
    split at h
    · rename_i e
      rcases List.mem_cons.mp h with q | h
      · exact .inr q
      · rcases List.mem_cons.mp h with q | h
        · exact .inl (q ▸ e ▸ List.mem_cons_self ..)
        · exact (escL_mem r a h).imp (List.mem_cons_of_mem _) id
    · rcases List.mem_cons.mp h with q | h
      · exact .inl (q ▸ List.mem_cons_self ..)
      · exact (escL_mem r a h).imp (List.mem_cons_of_mem _) id
theorem enc_mem (T : List (Nat × Option Nat)) (P : Nat → Prop) (h45 : P 45) (h92 : P 92) (h : ∀ q ∈ T, P q.1 ∧ P (q.2.getD q.1)) : ∀ a ∈ enc T, P a := by
  intro a ha
  obtain ⟨q, hq, ha⟩ := List.mem_flatMap.mp ha
  have hh := h q hq
  obtain ⟨c, o⟩ := q
  have one : ∀ c, P c → ∀ a ∈ escL [c], P a := fun c hc a ha => by
    rcases escL_mem _ a ha with m | rfl
    · rw [List.mem_singleton] at m; subst m; exact hc
    · exact h92
  cases o with
  | none => exact one c hh.1 a ha
  | some d =>
    rcases List.mem_append.mp (show a ∈ escL [c] ++ 45 :: escL [d] from ha) with m | m
    · exact one c hh.1 a m
    · rcases List.mem_cons.mp m with rfl | m
      · exact h45
      · exact one d hh.2 a m
theorem enc_len (T : List (Nat × Option Nat)) : (enc T).length ≤ 5 * T.length := by
  induction T with
  | nil => exact Nat.le_refl _
  | cons q T ih =>
    rw [enc, List.flatMap_cons, List.length_append, List.length_cons]
    have : (encSg q).length ≤ 5 := by
      obtain ⟨c, o⟩ := q
      cases o with
      | none => have := escL_len [c]; show (escL [c]).length ≤ 5; simp at this; omega
      | some d =>
        have h1 := escL_len [c]
        have h2 := escL_len [d]
        show (escL [c] ++ 45 :: escL [d]).length ≤ 5
        simp only [List.length_append, List.length_cons, List.length_nil] at h1 h2 ⊢
        omega
    unfold enc at ih
    omega
theorem enc_first {T : List (Nat × Option Nat)} (h : T ≠ []) (hT : ∀ q ∈ T, q.1 ∈ sigL ∧ q.2.getD q.1 ∈ sigL) : ∃ a r, enc T = a :: r ∧ a ≠ 33 ∧ a ≠ 91 ∧ a ≠ 94 := by
  obtain ⟨⟨c, o⟩, T, rfl⟩ : ∃ q r, T = q :: r := by cases T with | nil => exact absurd rfl h | cons q r => exact ⟨q, r, rfl⟩
  have hc := sig_ok c (hT _ (.head _)).1
  have e : ∃ b r, escL [c] = b :: r ∧ b ≠ 33 ∧ b ≠ 91 ∧ b ≠ 94 := by
    by_cases h : c = 45
    · exact ⟨92, [45], by rw [h]; rfl, by decide, by decide, by decide⟩
    · exact ⟨c, [], by rw [escL, if_neg h]; rfl, hc.2.1, hc.2.2.1, hc.2.2.2.2.2⟩
  obtain ⟨b, r, e, hb⟩ := e
  rw [enc, List.flatMap_cons]
  cases o with
  | none => exact ⟨b, r ++ List.flatMap encSg T, by show escL [c] ++ _ = _; rw [e]; rfl, hb⟩
  | some d => exact ⟨b, r ++ (45 :: escL [d]) ++ List.flatMap encSg T, by show (escL [c] ++ 45 :: escL [d]) ++ _ = _; rw [e]; simp, hb⟩
theorem mem_getD {l : List Nat} {i : Nat} (h : i < l.length) : l.getD i 0 ∈ l := by simp [h]
theorem rPre_of (b : Bool) {l : List Nat} (h : Inside l) : RPre (mkS (preL b ++ enc (upL l))) b := by
  obtain ⟨a, r, e, h33, h91, h94⟩ := enc_first h.up h.up_mem
  have h1 := (pre_len b).1
  have h2 := enc_len (upL l)
  have h3 := h.up_len
  have e' : enc (upL l) = a :: r := e
  refine ⟨?_, ?_, ?_, ?_, ?_, ?_⟩
  · rw [mkS_size, e', List.length_append, List.length_cons]; omega
  · rw [mkS_size, List.length_append]; omega
  · intro i hi
    rw [mkS_size] at hi
    rw [mkS_getD]
    rcases List.mem_append.mp (mem_getD hi) with m | m
    · exact (pre_sig b _ m).1
    · exact enc_mem (upL l) plainCp (by unfold plainCp; decide) (by unfold plainCp; decide) (fun q hq => ⟨(sig_ok _ (h.up_mem q hq).1).1, (sig_ok _ (h.up_mem q hq).2).1⟩) _ m
  · rw [mkS_getD, e']
    cases b
    · exact ⟨fun q => absurd q h33, fun q => by cases q⟩
    · exact ⟨fun _ => rfl, fun _ => rfl⟩
  · rintro rfl
    rw [mkS_size, e']; simp [preL]
  · rw [mkS_getD, e']
    cases b
    · exact ⟨h91, h94⟩
    · exact ⟨(by decide : (33 : Nat) ≠ 91), (by decide : (33 : Nat) ≠ 94)⟩
theorem tPre_of (b : Bool) {l : List Nat} (h : Inside l) : TPre (mkS (txtL b l)) b := by
  have h1 := (pre_len b).1
  have hlo := h.lo
  have hhi := h.hi
  obtain ⟨a, r, e⟩ : ∃ a r, l = a :: r := by
    cases l with
    | nil => simp at hlo
    | cons a r => exact ⟨a, r, rfl⟩
  have ha := sig_ok a (h.mem a (by rw [e]; exact .head _))
  refine ⟨?_, ?_, ?_, ?_, ?_, ?_⟩
  · rw [mkS_size, txt_len]; omega
  · rw [mkS_size, txt_len]; omega
  · rw [mkS_getD]; rfl
  · rw [mkS_getD, e]
    cases b
    · exact ⟨fun q => absurd q ha.2.1, fun q => by cases q⟩
    · exact ⟨fun _ => rfl, fun _ => rfl⟩
  · rw [mkS_size, mkS_getD, txtL, List.length_append, show ([93] : List Nat).length = 1 from rfl, Nat.add_sub_cancel]
    simp
  · intro i hi1 hi2
    rw [mkS_size, txt_len] at hi2
    rw [mkS_getD]
    have : (txtL b l).getD i 0 ∈ preL b ++ l := by
      rw [show txtL b l = 91 :: (preL b ++ l ++ [93]) from by simp [txtL]]
      obtain ⟨j, rfl⟩ : ∃ j, i = j + 1 := ⟨i - 1, by omega⟩
      rw [List.getD_cons_succ]
      have hj : j < (preL b ++ l).length := by rw [List.length_append]; omega
      rw [List.getD_eq_getElem?_getD, List.getElem?_append_left hj, ← List.getD_eq_getElem?_getD]
      exact mem_getD hj
    rcases List.mem_append.mp this with m | m
    · have := pre_sig b _ m; exact ⟨this.1, this.2.2⟩
    · have := sig_ok _ (h.mem _ m); exact ⟨this.1, this.2.2⟩
theorem trOk_of (b : Bool) {l : List Nat} (h : Inside l) : TrOk (mkS (txtL b l)) b :=
  ⟨tPre_of b h, fun _ => by rw [txt_chunks b h]; exact chOk_of b h, by rw [txt_stuff b h]; exact rPre_of b h⟩
noncomputable def outL (b : Bool) (l : List Nat) : List Nat := [40, 63, 115, 58] ++ ([91] ++ (cirL b ++ enc (upL l)) ++ [93]) ++ [41, 92, 90]
theorem slice_mid {p m s : List Nat} {lo hi : Option Int} (h1 : clipI (p ++ m ++ s).length 0 lo = p.length) (h2 : clipI (p ++ m ++ s).length (p ++ m ++ s).length hi = p.length + m.length) : Txt.slice (mkS (p ++ m ++ s)) lo hi = mkS m := by
  rw [slice_cut, mkS_length, cut_mk, h1, h2, List.append_assoc, List.drop_left, show p.length + m.length - p.length = m.length from by omega, List.take_left]
theorem clip_pos {n d k : Nat} (h : k ≤ n) : clipI n d (some (k : Int)) = k := by
  show (max 0 (min (if (k : Int) < 0 then (k : Int) + n else k) (n : Int))).toNat = k
  rw [if_neg (by omega)]; omega
theorem clip_neg {n d k : Nat} (h : k ≤ n) (hk : 0 < k) : clipI n d (some (-(k : Int))) = n - k := by
  show (max 0 (min (if -(k : Int) < 0 then -(k : Int) + n else -(k : Int)) (n : Int))).toNat = n - k
  rw [if_pos (by omega)]; omega
theorem slice1 {a : Nat} {r : List Nat} : Txt.slice (mkS (a :: r)) (some 1) none = mkS r := by
  have := slice_mid (p := [a]) (m := r) (s := []) (lo := some 1) (hi := none) (by rw [show (1 : Int) = ((1 : Nat) : Int) from rfl, clip_pos (by simp)]; rfl) (by show ([a] ++ r ++ []).length = _; simp; omega)
  simpa using this
theorem out_eq (b : Bool) {l : List Nat} (h : Inside l) : framedS (setS b (stuffS (mkS (txtL b l)) b)) = mkS (outL b l) := by
  rw [txt_stuff b h]
  have e1 : Str.ofString "[" = mkS [91] := by decide +kernel
  have e2 : Str.ofString "]" = mkS [93] := by decide +kernel
  have e3 : Str.ofString "^" = mkS [94] := by decide +kernel
  have e4 : Str.ofString "(?s:" = mkS [40, 63, 115, 58] := by decide +kernel
  have e5 : Str.ofString ")\\Z" = mkS [41, 92, 90] := by decide +kernel
  unfold framedS setS outL
  rw [e1, e2, e3, e4, e5]
  simp only [mkS_app]
  congr 3
  congr 1
  cases b
  · rw [if_neg Bool.false_ne_true, show preL false = [] from rfl, show cirL false = [] from rfl]
  · rw [if_pos rfl, show preL true = [33] from rfl, show cirL true = [94] from rfl]
    rw [← mkS_app, show [33] ++ enc (upL l) = 33 :: enc (upL l) from rfl, slice1]
end
section
open PySem PySem.W PySem.Calls PySem.Spec PyProof.Rows PySem.Builtin PySem.Builtin.Str
set_option maxRecDepth 100000
set_option maxHeartbeats 400000
noncomputable def pieceL (b : Bool) (l : List Nat) : List Nat := [91] ++ (cirL b ++ enc (upL l)) ++ [93]
theorem piece_eq (b : Bool) (l : List Nat) : Txt.slice (mkS (outL b l)) (some 4) (some (-3)) = mkS (pieceL b l) := by
  have e : outL b l = [40, 63, 115, 58] ++ pieceL b l ++ [41, 92, 90] := rfl
  rw [e]
  refine slice_mid ?_ ?_
  · exact clip_pos (k := 4) (by simp only [List.length_append, List.length_cons, List.length_nil]; omega)
  · refine (clip_neg (k := 3) (by simp only [List.length_append, List.length_cons, List.length_nil]; omega) (by decide)).trans ?_
    simp only [List.length_append, List.length_cons, List.length_nil]; omega
theorem inner_eq (b : Bool) (l : List Nat) : innerS (mkS (outL b l)) b = mkS (enc (upL l)) := by
  cases b
  · rw [inner_f, piece_eq]
    have e : pieceL false l = [91] ++ enc (upL l) ++ [93] := rfl
    rw [e]
    refine slice_mid ?_ ?_
    · exact clip_pos (k := 1) (by simp only [List.length_append, List.length_cons, List.length_nil]; omega)
    · refine (clip_neg (k := 1) (by simp only [List.length_append, List.length_cons, List.length_nil]; omega) (by decide)).trans ?_
      simp only [List.length_append, List.length_cons, List.length_nil]; omega
  · rw [inner_t, piece_eq]
    have e : pieceL true l = [91, 94] ++ enc (upL l) ++ [93] := rfl
    rw [e]
    refine slice_mid ?_ ?_
    · exact clip_pos (k := 2) (by simp only [List.length_append, List.length_cons, List.length_nil]; omega)
    · refine (clip_neg (k := 1) (by simp only [List.length_append, List.length_cons, List.length_nil]; omega) (by decide)).trans ?_
      simp only [List.length_append, List.length_cons, List.length_nil]; omega
theorem up_no92 {l : List Nat} (h : Inside l) : ∀ q ∈ upL l, q.1 ≠ 92 ∧ q.2.getD q.1 ≠ 92 := fun q hq => ⟨(sig_ok _ (h.up_mem q hq).1).2.2.2.1, (sig_ok _ (h.up_mem q hq).2).2.2.2.1⟩
theorem read_out (b : Bool) {l : List Nat} (h : Inside l) : readAt (innerS (mkS (outL b l)) b) 0 = (upL l).map sgPair := by
  rw [inner_eq]
  exact read_enc _ _ 0 (by simp [mkS]) (up_no92 h)
theorem beq_of {x : Str} {l m : List Nat} (h : x = mkS l) (h2 : (mkS l == mkS m) = true) : (x == mkS m) = true := by rw [h]; exact h2
theorem framed_of (b : Bool) {l : List Nat} (h : Inside l) : Framed (mkS (outL b l)) b := by
  have h2 := enc_len (upL l)
  have h3 := h.up_len
  have hc : (cirL b).length ≤ 1 := by cases b <;> decide
  have e1 : Str.ofString "[" = mkS [91] := by decide +kernel
  have e2 : Str.ofString "]" = mkS [93] := by decide +kernel
  have e3 : Str.ofString "^" = mkS [94] := by decide +kernel
  have e4 : Str.ofString "(?s:" = mkS [40, 63, 115, 58] := by decide +kernel
  have e5 : Str.ofString ")\\Z" = mkS [41, 92, 90] := by decide +kernel
  refine ⟨?_, ?_, ?_, ?_, ?_, ?_, ?_, ?_, ?_⟩
  · rw [mkS_length]; unfold outL
    simp only [List.length_append, List.length_cons, List.length_nil]; omega
  · rw [read_out b h, List.length_map]; omega
  · rw [e4]
    have : Txt.slice (mkS (outL b l)) none (some 4) = mkS [40, 63, 115, 58] := by
      rw [show outL b l = [] ++ [40, 63, 115, 58] ++ (pieceL b l ++ [41, 92, 90]) from by simp [outL, pieceL]]
      exact slice_mid rfl (clip_pos (k := 4) (by simp only [List.length_append, List.length_cons, List.length_nil]; omega))
    rw [this]; simp
  · rw [e5]
    have : Txt.slice (mkS (outL b l)) (some (-3)) none = mkS [41, 92, 90] := by
      rw [show outL b l = ([40, 63, 115, 58] ++ pieceL b l) ++ [41, 92, 90] ++ [] from by simp [outL, pieceL]]
      refine slice_mid ((clip_neg (k := 3) (by simp only [List.length_append, List.length_cons, List.length_nil]; omega) (by decide)).trans ?_) ?_
      · simp only [List.length_append, List.length_cons, List.length_nil]; omega
      · show (([40, 63, 115, 58] ++ pieceL b l) ++ [41, 92, 90] ++ []).length = _
        simp only [List.length_append, List.length_cons, List.length_nil]
    rw [this]; simp
  · rw [piece_eq, e1]
    have : Txt.slice (mkS (pieceL b l)) none (some 1) = mkS [91] := by
      rw [show pieceL b l = [] ++ [91] ++ (cirL b ++ enc (upL l) ++ [93]) from by simp [pieceL]]
      exact slice_mid rfl (clip_pos (k := 1) (by simp only [List.length_append, List.length_cons, List.length_nil]; omega))
    rw [this]; simp
  · rw [piece_eq, e2]
    have : Txt.slice (mkS (pieceL b l)) (some (-1)) none = mkS [93] := by
      rw [show pieceL b l = ([91] ++ (cirL b ++ enc (upL l))) ++ [93] ++ [] from by simp [pieceL]]
      refine slice_mid ((clip_neg (k := 1) (by simp only [List.length_append, List.length_cons, List.length_nil]; omega) (by decide)).trans ?_) ?_
      · simp only [List.length_append, List.length_cons, List.length_nil]; omega
      · show (([91] ++ (cirL b ++ enc (upL l))) ++ [93] ++ []).length = _
        simp only [List.length_append, List.length_cons, List.length_nil]
    rw [this]; simp
  · rw [piece_eq, e3]
    obtain ⟨a, r, e, h33, h91, h94⟩ := enc_first h.up h.up_mem
    have e' : enc (upL l) = a :: r := e
    cases b
    · have : Txt.slice (mkS (pieceL false l)) (some 1) (some 2) = mkS [a] := by
        rw [show pieceL false l = [91] ++ [a] ++ (r ++ [93]) from by unfold pieceL; rw [e']; rfl]
        exact slice_mid (clip_pos (k := 1) (by simp)) (clip_pos (k := 2) (by simp))
      rw [this, mk_one_beq, decide_eq_false h94]
    · have : Txt.slice (mkS (pieceL true l)) (some 1) (some 2) = mkS [94] := by
        rw [show pieceL true l = [91] ++ [94] ++ (enc (upL l) ++ [93]) from rfl]
        exact slice_mid (clip_pos (k := 1) (by simp)) (clip_pos (k := 2) (by simp))
      rw [this]; simp
  · rw [inner_eq, e2, mkS]
    rw [show (mkS [93] : Str) = ⟨#[93]⟩ from rfl, occ_nil _ 93 1 (Nat.le_refl _) ?_]
    · rfl
    · intro i hi
      rw [show (⟨(enc (upL l)).toArray⟩ : Str) = mkS (enc (upL l)) from rfl] at hi ⊢
      rw [mkS_size] at hi
      rw [mkS_getD]
      exact enc_mem (upL l) (fun a => a ≠ 93) (by decide) (by decide) (fun q hq => ⟨(sig_ok _ (h.up_mem q hq).1).2.2.2.2.1, (sig_ok _ (h.up_mem q hq).2).2.2.2.2.1⟩) _ (mem_getD hi)
  · rw [read_out b h]
    intro p hp
    obtain ⟨⟨a, o⟩, hq, rfl⟩ := List.mem_map.mp hp
    have hu := (List.mem_filter.mp hq).2
    have key : ∀ c d : Nat, ([c] < [d]) ↔ c < d := fun c d => List.cons_lt_cons_iff.trans ⟨fun h => h.elim id fun h => absurd h.2 (List.not_lt_nil _), Or.inl⟩
    cases o with
    | none => exact fun q => absurd ((key a a).mp q) (Nat.lt_irrefl _)
    | some c => exact fun q => by have := (key c a).mp q; simp [sgUp, this] at hu
theorem told_ins {l : List Nat} : toldAt (mkS l) 0 = (sgs l).map sgPair := told_sgs _ _ 0 (by simp [mkS])
theorem eq_of {l : List Nat} (b : Bool) (h : Inside l) : takenS (readAt (innerS (mkS (outL b l)) b) 0) b = takenS (toldAt (mkS l) 0) b := by
  rw [read_out b h, told_ins]
  exact takenS_up _ b (sgs_mem l _ h.mem)
end
section
open PySem PySem.W PySem.Calls PySem.Spec PyProof.Rows PySem.Builtin PySem.Builtin.Str
set_option maxRecDepth 100000
set_option maxHeartbeats 400000
theorem mask_iff (N m : Nat) : (N &&& m = m) ↔ ∀ j, m.testBit j = true → N.testBit j = true := by
  constructor
  · intro h j hj
    have := congrArg (fun x => x.testBit j) h
    simp only [Nat.testBit_and] at this
    rw [hj, Bool.and_true] at this
    exact this
  · intro h
    refine Nat.eq_of_testBit_eq fun j => ?_
    rw [Nat.testBit_and]
    cases q : m.testBit j with
    | false => rw [Bool.and_false]
    | true => rw [h j q]; rfl
theorem mask1 (N p : Nat) : (N &&& 2 ^ p = 2 ^ p) ↔ N.testBit p = true := by
  rw [mask_iff]
  constructor
  · intro h; exact h p (by rw [Nat.testBit_two_pow]; simp)
  · intro h j hj
    rw [Nat.testBit_two_pow] at hj
    have : p = j := by simpa using hj
    subst this; exact h
theorem mask2 (N p q : Nat) : (N &&& (2 ^ p ||| 2 ^ q) = 2 ^ p ||| 2 ^ q) ↔ N.testBit p = true ∧ N.testBit q = true := by
  rw [mask_iff]
  constructor
  · intro h; exact ⟨h p (by rw [Nat.testBit_or, Nat.testBit_two_pow]; simp), h q (by rw [Nat.testBit_or, Nat.testBit_two_pow, Nat.testBit_two_pow]; simp)⟩
  · intro h j hj
    rw [Nat.testBit_or, Nat.testBit_two_pow, Nat.testBit_two_pow, Bool.or_eq_true] at hj
    rcases hj with hj | hj
    · have : p = j := by simpa using hj
      subst this; exact h.1
    · have : q = j := by simpa using hj
      subst this; exact h.2
theorem bit_div (N p : Nat) : N.testBit p = decide (N / 2 ^ p % 2 = 1) := Nat.testBit_eq_decide_div_mod_eq
theorem mask1d (N p : Nat) : (N &&& 2 ^ p = 2 ^ p) ↔ N / 2 ^ p % 2 = 1 := by rw [mask1, bit_div, decide_eq_true_iff]
theorem mask2d (N p q : Nat) : (N &&& (2 ^ p ||| 2 ^ q) = 2 ^ p ||| 2 ^ q) ↔ (N / 2 ^ p % 2 = 1 ∧ N / 2 ^ q % 2 = 1) := by rw [mask2, bit_div, bit_div, decide_eq_true_iff, decide_eq_true_iff]
theorem land_hi (N : Nat) : N &&& 61440 = 4096 * (N / 4096 % 16) := by
  refine Nat.eq_of_testBit_eq fun j => ?_
  rw [Nat.testBit_and]
  have e1 : (61440 : Nat) = 2 ^ 12 * 15 := by decide
  have e2 : 4096 * (N / 4096 % 16) = 2 ^ 12 * (N / 2 ^ 12 % 2 ^ 4) := rfl
  have e3 : (15 : Nat) = 2 ^ 4 - 1 := rfl
  rw [e1, e2, Nat.testBit_two_pow_mul, Nat.testBit_two_pow_mul, Nat.testBit_mod_two_pow, Nat.testBit_div_two_pow, e3, Nat.testBit_two_pow_sub_one]
  by_cases h : 12 ≤ j
  · rw [show j - 12 + 12 = j from by omega]
    simp [h]
    exact Bool.and_comm _ _
  · simp [h]
theorem test_nat (N i b : Nat) : fmTest (N : Nat) i b = if i = 0 then decide (N &&& 61440 = b) else decide (N &&& b = b) := by
  unfold fmTest
  rw [bitAnd_pp (by omega) (by decide), bitAnd_pp (by omega) (by omega)]
  congr 1
  · exact decide_eq_decide.mpr (by simp; omega)
  · exact decide_eq_decide.mpr (by simp; omega)
theorem cell_0 (N : Nat) : fmCell (N : Nat) 0 = (Str.ofString "?pc?d?b?-?l?s???").cps.getD (N / 4096 % 16) 0 := by
  unfold fmCell
  have e : (fun p : Nat × Nat => fmTest (N : Nat) 0 p.1) = fun p => decide (4096 * (N / 4096 % 16) = p.1) := by
    funext p; rw [test_nat, if_pos rfl, land_hi]
  rw [e]
  have h : N / 4096 % 16 < 16 := Nat.mod_lt _ (by decide)
  generalize N / 4096 % 16 = t at h
  revert t
  decide +kernel
theorem cell_1 {N i p c : Nat} (hi : i ≠ 0) (h : fmAlts.getD i [] = [(2 ^ p, c)]) : fmCell (N : Nat) i = if N / 2 ^ p % 2 = 1 then c else 45 := by
  unfold fmCell
  rw [h]
  have e : fmTest (N : Nat) i (2 ^ p) = decide (N / 2 ^ p % 2 = 1) := by rw [test_nat, if_neg hi]; exact decide_eq_decide.mpr (mask1d N p)
  by_cases q : N / 2 ^ p % 2 = 1
  · rw [decide_eq_true q] at e
    rw [List.find?_cons_of_pos (by exact e), if_pos q]
  · rw [decide_eq_false q] at e
    rw [List.find?_cons_of_neg (by rw [e]; decide), if_neg q]
    exact if_neg hi
theorem cell_3 {N i p r c d e : Nat} (hi : i ≠ 0) (h : fmAlts.getD i [] = [(2 ^ p ||| 2 ^ r, c), (2 ^ p, d), (2 ^ r, e)]) :
    fmCell (N : Nat) i = if N / 2 ^ p % 2 = 1 then (if N / 2 ^ r % 2 = 1 then c else d) else (if N / 2 ^ r % 2 = 1 then e else 45) := by
  unfold fmCell
  rw [h]
  have e1 : fmTest (N : Nat) i (2 ^ p) = decide (N / 2 ^ p % 2 = 1) := by rw [test_nat, if_neg hi]; exact decide_eq_decide.mpr (mask1d N p)
  have e2 : fmTest (N : Nat) i (2 ^ r) = decide (N / 2 ^ r % 2 = 1) := by rw [test_nat, if_neg hi]; exact decide_eq_decide.mpr (mask1d N r)
  have e3 : fmTest (N : Nat) i (2 ^ p ||| 2 ^ r) = (decide (N / 2 ^ p % 2 = 1) && decide (N / 2 ^ r % 2 = 1)) := by
    rw [test_nat, if_neg hi, ← Bool.decide_and]
    exact decide_eq_decide.mpr (mask2d N p r)
  simp only [List.find?_cons, List.find?_nil, e1, e2, e3]
  by_cases q : N / 2 ^ p % 2 = 1
  · by_cases q2 : N / 2 ^ r % 2 = 1
    · simp [q, q2]
    · simp [q, q2]
  · by_cases q2 : N / 2 ^ r % 2 = 1
    · simp [q, q2]
    · simp [q, q2, hi]
theorem two_r (s : Str) (c i j : Nat) (hs : s = mkS [45, c]) (h : j = i % 2) : (if i % 2 = 1 then c else 45) = s.cps.getD j 0 := by
  subst hs; subst h
  rw [mkS_getD]
  rcases Nat.mod_two_eq_zero_or_one i with e | e <;> simp [e]
theorem four_x (s : Str) (x S t i j k : Nat) (hs : s = mkS [45, x, S, t]) (h : k = j % 2 + 2 * (i % 2)) : (if i % 2 = 1 then (if j % 2 = 1 then t else S) else (if j % 2 = 1 then x else 45)) = s.cps.getD k 0 := by
  subst hs; subst h
  rw [mkS_getD]
  rcases Nat.mod_two_eq_zero_or_one i with e | e <;> rcases Nat.mod_two_eq_zero_or_one j with e2 | e2 <;> simp [e, e2]
theorem low_bit (md k p : Nat) (h : p < 16) : (md + 65536 * k) / 2 ^ p % 2 = md / 2 ^ p % 2 := by
  have e1 : 65536 * k = 2 ^ p * (2 * (2 ^ (15 - p) * k)) := by
    rw [← Nat.mul_assoc, ← Nat.mul_assoc, show (65536 : Nat) = 2 ^ 16 from rfl, show 2 ^ p * 2 * 2 ^ (15 - p) = 2 ^ (p + 1 + (15 - p)) from by rw [Nat.pow_add, Nat.pow_add, Nat.pow_one], show p + 1 + (15 - p) = 16 from by omega]
  rw [e1, Nat.add_mul_div_left _ _ (Nat.two_pow_pos p), Nat.add_mul_mod_self_left]
theorem m84 (m : Nat) : m % 8 / 4 = m / 4 % 2 := by omega
theorem m82 (m : Nat) : m % 8 / 2 % 2 = m / 2 % 2 := by omega
theorem m81 (m : Nat) : m % 8 % 2 = m % 2 := by omega
theorem d84 (m a : Nat) : m / a % 8 / 4 = m / (a * 4) % 2 := by rw [m84, Nat.div_div_eq_div_mul]
theorem d82 (m a : Nat) : m / a % 8 / 2 % 2 = m / (a * 2) % 2 := by rw [m82, Nat.div_div_eq_div_mul]
theorem d81 (m a b : Nat) : m / a % 8 % 2 + 2 * (m / b % 2) = m / a % 2 + 2 * (m / b % 2) := by rw [m81]
theorem fm_row (md k : Nat) : (⟨((List.range 10).map (fmCell (md + 65536 * k : Nat))).toArray⟩ : Str) = rowS md := by
  have lr : Str.ofString "-r" = mkS [45, 114] := by decide +kernel
  have lw : Str.ofString "-w" = mkS [45, 119] := by decide +kernel
  have ls : Str.ofString "-xSs" = mkS [45, 120, 83, 115] := by decide +kernel
  have lt : Str.ofString "-xTt" = mkS [45, 120, 84, 116] := by decide +kernel
  have c0 := cell_0 (md + 65536 * k)
  rw [show (md + 65536 * k) / 4096 % 16 = md / 4096 % 16 from by rw [show 65536 * k = 4096 * (16 * k) from by rw [← Nat.mul_assoc], Nat.add_mul_div_left _ _ (by decide), Nat.add_mul_mod_self_left]] at c0
  have lo := fun p h => low_bit md k p h
  have c1 := (cell_1 (N := md + 65536 * k) (i := 1) (p := 8) (by decide) rfl).trans (two_r (Str.ofString "-r") 114 _ (md / 64 % 8 / 4) lr ((d84 md 64).trans (lo 8 (by decide)).symm))
  have c2 := (cell_1 (N := md + 65536 * k) (i := 2) (p := 7) (by decide) rfl).trans (two_r (Str.ofString "-w") 119 _ (md / 64 % 8 / 2 % 2) lw ((d82 md 64).trans (lo 7 (by decide)).symm))
  have c3 := (cell_3 (N := md + 65536 * k) (i := 3) (p := 11) (r := 6) (by decide) rfl).trans (four_x (Str.ofString "-xSs") 120 83 115 _ _ (md / 64 % 8 % 2 + 2 * (md / 2048 % 2)) ls ((d81 md 64 2048).trans (by rw [lo 11 (by decide), lo 6 (by decide)])))
  have c4 := (cell_1 (N := md + 65536 * k) (i := 4) (p := 5) (by decide) rfl).trans (two_r (Str.ofString "-r") 114 _ (md / 8 % 8 / 4) lr ((d84 md 8).trans (lo 5 (by decide)).symm))
  have c5 := (cell_1 (N := md + 65536 * k) (i := 5) (p := 4) (by decide) rfl).trans (two_r (Str.ofString "-w") 119 _ (md / 8 % 8 / 2 % 2) lw ((d82 md 8).trans (lo 4 (by decide)).symm))
  have c6 := (cell_3 (N := md + 65536 * k) (i := 6) (p := 10) (r := 3) (by decide) rfl).trans (four_x (Str.ofString "-xSs") 120 83 115 _ _ (md / 8 % 8 % 2 + 2 * (md / 1024 % 2)) ls ((d81 md 8 1024).trans (by rw [lo 10 (by decide), lo 3 (by decide)])))
  have c7 := (cell_1 (N := md + 65536 * k) (i := 7) (p := 2) (by decide) rfl).trans (two_r (Str.ofString "-r") 114 _ (md % 8 / 4) lr ((m84 md).trans (lo 2 (by decide)).symm))
  have c8 := (cell_1 (N := md + 65536 * k) (i := 8) (p := 1) (by decide) rfl).trans (two_r (Str.ofString "-w") 119 _ (md % 8 / 2 % 2) lw ((m82 md).trans (lo 1 (by decide)).symm))
  have c9 := (cell_3 (N := md + 65536 * k) (i := 9) (p := 9) (r := 0) (by decide) rfl).trans (four_x (Str.ofString "-xTt") 120 84 116 _ _ (md % 8 % 2 + 2 * (md / 512 % 2)) lt (by rw [m81, lo 9 (by decide), lo 0 (by decide), Nat.pow_zero, Nat.div_one]))
  unfold rowS rowL
  rw [show List.range 10 = [0, 1, 2, 3, 4, 5, 6, 7, 8, 9] from by decide]
  simp only [List.map_cons, List.map_nil]
  rw [c0, c1, c2, c3, c4, c5, c6, c7, c8, c9]
end
section
open PySem PySem.W PySem.Calls PySem.Spec PyProof.Rows PySem.Builtin PySem.Builtin.Str
set_option maxRecDepth 100000
set_option maxHeartbeats 400000
theorem W_memA : ∀ (n a : Nat), a ∈ W n → 65 ≤ a ∧ a ≤ 80 := by
  intro n
  induction n using Nat.strongRecOn with
  | _ n ih =>
    intro a ha
    by_cases h : n = 0
    · subst h; rw [W_zero] at ha; cases ha
    · rw [W_step h] at ha
      rcases List.mem_append.mp ha with m | m
      · exact ih (n / 16) (by omega) a m
      · rw [List.mem_singleton] at m; omega
theorem W_nil {n : Nat} (h : W n = []) : n = 0 := by
  by_cases e : n = 0
  · exact e
  · rw [W_step e] at h; simp at h
theorem W_one {n : Nat} (h : (W n).length ≤ 1) : n < 16 := by
  by_cases e : n = 0
  · omega
  · rw [W_step e, List.length_append] at h
    have : W (n / 16) = [] := List.eq_nil_of_length_eq_zero (by simp at h; simp [h])
    have := W_nil this
    omega
theorem sig_letter : ∀ a, 65 ≤ a → a ≤ 80 → a ∈ sigL := by
  intro a h1 h2
  have : ∀ a, a < 81 → 65 ≤ a → a ∈ sigL := by decide
  exact this a (by omega) h1
theorem str16 : ∀ i, i < 16 → (Str.ofString "?pc?d?b?-?l?s???").cps.getD i 0 ∈ sigL := by decide +kernel
theorem str_r : ∀ i, i < 2 → (Str.ofString "-r").cps.getD i 0 ∈ sigL := by decide +kernel
theorem str_w : ∀ i, i < 2 → (Str.ofString "-w").cps.getD i 0 ∈ sigL := by decide +kernel
theorem str_x : ∀ i, i < 4 → (Str.ofString "-xSs").cps.getD i 0 ∈ sigL := by decide +kernel
theorem str_t : ∀ i, i < 4 → (Str.ofString "-xTt").cps.getD i 0 ∈ sigL := by decide +kernel
theorem row_sig (n : Nat) : ∀ a ∈ rowL n, a ∈ sigL := by
  intro a ha
  unfold rowL at ha
  simp only [List.mem_cons, List.not_mem_nil, or_false] at ha
  rcases ha with h | h | h | h | h | h | h | h | h | h <;> rw [h]
  · exact str16 _ (by omega)
  · exact str_r _ (by omega)
  · exact str_w _ (by omega)
  · exact str_x _ (by omega)
  · exact str_r _ (by omega)
  · exact str_w _ (by omega)
  · exact str_x _ (by omega)
  · exact str_r _ (by omega)
  · exact str_w _ (by omega)
  · exact str_t _ (by omega)
theorem row_low {n : Nat} (h : n < 16) : ∃ R, rowL n = 63 :: R := by
  unfold rowL
  rw [show n / 4096 % 16 = 0 from by omega]
  exact ⟨_, congrArg (· :: _) (by decide +kernel)⟩
theorem row_zero : ∃ R, rowL 0 = 63 :: 45 :: 45 :: 45 :: 45 :: 45 :: R := ⟨[45, 45, 45, 45], by decide +kernel⟩
theorem row_len (n : Nat) : (rowL n).length = 10 := rfl
theorem up_front {C R D : List Nat} (hC : ∀ a ∈ C, 65 ≤ a) (h1 : C.length ≤ 1 → ∃ R', R = 63 :: R') (h0 : C = [] → ∃ R', R = 63 :: 45 :: 45 :: 45 :: 45 :: 45 :: R') : (sgs (C ++ R ++ D)).filter sgUp ≠ [] := by
  intro h
  match C, hC, h1, h0, h with
  | [], hC, h1, h0, h =>
    obtain ⟨R', rfl⟩ := h0 rfl
    rcases sgs_down _ h with q | ⟨a, c, r, q, _, h⟩
    · cases q
    · cases q
      rcases sgs_down _ h with q | ⟨a, c, r, q, hl, _⟩
      · cases q
      · cases q; omega
  | [x], hC, h1, h0, h =>
    obtain ⟨R', rfl⟩ := h1 (Nat.le_refl _)
    rcases sgs_down _ h with q | ⟨a, c, r, q, _, h⟩
    · cases q
    · cases q
  | x :: y :: C, hC, h1, h0, h =>
    rcases sgs_down _ h with q | ⟨a, c, r, q, _, h⟩
    · cases q
    · have e : x :: y :: (C ++ R ++ D) = a :: 45 :: c :: r := q
      have e2 := (List.cons.inj (List.cons.inj e).2).1
      have := hC y (.tail _ (.head _))
      omega
theorem up_back {r0 r1 r2 r3 r4 r5 r6 r7 r8 r9 : Nat} {D : List Nat} (hD : ∀ a ∈ D, 65 ≤ a) : (sgs (r0 :: r1 :: r2 :: r3 :: r4 :: r5 :: r6 :: r7 :: r8 :: r9 :: D)).filter sgUp ≠ [] := by
  intro h
  rcases sgs_down _ h with q | ⟨a, c, r, q, _, h⟩
  · cases q
  · cases q
    rcases sgs_down _ h with q | ⟨a, c, r, q, _, h⟩
    · cases q
    · cases q
      rcases sgs_down _ h with q | ⟨a, c, r, q, _, h⟩
      · cases q
      · cases q
        rcases sgs_down _ h with q | ⟨a, c, r, q, _, h⟩
        · cases q
        · cases q
          have := hD 45 (.head _)
          omega
noncomputable def insL (c : Int) (A R B : List Nat) : List Nat := if (c.fdiv 4096).fmod 3 = 0 then A ++ R ++ B else if (c.fdiv 4096).fmod 3 = 1 then R ++ B ++ A else B ++ A ++ R
theorem ins_eq (md : Nat) (c : Int) : insS md c = mkS (insL c (W md) (rowL md) (W (c.fmod 4096).toNat)) := by
  unfold insS insideS insL
  have e1 : wordOf md = mkS (W md) := rfl
  have e2 : rowS md = mkS (rowL md) := rfl
  have e3 : wordOf (c.fmod 4096).toNat = mkS (W (c.fmod 4096).toNat) := rfl
  rw [e1, e2, e3]
  split
  · rw [mkS_app, mkS_app]
  · split
    · rw [mkS_app, mkS_app]
    · rw [mkS_app, mkS_app]
theorem inside_of {md r : Nat} (c : Int) (hmd : md < 65536) (hr : r < 4096) : Inside (insL c (W md) (rowL md) (W r)) := by
  have l1 := W_len 4 md (by omega)
  have l2 := W_len 3 r (by omega)
  have l3 := row_len md
  have mem : ∀ a, a ∈ W md ∨ a ∈ rowL md ∨ a ∈ W r → a ∈ sigL := by
    rintro a (h | h | h)
    · have := W_memA _ _ h; exact sig_letter a this.1 this.2
    · exact row_sig _ _ h
    · have := W_memA _ _ h; exact sig_letter a this.1 this.2
  have low : (W md).length ≤ 1 → ∃ R', rowL md = 63 :: R' := fun h => row_low (W_one h)
  have zero : W md = [] → ∃ R', rowL md = 63 :: 45 :: 45 :: 45 :: 45 :: 45 :: R' := fun h => by rw [W_nil h]; exact row_zero
  unfold insL
  split
  · refine ⟨?_, ?_, ?_, ?_⟩
    · simp only [List.length_append]; omega
    · simp only [List.length_append]; omega
    · intro a ha
      simp only [List.mem_append] at ha
      exact mem a (by rcases ha with (h | h) | h; exact .inl h; exact .inr (.inl h); exact .inr (.inr h))
    · exact up_front (fun a ha => (W_memA _ _ ha).1) low zero
  · split
    · refine ⟨?_, ?_, ?_, ?_⟩
      · simp only [List.length_append]; omega
      · simp only [List.length_append]; omega
      · intro a ha
        simp only [List.mem_append] at ha
        exact mem a (by rcases ha with (h | h) | h; exact .inr (.inl h); exact .inr (.inr h); exact .inl h)
      · unfold rowL
        rw [List.append_assoc]
        exact up_back (D := W r ++ W md) fun a ha => by
          rcases List.mem_append.mp ha with h | h
          · exact (W_memA _ _ h).1
          · exact (W_memA _ _ h).1
    · refine ⟨?_, ?_, ?_, ?_⟩
      · simp only [List.length_append]; omega
      · simp only [List.length_append]; omega
      · intro a ha
        simp only [List.mem_append] at ha
        exact mem a (by rcases ha with (h | h) | h; exact .inr (.inr h); exact .inl h; exact .inr (.inl h))
      · have := up_front (C := W r ++ W md) (R := rowL md) (D := []) (fun a ha => by
          rcases List.mem_append.mp ha with h | h
          · exact (W_memA _ _ h).1
          · exact (W_memA _ _ h).1) (fun h => low (by rw [List.length_append] at h; omega)) (fun h => zero (List.append_eq_nil_iff.mp h).2)
        rwa [List.append_nil] at this
theorem law_at (md : Nat) (hmd : md < 65536) (c : Int) : LawAt md c := by
  have hr : (c.fmod 4096).toNat < 4096 := by
    have := Int.fmod_lt_of_pos c (show (0 : Int) < 4096 by decide)
    omega
  have hI := inside_of c hmd hr
  have e := ins_eq md c
  generalize insL c (W md) (rowL md) (W (c.fmod 4096).toNat) = l at hI e
  have et : txtS md c = mkS (txtL (barS c) l) := by
    unfold txtS txtL
    rw [e, mkS_app, mkS_app]
    congr 2
    cases barS c
    · rw [if_neg Bool.false_ne_true]; decide +kernel
    · rw [if_pos rfl]; decide +kernel
  have eo : outS md c = mkS (outL (barS c) l) := by
    unfold outS
    rw [et, out_eq _ hI]
  refine ⟨?_, ?_, ?_, ?_, ?_, ?_⟩
  · rw [et]; exact trOk_of _ hI
  · rw [eo]; exact framed_of _ hI
  · rw [eo, e]; exact eq_of _ hI
  · rw [e, mkS_length]; have := hI.hi; omega
  · rw [e, told_ins, List.length_map]
    have := sgs_length l
    have := hI.hi
    omega
  · intro k _; exact fm_row md k
end
section
open PySem PySem.W PySem.Calls PySem.Spec PyProof.Rows
set_option maxRecDepth 100000
set_option maxHeartbeats 400000
local macro_rules | `(tactic| walk_at "call ref") => `(tactic| refine Stop.out ?_)
theorem five_of {vs : List Value} {ns : List Int} (h : IntsAre vs ns) (hl : ns.length = 5) : ∃ a b c d e ta tb tc td te, vs = [.int a ta, .int b tb, .int c tc, .int d td, .int e te] := by
  cases h with | nil => cases hl | cons a ta h =>
  cases h with | nil => cases hl | cons b tb h =>
  cases h with | nil => cases hl | cons c tc h =>
  cases h with | nil => cases hl | cons d td h =>
  cases h with | nil => cases hl | cons e te h =>
  cases h with | nil => exact ⟨a, b, c, d, e, ta, tb, tc, td, te, rfl⟩ | cons f tf h => simp at hl
/-- the end of a law whose call may leave bare generators and a grown code table -/
noncomputable def LawEnd (s₁ : Shared) (tabs : List (Addr × Addr)) (r : Result) (s' : Shared) : Prop :=
  r = .ok (.ret (.bool true)) ∧ (∀ b o, (ghostOf s₁.heap tabs).get? b = some o → s'.heap.get? b = some o) ∧ s'.os = s₁.os ∧ AllBare s'.gens ∧ GrownAll tabs s'.heap
theorem law_post {M : Model} {A : Around} {cd : Code} {s s₁ : Shared} {cw : ClaimW} {cl : Str → Option Addr} {mean : ExcName → Option Value} {args : List WData} {tabs : List (Addr × Addr)} (hT : TabsAt tabs s₁.heap) (hr : ∀ a x, cw.raises a x = false)
    (hp : cw.post args (.bool true) args = true) (h : codeAny M A cd (LawEnd s₁ tabs) s) : codeAny M A cd (GoodWG cw cl mean args s₁) s :=
  codeAny_mono h fun r s' ⟨hres, hk, hos, hg, hgr⟩ => by
    subst hres
    have grown : ∀ b o, b ∈ tabs.map (·.2) → s₁.heap.get? b = some o → isCodeTable s₁.heap b ∧ o = tabObj #[] ∧ ∃ ps, s'.heap.get? b = some (tabObj ps) := fun b o hb e => by
      obtain ⟨q, hq, rfl⟩ := List.mem_map.mp hb
      have e2 := (hT q hq).2
      rw [e] at e2
      exact ⟨((hT q hq).1.tab (hT q hq).2).isCodeTable, Option.some.inj e2, hgr.get q hq⟩
    refine ⟨.inl ⟨_, .bool true, [], rfl, fun x => hr _ x, .bool _, hp, fun _ => ⟨List.nodup_nil, fun _ hm => (nomatch hm)⟩⟩, ⟨fun b o e => ?_, fun b o e => ?_⟩, hos, hg⟩
    · by_cases hb : b ∈ tabs.map (·.2)
      · obtain ⟨ht, rfl, ps, hP⟩ := grown b o hb e
        exact .inr (.inl ⟨ht, rfl, #[], ps, rfl, by rw [Array.empty_append]; exact hP⟩)
      · exact .inl (hk b o (ghost_ne e hb))
    · by_cases hb : b ∈ tabs.map (·.2)
      · obtain ⟨_, _, ps, hP⟩ := grown b o hb e
        exact ⟨_, hP⟩
      · exact ⟨o, hk b o (ghost_ne e hb)⟩
theorem PP : PySem.Challenge.rw_rx0051_01.Holds := by
  w_on
  refine holds_law (by kernel_rfl) fun said => ?_
  refine holds_open (q := myq) (loose := myl) (Xt := myX) (XP := XL myq []) (Yf := Hook.obs myH) (Ya := Hook.val myH) (YP := Hook.says myH) (N := 2500) left_all (Hook.of myH) (Hook.keeps myH) (fun s e => xl_of s (Bool.and_eq_true_iff.mp e).1) XL.keeps (by rfl) (by rfl) (by rfl) (fun s e => recFacts_of (Bool.and_eq_true_iff.mp e).2) (by rfl) said (by kernel_rfl) ⟨rfl, rfl, rfl, rfl, rfl, of_decide_eq_true (by kernel_rfl)⟩ ?hw ?hc
  case hw => exact ⟨[.list []], of_decide_eq_true (by kernel_rfl), of_decide_eq_true (by kernel_rfl)⟩
  delta myH
  k_fill
  intro w s₀ s₁ mg mb G Y fa o pm cd doc dV kV ho hd hcd hD hmg hg args vals as hpre hlay hrd hwl hlo
  have KX := km_in_of Y
  km_tabs Y
  have X := (Ground.X G).1
  have V := (Ground.X G).2
  refine Ground.open G ?_
  intro T B D TE TW
  refine guard_noD D (by first | kernel_rfl | exact of_decide_eq_true (by kernel_rfl)) ?_
  clear D
  km_lay T hmg ho hd cd
  clear hmg
  wrow_args hpre hlay hrd hwl hlo
  refine enter_call ?_
  w_top on
  refine law_post hT9 (fun _ _ => rfl) ?hp ?_
  case hp => (first | with_unfolding_all rfl | wrow_post)
  w_call any ho hd hcd hD T F
  clear hd
  kn_ghosts F T
  k_drop
  skip
  (all_goals try k_fold)
  k_steps
  refine unstop ?_
  rename IntsAre _ _ => hI0
  rename Heap.IsList _ _ _ => hL0
  rename Fr _ _ _ _ => F1
  rename News _ _ _ _ => N1
  rename Below _ _ _ _ => B1
  rename Top _ _ _ _ _ _ => T1
  rename Frag.In _ _ => X1
  refine use (c_cells _ _ _ _ hI0 (by omega)) B1 F1 X1 T1 N1 rfl ?kd ?ku ?kp ?_
  case kd => decide
  case ku => decide
  case kp => exact hL0.at fun o e => F1.keep _ o e
  intro v h2 tk2 hP2 _ F2 N2
  obtain ⟨r, vs5, ns5, k5, rfl, hr, hr0, hi5, hl5⟩ := hP2
  obtain ⟨n0, n1, n2, n3, n4, t0, t1, t2, t3, t4, rfl⟩ := five_of hi5 hl5
  replace N2 := News.more F2 N2 hr (fun es n e => by cases e) (F1.noneBack hr0)
  clear F1 N1 hi5
  (try dsimp only)
  (try k_fold)
  k_steps
  refine unstop ?_
  rename Fr _ _ _ _ => F3
  rename News _ _ _ _ => N3
  show wpAny _ _ (call _ [Value.int (Int.fmod n0 65536) _, _]) _ _ _
  obtain ⟨md, hmd⟩ : ∃ md : Nat, Int.fmod n0 65536 = (md : Int) := ⟨(Int.fmod n0 65536).toNat, (Int.toNat_of_nonneg (Int.fmod_nonneg_of_pos n0 (by decide))).symm⟩
  have hmd2 : md < 65536 := by have := Int.fmod_lt_of_pos n0 (show (0 : Int) < 65536 by decide); omega
  rw [hmd]
  have f57 : ∀ (a : Addr) (vs : Array Value) (k : Nat), (a, W.listOf vs k) ∈ _ → a ≠ 57 := fun a vs k hm e => by
    have z1 := (N3 _ hm).1
    have z2 := (N3 _ (.tail _ (.tail _ (.head _)))).1
    subst e
    rw [z2] at z1
    cases z1
  have D57 := f57 _ _ _ (.head _)
  have r57 := f57 _ _ _ (.tail _ (.head _))
  refine useT (c_run _ law_at md hmd2 _ _ _ (.cons n1 t1 (.cons n2 t2 (.cons n3 t3 (.cons n4 t4 .nil)))) _) B1 F3 X1 T1 N3 (UpdF.tail D57 (UpdF.tail r57 (UpdF.head fun _ h => nomatch h))) ?ht ?hG rfl ?kd ?ku ?kp ?_
  case ht => exact True.intro
  case hG => exact AllBare.of_eq (by assumption)
  case kd => decide
  case ku => decide
  case kp => exact ⟨⟨_, (N3 _ (.head _)).1, rfl, _, rfl⟩, D57⟩
  intro v h6 gn6 d6 tk6 ps6 hv F6 N6 hT6 hG6
  subst hv
  exact ⟨rfl, fun b o e => F6.keep b o e, rfl, hG6, GrownAt.of N6 (.tail _ (.tail _ (.head _))), True.intro⟩
end
end Mine
theorem PySem.Challenge.cw_rx0051_01_holds : PySem.Challenge.rw_rx0051_01.Holds :=
  Mine.PP
