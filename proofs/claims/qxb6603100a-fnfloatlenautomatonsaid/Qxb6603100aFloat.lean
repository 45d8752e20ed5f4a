import Derived.Test.Qxb6603100aBytes
import Derived.Deep.CutBlock
namespace Go.Proofs.Qxb6603100a
open Go.RowKit

theorem prefix16 (s : ByteArray) (b : Bool) (hs : s.size ≤ 1048576) (h0 : 0 < s.size) (hb : ((s.extract 0 1).toList == [48]) = b) (w : World) :
    Calls Try.prog 16 #[.string s, .string ⟨#[48]⟩] w fun e w' => e = .returned (.bool b) ∧ w = w' := by
  have h1 : (1 : Int) ≤ s.size := by omega
  go_enter Try.func16, Try.ntmps16
  go_wp2
  go_ret
  exact ⟨rfl, rfl⟩

theorem prefix16_empty (s : ByteArray) (h0 : s.size = 0) (w : World) :
    Calls Try.prog 16 #[.string s, .string ⟨#[48]⟩] w fun e w' => e = .returned (.bool false) ∧ w = w' := by
  go_enter Try.func16, Try.ntmps16
  go_wp2
  go_ret
  exact ⟨rfl, rfl⟩

theorem head_zero (s : ByteArray) (h0 : 0 < s.size) : ((s.extract 0 1).toList == [48]) = decide (s[0].toNat = 48) := by
  rw [Lib.extract_toList]
  have : s.data.toList = s[0] :: s.data.toList.drop 1 := by
    have h : 0 < s.data.toList.length := by rw [← Lib.size_eq]; exact h0
    have := List.drop_eq_getElem_cons h
    rw [List.drop_zero] at this
    exact this
  rw [this]
  simp
  rw [Bool.eq_iff_iff]
  simp
  exact ⟨fun h => by rw [h]; rfl, fun h => UInt8.toNat_inj.1 h⟩

theorem codes_cons (s : ByteArray) (h0 : 0 < s.size) : codes s = s[0].toNat :: (codes s).drop 1 := by
  have := codes_drop s 0 h0
  rwa [List.drop_zero] at this

theorem codes_nil (s : ByteArray) (h0 : s.size = 0) : codes s = [] := List.eq_nil_of_length_eq_zero (by rw [codes_length]; exact h0)

theorem dl_le (l : List Nat) : dl l ≤ l.length := by
  induction l with
  | nil => exact Nat.le_refl _
  | cons c t ih =>
    simp only [dl, List.length_cons]
    split <;> omega

theorem drop_nil (s : ByteArray) (n : Nat) (h : s.size ≤ n) : (codes s).drop n = [] := List.drop_eq_nil_of_le (by rw [codes_length]; exact h)

/-! ### The first part, way by way -/
theorem one_end (s : ByteArray) (h0 : 0 < s.size) (h1 : 49 ≤ s[0].toNat ∧ s[0].toNat ≤ 57) (D : Nat) (hD : D = dl (codes s)) (he : s.size ≤ D) : flen (codes s) = 0 := by
  have hc := codes_cons s h0
  have hf := flen_one (t := (codes s).drop 1) h1
  rw [← hc, ← hD, drop_nil s D he] at hf
  exact hf

theorem one_no (s : ByteArray) (h0 : 0 < s.size) (h1 : 49 ≤ s[0].toNat ∧ s[0].toNat ≤ 57) (D : Nat) (hD : D = dl (codes s)) (hlt : D < s.size) (hz : s[D].toNat ≠ 46) : flen (codes s) = 0 := by
  have hc := codes_cons s h0
  have hf := flen_one (t := (codes s).drop 1) h1
  rw [← hc, ← hD, codes_drop s D hlt] at hf
  rw [hf]
  exact if_neg hz

theorem one_yes (s : ByteArray) (h0 : 0 < s.size) (h1 : 49 ≤ s[0].toNat ∧ s[0].toNat ≤ 57) (D E : Nat) (hD : D = dl (codes s)) (hlt : D < s.size) (hz : s[D].toNat = 46) (hE : E = dl ((codes s).drop (D + 1))) :
    flen (codes s) = tailv (D + 1 + E) ((codes s).drop (D + 1 + E)) := by
  have hc := codes_cons s h0
  have hf := flen_one (t := (codes s).drop 1) h1
  rw [← hc, ← hD, codes_drop s D hlt] at hf
  rw [hf]
  show (if s[D].toNat = 46 then _ else _) = _
  rw [if_pos hz, ← hE, List.drop_drop]

theorem zero_end (s : ByteArray) (h0 : 0 < s.size) (h1 : s[0].toNat = 48) (he : s.size = 1) : flen (codes s) = 0 := by
  rw [codes_cons s h0, h1, drop_nil s 1 (by omega)]; rfl

theorem zero_no (s : ByteArray) (h0 : 0 < s.size) (h1 : s[0].toNat = 48) (he : 1 < s.size) (hz : s[1].toNat ≠ 46) : flen (codes s) = 0 := by
  rw [codes_cons s h0, h1, flen_zero, codes_drop s 1 he]
  exact if_neg hz

theorem zero_yes (s : ByteArray) (h0 : 0 < s.size) (h1 : s[0].toNat = 48) (he : 1 < s.size) (hz : s[1].toNat = 46) (E : Nat) (hE : E = dl ((codes s).drop 2)) :
    flen (codes s) = if E = 0 then 0 else tailv (2 + E) ((codes s).drop (2 + E)) := by
  conv => lhs; rw [codes_cons s h0, h1, flen_zero, codes_drop s 1 he]
  show (if s[1].toNat = 46 then _ else _) = _
  rw [if_pos hz, ← hE, List.drop_drop]

theorem dot_yes (s : ByteArray) (h0 : 0 < s.size) (h1 : s[0].toNat = 46) (E : Nat) (hE : E = dl ((codes s).drop 1)) :
    flen (codes s) = if E = 0 then 0 else tailv (1 + E) ((codes s).drop (1 + E)) := by
  conv => lhs; rw [codes_cons s h0, h1, flen_dot]
  rw [← hE, List.drop_drop]

theorem other_no (s : ByteArray) (h0 : 0 < s.size) (h1 : ¬ (49 ≤ s[0].toNat ∧ s[0].toNat ≤ 57)) (h2 : s[0].toNat ≠ 48) (h3 : s[0].toNat ≠ 46) : flen (codes s) = 0 := by
  rw [codes_cons s h0]; exact flen_other h1 h2 h3

/-! ### The exponent, way by way -/
theorem tail_end (s : ByteArray) (n : Nat) (h : s.size ≤ n) : tailv n ((codes s).drop n) = n := by rw [drop_nil s n h]; rfl

theorem tail_no (s : ByteArray) (n : Nat) (h : n < s.size) (hz : ¬ (s[n].toNat = 101 ∨ s[n].toNat = 69)) : tailv n ((codes s).drop n) = n := by
  rw [codes_drop s n h]
  exact if_neg hz

theorem tail_e_end (s : ByteArray) (n : Nat) (h : n < s.size) (hz : s[n].toNat = 101 ∨ s[n].toNat = 69) (he : s.size ≤ n + 1) : tailv n ((codes s).drop n) = n := by
  rw [codes_drop s n h, drop_nil s (n + 1) he]
  exact if_pos hz

theorem tail_sign (s : ByteArray) (n : Nat) (h : n < s.size) (hz : s[n].toNat = 101 ∨ s[n].toNat = 69) (he : n + 1 < s.size) (hg : s[n + 1].toNat = 43 ∨ s[n + 1].toNat = 45) (E : Nat) (hE : E = dl ((codes s).drop (n + 2))) :
    tailv n ((codes s).drop n) = if E = 0 then n else n + 2 + E := by
  rw [codes_drop s n h, codes_drop s (n + 1) he]
  refine (if_pos hz).trans ?_
  show (if s[n + 1].toNat = 43 ∨ s[n + 1].toNat = 45 then _ else _) = _
  rw [if_pos hg, hE]

theorem tail_plain (s : ByteArray) (n : Nat) (h : n < s.size) (hz : s[n].toNat = 101 ∨ s[n].toNat = 69) (he : n + 1 < s.size) (hg : ¬ (s[n + 1].toNat = 43 ∨ s[n + 1].toNat = 45)) (E : Nat) (hE : E = dl ((codes s).drop (n + 1))) :
    tailv n ((codes s).drop n) = if E = 0 then n else n + 1 + E := by
  rw [codes_drop s (n + 1) he] at hE
  rw [codes_drop s n h, codes_drop s (n + 1) he]
  refine (if_pos hz).trans ?_
  show (if s[n + 1].toNat = 43 ∨ s[n + 1].toNat = 45 then _ else _) = _
  rw [if_neg hg, hE]

/-- digitsLen of a cut string. -/
theorem digits_cut (s : ByteArray) (w : World) (hs : s.size ≤ 1048576) (n : Nat) (E : Nat) (hE : E = dl ((codes s).drop n)) :
    Calls Try.prog 15 #[.string (s.extract n s.size)] w fun e w' => e = .returned (.int .i64 E) ∧ w = w' := by
  have h := digits15 (s.extract n s.size) w (by rw [← codes_length, codes_extract, List.length_drop, codes_length]; omega)
  rw [codes_extract, ← hE] at h
  exact h

theorem dl_cut_le (s : ByteArray) (n E : Nat) (hE : E = dl ((codes s).drop n)) (hn : n ≤ s.size) : n + E ≤ s.size := by
  have := dl_le ((codes s).drop n)
  rw [List.length_drop, codes_length] at this
  omega

set_option maxRecDepth 100000 in
set_option maxHeartbeats 4000000 in
theorem float14 (s : ByteArray) (w : World) (hs : s.size ≤ 1048576) :
    Calls Try.prog 14 #[.string s] w fun e w' => e = .returned (.int .i64 (flen (codes s))) ∧ w = w' := by
  go_enter Try.func14, Try.ntmps14
  go_upto_block 0 with fail
  go_cut [3] (fun nv wc => wc = w ∧ ∃ n : Nat, nv = .int .i64 n ∧ n ≤ s.size ∧ Hid (flen (codes s) = tailv n ((codes s).drop n)))
  case first =>
    by_cases h0 : s.size = 0
    · have hemp : s.toList.isEmpty = true := by
        rw [← decide_eq_emptyBytes]
        exact decide_eq_true (ByteArray.ext (Array.eq_empty_of_size_eq_zero h0))
      have HN : Hid (flen (codes s) = 0) := by rw [codes_nil s h0]; rfl
      have HP := prefix16_empty s h0
      go_wp2_with (go_at_call 16; refine (HP _).mono ?_; rintro e w' ⟨rfl, rfl⟩)
      go_ret
      exact ⟨ret_int (by rw [HN.out]; rfl), rfl⟩
    · have hp : 0 < s.size := by omega
      have hpi : (0 : Int) < s.size := by omega
      have hne : ((0 : Int) == s.size) = false := by simp; omega
      have hemp : s.toList.isEmpty = false := by
        rw [← decide_eq_emptyBytes]
        exact decide_eq_false (fun h => h0 (by rw [h]; rfl))
      clear h0
      by_cases h19 : (49 : Int) ≤ (s[0].toNat : Int) ∧ (s[0].toNat : Int) ≤ 57
      · have HX : Hid (49 ≤ s[0].toNat ∧ s[0].toNat ≤ 57) := ⟨by omega, by omega⟩
        obtain ⟨h1, h2⟩ := h19
        obtain ⟨D, HD⟩ : ∃ D, Hid (D = dl (codes s)) := ⟨_, rfl⟩
        have hDs : D ≤ s.size := by rw [HD.out, ← codes_length]; exact dl_le _
        have HC := digits15 s
        rw [← HD.out] at HC
        have HCH := show Hid (∀ w, s.size ≤ 1048576 → Calls Try.prog 15 #[.string s] w fun e w' => e = .returned (.int .i64 D) ∧ w = w') from HC
        clear HC
        by_cases hend : s.size ≤ D
        · have HN : Hid (flen (codes s) = 0) := one_end s hp HX.out D HD.out hend
          have hde : ((D : Int) == s.size) = true := by simp; omega
          go_wp2_with (go_at_call 15; refine (HCH.out _ hs).mono ?_; rintro e w' ⟨rfl, rfl⟩)
          go_ret
          exact ⟨ret_int (by rw [HN.out]; rfl), rfl⟩
        · have hlt : D < s.size := by omega
          have hde : ((D : Int) == s.size) = false := by simp; omega
          by_cases hz : (s[D].toNat : Int) = 46
          · have hzb : ((s[D].toNat : Int) != 46) = false := by simpa using hz
            obtain ⟨E, HE⟩ : ∃ E, Hid (E = dl ((codes s).drop (D + 1))) := ⟨_, rfl⟩
            have HN : Hid (flen (codes s) = tailv (D + 1 + E) ((codes s).drop (D + 1 + E))) := one_yes s hp HX.out D E HD.out hlt (by omega) HE.out
            have hle := dl_cut_le s (D + 1) E HE.out (by omega)
            clear hz
            go_wp2_with fail
            refine (HCH.out w hs).mono ?_
            rintro e w' ⟨rfl, rfl⟩
            go_wp2_with fail
            refine (digits_cut s w hs (D + 1) E HE.out).mono ?_
            rintro e w' ⟨rfl, rfl⟩
            go_wp2
            go_meet
            case rel => exact ⟨rfl, D + 1 + E, by go_num, hle, HN.out⟩
          · have hzb : ((s[D].toNat : Int) != 46) = true := by simpa using hz
            have HN : Hid (flen (codes s) = 0) := one_no s hp HX.out D HD.out hlt (by omega)
            clear hz
            go_wp2_with (go_at_call 15; refine (HCH.out _ hs).mono ?_; rintro e w' ⟨rfl, rfl⟩)
            go_ret
            exact ⟨ret_int (by rw [HN.out]; rfl), rfl⟩
      · by_cases h48 : (s[0].toNat : Int) = 48
        · have HX : Hid (s[0].toNat = 48) := by show _ = _; omega
          have HP := prefix16 s true hs hp (by rw [head_zero s hp]; exact decide_eq_true HX.out)
          have HPH := show Hid (∀ w, Calls Try.prog 16 #[.string s, .string ⟨#[48]⟩] w fun e w' => e = .returned (.bool true) ∧ w = w') from HP
          have hl : (s[0].toNat : Int) ≤ 48 := by omega
          clear HP h48 h19
          by_cases h1e : s.size = 1
          · have HN : Hid (flen (codes s) = 0) := zero_end s hp HX.out h1e
            have hde : ((1 : Int) == s.size) = true := by simp; omega
            clear h1e
            go_wp2_with (go_at_call 16; refine (HPH.out _).mono ?_; rintro e w' ⟨rfl, rfl⟩)
            go_ret
            exact ⟨ret_int (by rw [HN.out]; rfl), rfl⟩
          · have h1l : 1 < s.size := by omega
            have h1i : (1 : Int) < s.size := by omega
            have hde : ((1 : Int) == s.size) = false := by simp; omega
            clear h1e
            by_cases hz : (s[1].toNat : Int) = 46
            · have hzb : ((s[1].toNat : Int) != 46) = false := by simpa using hz
              obtain ⟨E, HE⟩ : ∃ E, Hid (E = dl ((codes s).drop 2)) := ⟨_, rfl⟩
              have HN : Hid (flen (codes s) = if E = 0 then 0 else tailv (2 + E) ((codes s).drop (2 + E))) := zero_yes s hp HX.out h1l (by omega) E HE.out
              have hle := dl_cut_le s 2 E HE.out (by omega)
              have HC := show Hid (∀ w, Calls Try.prog 15 #[.string (s.extract 2 s.size)] w fun e w' => e = .returned (.int .i64 E) ∧ w = w') from fun w => digits_cut s w hs 2 E HE.out
              clear hz
              by_cases hE0 : E = 0
              · subst hE0
                go_wp2_with (first | (go_at_call 16; refine (HPH.out _).mono ?_; rintro e w' ⟨rfl, rfl⟩) | (go_at_call 15; refine (HC.out _).mono ?_; rintro e w' ⟨rfl, rfl⟩))
                go_ret
                exact ⟨ret_int (by rw [HN.out]; rfl), rfl⟩
              · have hEb : ((E : Int) == 0) = false := by simp; omega
                have HN2 : Hid (flen (codes s) = tailv (2 + E) ((codes s).drop (2 + E))) := by rw [HN.out]; exact if_neg hE0
                clear hE0 HN
                go_wp2_with (first | (go_at_call 16; refine (HPH.out _).mono ?_; rintro e w' ⟨rfl, rfl⟩) | (go_at_call 15; refine (HC.out _).mono ?_; rintro e w' ⟨rfl, rfl⟩))
                go_meet
                case rel => exact ⟨rfl, 2 + E, by go_num, hle, HN2.out⟩
            · have hzb : ((s[1].toNat : Int) != 46) = true := by simpa using hz
              have HN : Hid (flen (codes s) = 0) := zero_no s hp HX.out h1l (by omega)
              clear hz
              go_wp2_with (go_at_call 16; refine (HPH.out _).mono ?_; rintro e w' ⟨rfl, rfl⟩)
              go_ret
              exact ⟨ret_int (by rw [HN.out]; rfl), rfl⟩
        · have HP := prefix16 s false hs hp (by rw [head_zero s hp]; exact decide_eq_false (by omega))
          have HPH := show Hid (∀ w, Calls Try.prog 16 #[.string s, .string ⟨#[48]⟩] w fun e w' => e = .returned (.bool false) ∧ w = w') from HP
          clear HP
          by_cases h46 : (s[0].toNat : Int) = 46
          · have HX : Hid (s[0].toNat = 46) := by show _ = _; omega
            have hzb : ((s[0].toNat : Int) != 46) = false := by simpa using h46
            have hl : (s[0].toNat : Int) ≤ 46 := by omega
            obtain ⟨E, HE⟩ : ∃ E, Hid (E = dl ((codes s).drop 1)) := ⟨_, rfl⟩
            have HN : Hid (flen (codes s) = if E = 0 then 0 else tailv (1 + E) ((codes s).drop (1 + E))) := dot_yes s hp HX.out E HE.out
            have hle := dl_cut_le s 1 E HE.out (by omega)
            have HC := show Hid (∀ w, Calls Try.prog 15 #[.string (s.extract 1 s.size)] w fun e w' => e = .returned (.int .i64 E) ∧ w = w') from fun w => digits_cut s w hs 1 E HE.out
            clear h46 h48 h19
            by_cases hE0 : E = 0
            · subst hE0
              go_wp2_with (first | (go_at_call 16; refine (HPH.out _).mono ?_; rintro e w' ⟨rfl, rfl⟩) | (go_at_call 15; refine (HC.out _).mono ?_; rintro e w' ⟨rfl, rfl⟩))
              go_ret
              exact ⟨ret_int (by rw [HN.out]; rfl), rfl⟩
            · have hEb : ((E : Int) == 0) = false := by simp; omega
              have HN2 : Hid (flen (codes s) = tailv (1 + E) ((codes s).drop (1 + E))) := by rw [HN.out]; exact if_neg hE0
              clear hE0 HN
              go_wp2_with (first | (go_at_call 16; refine (HPH.out _).mono ?_; rintro e w' ⟨rfl, rfl⟩) | (go_at_call 15; refine (HC.out _).mono ?_; rintro e w' ⟨rfl, rfl⟩))
              go_meet
              case rel => exact ⟨rfl, 1 + E, by go_num, hle, HN2.out⟩
          · have hzb : ((s[0].toNat : Int) != 46) = true := by simpa using h46
            have HN : Hid (flen (codes s) = 0) := other_no s hp (by omega) (by omega) (by omega)
            clear h46 h48
            go_wp2_with (go_at_call 16; refine (HPH.out _).mono ?_; rintro e w' ⟨rfl, rfl⟩)
            all_goals
              go_ret
              exact ⟨ret_int (by rw [HN.out]; rfl), rfl⟩
  case rest =>
    obtain ⟨rfl, n, rfl, hn, HF⟩ := hcut
    by_cases hlt : n < s.size
    · by_cases hz : (s[n].toNat : Int) = 101 ∨ (s[n].toNat : Int) = 69
      · have HZ : Hid (s[n].toNat = 101 ∨ s[n].toNat = 69) := by show _ ∨ _; omega
        obtain ⟨b1, hb1⟩ : ∃ b, ((s[n].toNat : Int) == 101) = b := ⟨_, rfl⟩
        obtain ⟨b2, hb2⟩ : ∃ b, ((s[n].toNat : Int) == 69) = b := ⟨_, rfl⟩
        have hbb : b1 = true ∨ (b1 = false ∧ b2 = true) := by
          rw [← hb1, ← hb2]
          rcases hz with h | h
          · left; simp [h]
          · right; simp [h]
        clear hz
        rcases hbb with rfl | ⟨rfl, rfl⟩
        all_goals
          by_cases hend : s.size ≤ n + 1
          · have HN : Hid (tailv n ((codes s).drop n) = n) := tail_e_end s n hlt HZ.out hend
            have HC := show Hid (∀ w, Calls Try.prog 15 #[.string (s.extract (n + 1) s.size)] w fun e w' => e = .returned (.int .i64 (0 : Nat)) ∧ w = w') from fun w => digits_cut s w hs (n + 1) 0 (by rw [drop_nil s (n + 1) hend]; rfl)
            go_wp2_with (go_at_call 15; refine (HC.out _).mono ?_; rintro e w' ⟨rfl, rfl⟩)
            go_ret
            exact ⟨ret_int (by rw [HF.out, HN.out]), rfl⟩
          · have hl1 : n + 1 < s.size := by omega
            have hl1i : (n : Int) + 1 < s.size := by omega
            clear hend
            by_cases hg : (s[n + 1].toNat : Int) = 43 ∨ (s[n + 1].toNat : Int) = 45
            · have HG : Hid (s[n + 1].toNat = 43 ∨ s[n + 1].toNat = 45) := by show _ ∨ _; omega
              obtain ⟨E, HE⟩ : ∃ E, Hid (E = dl ((codes s).drop (n + 2))) := ⟨_, rfl⟩
              have HN : Hid (tailv n ((codes s).drop n) = if E = 0 then n else n + 2 + E) := tail_sign s n hlt HZ.out hl1 HG.out E HE.out
              have hle := dl_cut_le s (n + 2) E HE.out (by omega)
              have HC := show Hid (∀ w, Calls Try.prog 15 #[.string (s.extract (n + 2) s.size)] w fun e w' => e = .returned (.int .i64 E) ∧ w = w') from fun w => digits_cut s w hs (n + 2) E HE.out
              obtain ⟨c1, hc1⟩ : ∃ b, ((s[n + 1].toNat : Int) == 43) = b := ⟨_, rfl⟩
              obtain ⟨c2, hc2⟩ : ∃ b, ((s[n + 1].toNat : Int) == 45) = b := ⟨_, rfl⟩
              have hcc : c1 = true ∨ (c1 = false ∧ c2 = true) := by
                rw [← hc1, ← hc2]
                rcases hg with h | h
                · left; simp [h]
                · right; simp [h]
              clear hg
              rcases hcc with rfl | ⟨rfl, rfl⟩
              all_goals
                by_cases hE0 : E = 0
                · subst hE0
                  go_wp2_with (go_at_call 15; refine (HC.out _).mono ?_; rintro e w' ⟨rfl, rfl⟩)
                  go_ret
                  exact ⟨ret_int (by rw [HF.out, HN.out]; rfl), rfl⟩
                · have hEp : (0 : Int) < E := by omega
                  have HN2 : Hid (tailv n ((codes s).drop n) = n + 2 + E) := by rw [HN.out]; exact if_neg hE0
                  clear hE0 HN
                  go_wp2_with (go_at_call 15; refine (HC.out _).mono ?_; rintro e w' ⟨rfl, rfl⟩)
                  go_ret
                  exact ⟨ret_int (by rw [HF.out, HN2.out]; push_cast; omega), rfl⟩
            · have HG : Hid (¬ (s[n + 1].toNat = 43 ∨ s[n + 1].toNat = 45)) := by show ¬ (_ ∨ _); omega
              obtain ⟨E, HE⟩ : ∃ E, Hid (E = dl ((codes s).drop (n + 1))) := ⟨_, rfl⟩
              have HN : Hid (tailv n ((codes s).drop n) = if E = 0 then n else n + 1 + E) := tail_plain s n hlt HZ.out hl1 HG.out E HE.out
              have hle := dl_cut_le s (n + 1) E HE.out (by omega)
              have HC := show Hid (∀ w, Calls Try.prog 15 #[.string (s.extract (n + 1) s.size)] w fun e w' => e = .returned (.int .i64 E) ∧ w = w') from fun w => digits_cut s w hs (n + 1) E HE.out
              have hc1 : ((s[n + 1].toNat : Int) == 43) = false := by simp; exact fun h => hg (.inl (by omega))
              have hc2 : ((s[n + 1].toNat : Int) == 45) = false := by simp; exact fun h => hg (.inr (by omega))
              clear hg
              by_cases hE0 : E = 0
              · subst hE0
                go_wp2_with (go_at_call 15; refine (HC.out _).mono ?_; rintro e w' ⟨rfl, rfl⟩)
                go_ret
                exact ⟨ret_int (by rw [HF.out, HN.out]; rfl), rfl⟩
              · have hEp : (0 : Int) < E := by omega
                have HN2 : Hid (tailv n ((codes s).drop n) = n + 1 + E) := by rw [HN.out]; exact if_neg hE0
                clear hE0 HN
                go_wp2_with (go_at_call 15; refine (HC.out _).mono ?_; rintro e w' ⟨rfl, rfl⟩)
                go_ret
                exact ⟨ret_int (by rw [HF.out, HN2.out]; push_cast; omega), rfl⟩
      · have HN : Hid (tailv n ((codes s).drop n) = n) := tail_no s n hlt (by omega)
        have hb1 : ((s[n].toNat : Int) == 101) = false := by simp; exact fun h => hz (.inl (by omega))
        have hb2 : ((s[n].toNat : Int) == 69) = false := by simp; exact fun h => hz (.inr (by omega))
        clear hz
        go_wp2
        go_ret
        exact ⟨ret_int (by rw [HF.out, HN.out]), rfl⟩
    · have HN : Hid (tailv n ((codes s).drop n) = n) := tail_end s n (by omega)
      have hd : decide ((n : Int) < s.size) = false := decide_eq_false (by omega)
      go_wp2
      go_ret
      exact ⟨ret_int (by rw [HF.out, HN.out]), rfl⟩

end Go.Proofs.Qxb6603100a
