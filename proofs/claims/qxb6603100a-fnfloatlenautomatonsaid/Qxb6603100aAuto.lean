import Derived.Test.Qxb6603100aBytes
namespace Go.Proofs.Qxb6603100a
open Go.RowKit

theorem dig_not {c : Nat} (h : ¬ (48 ≤ c ∧ c ≤ 57)) : ¬ dig c = true := by rw [dig_no h]; decide

theorem step0 (c : Nat) : step 0 c = if 49 ≤ c ∧ c ≤ 57 then some 1 else if c = 48 then some 2 else if c = 46 then some 3 else none := rfl
theorem step1 (c : Nat) : step 1 c = if dig c then some 1 else if c = 46 then some 4 else none := rfl
theorem step2 (c : Nat) : step 2 c = if c = 46 then some 3 else none := rfl
theorem step3 (c : Nat) : step 3 c = if dig c then some 5 else none := rfl
theorem step4 (c : Nat) : step 4 c = if dig c then some 4 else if c = 101 ∨ c = 69 then some 6 else none := rfl
theorem step5 (c : Nat) : step 5 c = if dig c then some 5 else if c = 101 ∨ c = 69 then some 6 else none := rfl
theorem step6 (c : Nat) : step 6 c = if c = 43 ∨ c = 45 then some 7 else if dig c then some 8 else none := rfl
theorem step7 (c : Nat) : step 7 c = if dig c then some 8 else none := rfl
theorem step8 (c : Nat) : step 8 c = if dig c then some 8 else none := rfl

theorem auto_next {s : ByteArray} {k st st' last : Nat} (hk : k < s.size) (h : step st s[k].toNat = some st') (H : auto 0 0 0 (codes s) = auto st last k ((codes s).drop k)) :
    auto 0 0 0 (codes s) = auto st' (if acc st' then k + 1 else last) (k + 1) ((codes s).drop (k + 1)) := by
  rw [H, codes_drop s k hk, auto_go _ _ _ h]

theorem auto_end {s : ByteArray} {k st last : Nat} (hk : k < s.size) (h : step st s[k].toNat = none) (H : auto 0 0 0 (codes s) = auto st last k ((codes s).drop k)) : auto 0 0 0 (codes s) = last := by
  rw [H, codes_drop s k hk, auto_stop _ _ _ h]

set_option maxRecDepth 100000 in
set_option maxHeartbeats 8000000 in
theorem auto11 (s : ByteArray) (w : World) (hs : s.size ≤ 1048576) :
    Calls Try.prog 11 #[.string s] w fun e w' => e = .returned (.int .i64 (auto 0 0 0 (codes s))) ∧ w = w' := by
  go_enter Try.func11, Try.ntmps11
  go_wp2
  go_loop [3, 4, 5] (fun a b i => ∃ st last k : Nat, k ≤ s.size ∧ st ≤ 8 ∧ a = .int .i64 st ∧ b = .int .i64 last ∧ i = .int .i64 k ∧ last ≤ k ∧ Hid (auto 0 0 0 (codes s) = auto st last k ((codes s).drop k))) (fun _ _ i => s.size - (intOf i).toNat)
  case atStart => exact ⟨0, 0, 0, Nat.zero_le _, by omega, rfl, rfl, rfl, Nat.le_refl _, rfl⟩
  case round =>
    obtain ⟨st, last, k, hk, hst, rfl, rfl, rfl, hlk, HA⟩ := hrel
    by_cases hlt : k < s.size
    · clear hk
      match st, hst with
      | 0, _ =>
        by_cases hr : (49 : Int) ≤ (s[k].toNat : Int) ∧ (s[k].toNat : Int) ≤ 57
        · obtain ⟨hr0, hr1⟩ := hr
          have HN : Hid (auto 0 0 0 (codes s) = auto 1 last (k + 1) ((codes s).drop (k + 1))) := auto_next hlt (st' := 1) ((step0 _).trans (if_pos ⟨by omega, by omega⟩)) HA.out
          go_wp2
          all_goals
            go_round
            case rel => exact ⟨1, last, k + 1, by omega, by omega, rfl, rfl, by go_num, by omega, HN.out⟩
            case measure => simp [intOf]; omega
        ·
          by_cases he48 : (s[k].toNat : Int) = 48
          · have HN : Hid (auto 0 0 0 (codes s) = auto 2 last (k + 1) ((codes s).drop (k + 1))) := auto_next hlt (st' := 2) ((step0 _).trans ((if_neg (by omega)).trans (if_pos (by omega)))) HA.out
            have hb48 : ((s[k].toNat : Int) == 48) = true := by simpa using he48
            have hl48 : 48 ≤ (s[k].toNat : Int) := by omega
            have hu48 : (s[k].toNat : Int) ≤ 48 := by omega
            clear he48
            go_wp2
            all_goals
              go_round
              case rel => exact ⟨2, last, k + 1, by omega, by omega, rfl, rfl, by go_num, by omega, HN.out⟩
              case measure => simp [intOf]; omega
          · have hb48 : ((s[k].toNat : Int) == 48) = false := by simpa using he48
            by_cases he46 : (s[k].toNat : Int) = 46
            · have HN : Hid (auto 0 0 0 (codes s) = auto 3 last (k + 1) ((codes s).drop (k + 1))) := auto_next hlt (st' := 3) ((step0 _).trans ((if_neg (by omega)).trans ((if_neg (by omega)).trans (if_pos (by omega))))) HA.out
              have hb46 : ((s[k].toNat : Int) == 46) = true := by simpa using he46
              have hl46 : 46 ≤ (s[k].toNat : Int) := by omega
              have hu46 : (s[k].toNat : Int) ≤ 46 := by omega
              clear he46
              go_wp2
              all_goals
                go_round
                case rel => exact ⟨3, last, k + 1, by omega, by omega, rfl, rfl, by go_num, by omega, HN.out⟩
                case measure => simp [intOf]; omega
            · have hb46 : ((s[k].toNat : Int) == 46) = false := by simpa using he46
              have HN : Hid (auto 0 0 0 (codes s) = last) := auto_end hlt ((step0 _).trans ((if_neg (by omega)).trans ((if_neg (by omega)).trans (if_neg (by omega))))) HA.out
              go_wp2
              all_goals
                go_ret
                exact ⟨ret_int (by rw [HN.out]), rfl⟩
      | 1, _ =>
        by_cases hr : (48 : Int) ≤ (s[k].toNat : Int) ∧ (s[k].toNat : Int) ≤ 57
        · obtain ⟨hr0, hr1⟩ := hr
          have HN : Hid (auto 0 0 0 (codes s) = auto 1 last (k + 1) ((codes s).drop (k + 1))) := auto_next hlt (st' := 1) ((step1 _).trans (if_pos (dig_yes (by omega) (by omega)))) HA.out
          go_wp2
          all_goals
            go_round
            case rel => exact ⟨1, last, k + 1, by omega, by omega, rfl, rfl, by go_num, by omega, HN.out⟩
            case measure => simp [intOf]; omega
        ·
          by_cases he46 : (s[k].toNat : Int) = 46
          · have HN : Hid (auto 0 0 0 (codes s) = auto 4 (k + 1) (k + 1) ((codes s).drop (k + 1))) := auto_next hlt (st' := 4) ((step1 _).trans ((if_neg (dig_not (by omega))).trans (if_pos (by omega)))) HA.out
            have hb46 : ((s[k].toNat : Int) == 46) = true := by simpa using he46
            have hl46 : 46 ≤ (s[k].toNat : Int) := by omega
            have hu46 : (s[k].toNat : Int) ≤ 46 := by omega
            clear he46
            go_wp2
            all_goals
              go_round
              case rel => exact ⟨4, k + 1, k + 1, by omega, by omega, rfl, by go_num, by go_num, by omega, HN.out⟩
              case measure => simp [intOf]; omega
          · have hb46 : ((s[k].toNat : Int) == 46) = false := by simpa using he46
            have HN : Hid (auto 0 0 0 (codes s) = last) := auto_end hlt ((step1 _).trans ((if_neg (dig_not (by omega))).trans (if_neg (by omega)))) HA.out
            go_wp2
            all_goals
              go_ret
              exact ⟨ret_int (by rw [HN.out]), rfl⟩
      | 2, _ =>
        by_cases he46 : (s[k].toNat : Int) = 46
        · have HN : Hid (auto 0 0 0 (codes s) = auto 3 last (k + 1) ((codes s).drop (k + 1))) := auto_next hlt (st' := 3) ((step2 _).trans (if_pos (by omega))) HA.out
          have hb46 : ((s[k].toNat : Int) == 46) = true := by simpa using he46
          have hl46 : 46 ≤ (s[k].toNat : Int) := by omega
          have hu46 : (s[k].toNat : Int) ≤ 46 := by omega
          clear he46
          go_wp2
          all_goals
            go_round
            case rel => exact ⟨3, last, k + 1, by omega, by omega, rfl, rfl, by go_num, by omega, HN.out⟩
            case measure => simp [intOf]; omega
        · have hb46 : ((s[k].toNat : Int) == 46) = false := by simpa using he46
          have HN : Hid (auto 0 0 0 (codes s) = last) := auto_end hlt ((step2 _).trans (if_neg (by omega))) HA.out
          go_wp2
          all_goals
            go_ret
            exact ⟨ret_int (by rw [HN.out]), rfl⟩
      | 3, _ =>
        by_cases hr : (48 : Int) ≤ (s[k].toNat : Int) ∧ (s[k].toNat : Int) ≤ 57
        · obtain ⟨hr0, hr1⟩ := hr
          have HN : Hid (auto 0 0 0 (codes s) = auto 5 (k + 1) (k + 1) ((codes s).drop (k + 1))) := auto_next hlt (st' := 5) ((step3 _).trans (if_pos (dig_yes (by omega) (by omega)))) HA.out
          go_wp2
          all_goals
            go_round
            case rel => exact ⟨5, k + 1, k + 1, by omega, by omega, rfl, by go_num, by go_num, by omega, HN.out⟩
            case measure => simp [intOf]; omega
        ·
          have HN : Hid (auto 0 0 0 (codes s) = last) := auto_end hlt ((step3 _).trans (if_neg (dig_not (by omega)))) HA.out
          go_wp2
          all_goals
            go_ret
            exact ⟨ret_int (by rw [HN.out]), rfl⟩
      | 4, _ =>
        by_cases hr : (48 : Int) ≤ (s[k].toNat : Int) ∧ (s[k].toNat : Int) ≤ 57
        · obtain ⟨hr0, hr1⟩ := hr
          have HN : Hid (auto 0 0 0 (codes s) = auto 4 (k + 1) (k + 1) ((codes s).drop (k + 1))) := auto_next hlt (st' := 4) ((step4 _).trans (if_pos (dig_yes (by omega) (by omega)))) HA.out
          go_wp2
          all_goals
            go_round
            case rel => exact ⟨4, k + 1, k + 1, by omega, by omega, rfl, by go_num, by go_num, by omega, HN.out⟩
            case measure => simp [intOf]; omega
        ·
          by_cases he101 : (s[k].toNat : Int) = 101
          · have HN : Hid (auto 0 0 0 (codes s) = auto 6 last (k + 1) ((codes s).drop (k + 1))) := auto_next hlt (st' := 6) ((step4 _).trans ((if_neg (dig_not (by omega))).trans (if_pos (by omega)))) HA.out
            have hb101 : ((s[k].toNat : Int) == 101) = true := by simpa using he101
            have hl101 : 101 ≤ (s[k].toNat : Int) := by omega
            have hu101 : (s[k].toNat : Int) ≤ 101 := by omega
            clear he101
            go_wp2
            all_goals
              go_round
              case rel => exact ⟨6, last, k + 1, by omega, by omega, rfl, rfl, by go_num, by omega, HN.out⟩
              case measure => simp [intOf]; omega
          · have hb101 : ((s[k].toNat : Int) == 101) = false := by simpa using he101
            by_cases he69 : (s[k].toNat : Int) = 69
            · have HN : Hid (auto 0 0 0 (codes s) = auto 6 last (k + 1) ((codes s).drop (k + 1))) := auto_next hlt (st' := 6) ((step4 _).trans ((if_neg (dig_not (by omega))).trans (if_pos (by omega)))) HA.out
              have hb69 : ((s[k].toNat : Int) == 69) = true := by simpa using he69
              have hl69 : 69 ≤ (s[k].toNat : Int) := by omega
              have hu69 : (s[k].toNat : Int) ≤ 69 := by omega
              clear he69
              go_wp2
              all_goals
                go_round
                case rel => exact ⟨6, last, k + 1, by omega, by omega, rfl, rfl, by go_num, by omega, HN.out⟩
                case measure => simp [intOf]; omega
            · have hb69 : ((s[k].toNat : Int) == 69) = false := by simpa using he69
              have HN : Hid (auto 0 0 0 (codes s) = last) := auto_end hlt ((step4 _).trans ((if_neg (dig_not (by omega))).trans (if_neg (by omega)))) HA.out
              go_wp2
              all_goals
                go_ret
                exact ⟨ret_int (by rw [HN.out]), rfl⟩
      | 5, _ =>
        by_cases hr : (48 : Int) ≤ (s[k].toNat : Int) ∧ (s[k].toNat : Int) ≤ 57
        · obtain ⟨hr0, hr1⟩ := hr
          have HN : Hid (auto 0 0 0 (codes s) = auto 5 (k + 1) (k + 1) ((codes s).drop (k + 1))) := auto_next hlt (st' := 5) ((step5 _).trans (if_pos (dig_yes (by omega) (by omega)))) HA.out
          go_wp2
          all_goals
            go_round
            case rel => exact ⟨5, k + 1, k + 1, by omega, by omega, rfl, by go_num, by go_num, by omega, HN.out⟩
            case measure => simp [intOf]; omega
        ·
          by_cases he101 : (s[k].toNat : Int) = 101
          · have HN : Hid (auto 0 0 0 (codes s) = auto 6 last (k + 1) ((codes s).drop (k + 1))) := auto_next hlt (st' := 6) ((step5 _).trans ((if_neg (dig_not (by omega))).trans (if_pos (by omega)))) HA.out
            have hb101 : ((s[k].toNat : Int) == 101) = true := by simpa using he101
            have hl101 : 101 ≤ (s[k].toNat : Int) := by omega
            have hu101 : (s[k].toNat : Int) ≤ 101 := by omega
            clear he101
            go_wp2
            all_goals
              go_round
              case rel => exact ⟨6, last, k + 1, by omega, by omega, rfl, rfl, by go_num, by omega, HN.out⟩
              case measure => simp [intOf]; omega
          · have hb101 : ((s[k].toNat : Int) == 101) = false := by simpa using he101
            by_cases he69 : (s[k].toNat : Int) = 69
            · have HN : Hid (auto 0 0 0 (codes s) = auto 6 last (k + 1) ((codes s).drop (k + 1))) := auto_next hlt (st' := 6) ((step5 _).trans ((if_neg (dig_not (by omega))).trans (if_pos (by omega)))) HA.out
              have hb69 : ((s[k].toNat : Int) == 69) = true := by simpa using he69
              have hl69 : 69 ≤ (s[k].toNat : Int) := by omega
              have hu69 : (s[k].toNat : Int) ≤ 69 := by omega
              clear he69
              go_wp2
              all_goals
                go_round
                case rel => exact ⟨6, last, k + 1, by omega, by omega, rfl, rfl, by go_num, by omega, HN.out⟩
                case measure => simp [intOf]; omega
            · have hb69 : ((s[k].toNat : Int) == 69) = false := by simpa using he69
              have HN : Hid (auto 0 0 0 (codes s) = last) := auto_end hlt ((step5 _).trans ((if_neg (dig_not (by omega))).trans (if_neg (by omega)))) HA.out
              go_wp2
              all_goals
                go_ret
                exact ⟨ret_int (by rw [HN.out]), rfl⟩
      | 6, _ =>
        by_cases he43 : (s[k].toNat : Int) = 43
        · have HN : Hid (auto 0 0 0 (codes s) = auto 7 last (k + 1) ((codes s).drop (k + 1))) := auto_next hlt (st' := 7) ((step6 _).trans (if_pos (by omega))) HA.out
          have hb43 : ((s[k].toNat : Int) == 43) = true := by simpa using he43
          have hl43 : 43 ≤ (s[k].toNat : Int) := by omega
          have hu43 : (s[k].toNat : Int) ≤ 43 := by omega
          clear he43
          go_wp2
          all_goals
            go_round
            case rel => exact ⟨7, last, k + 1, by omega, by omega, rfl, rfl, by go_num, by omega, HN.out⟩
            case measure => simp [intOf]; omega
        · have hb43 : ((s[k].toNat : Int) == 43) = false := by simpa using he43
          by_cases he45 : (s[k].toNat : Int) = 45
          · have HN : Hid (auto 0 0 0 (codes s) = auto 7 last (k + 1) ((codes s).drop (k + 1))) := auto_next hlt (st' := 7) ((step6 _).trans (if_pos (by omega))) HA.out
            have hb45 : ((s[k].toNat : Int) == 45) = true := by simpa using he45
            have hl45 : 45 ≤ (s[k].toNat : Int) := by omega
            have hu45 : (s[k].toNat : Int) ≤ 45 := by omega
            clear he45
            go_wp2
            all_goals
              go_round
              case rel => exact ⟨7, last, k + 1, by omega, by omega, rfl, rfl, by go_num, by omega, HN.out⟩
              case measure => simp [intOf]; omega
          · have hb45 : ((s[k].toNat : Int) == 45) = false := by simpa using he45
            by_cases hr : (48 : Int) ≤ (s[k].toNat : Int) ∧ (s[k].toNat : Int) ≤ 57
            · obtain ⟨hr0, hr1⟩ := hr
              have HN : Hid (auto 0 0 0 (codes s) = auto 8 (k + 1) (k + 1) ((codes s).drop (k + 1))) := auto_next hlt (st' := 8) ((step6 _).trans ((if_neg (by omega)).trans (if_pos (dig_yes (by omega) (by omega))))) HA.out
              go_wp2
              all_goals
                go_round
                case rel => exact ⟨8, k + 1, k + 1, by omega, by omega, rfl, by go_num, by go_num, by omega, HN.out⟩
                case measure => simp [intOf]; omega
            ·
              have HN : Hid (auto 0 0 0 (codes s) = last) := auto_end hlt ((step6 _).trans ((if_neg (by omega)).trans (if_neg (dig_not (by omega))))) HA.out
              go_wp2
              all_goals
                go_ret
                exact ⟨ret_int (by rw [HN.out]), rfl⟩
      | 7, _ =>
        by_cases hr : (48 : Int) ≤ (s[k].toNat : Int) ∧ (s[k].toNat : Int) ≤ 57
        · obtain ⟨hr0, hr1⟩ := hr
          have HN : Hid (auto 0 0 0 (codes s) = auto 8 (k + 1) (k + 1) ((codes s).drop (k + 1))) := auto_next hlt (st' := 8) ((step7 _).trans (if_pos (dig_yes (by omega) (by omega)))) HA.out
          go_wp2
          all_goals
            go_round
            case rel => exact ⟨8, k + 1, k + 1, by omega, by omega, rfl, by go_num, by go_num, by omega, HN.out⟩
            case measure => simp [intOf]; omega
        ·
          have HN : Hid (auto 0 0 0 (codes s) = last) := auto_end hlt ((step7 _).trans (if_neg (dig_not (by omega)))) HA.out
          go_wp2
          all_goals
            go_ret
            exact ⟨ret_int (by rw [HN.out]), rfl⟩
      | 8, _ =>
        by_cases hr : (48 : Int) ≤ (s[k].toNat : Int) ∧ (s[k].toNat : Int) ≤ 57
        · obtain ⟨hr0, hr1⟩ := hr
          have HN : Hid (auto 0 0 0 (codes s) = auto 8 (k + 1) (k + 1) ((codes s).drop (k + 1))) := auto_next hlt (st' := 8) ((step8 _).trans (if_pos (dig_yes (by omega) (by omega)))) HA.out
          go_wp2
          all_goals
            go_round
            case rel => exact ⟨8, k + 1, k + 1, by omega, by omega, rfl, by go_num, by go_num, by omega, HN.out⟩
            case measure => simp [intOf]; omega
        ·
          have HN : Hid (auto 0 0 0 (codes s) = last) := auto_end hlt ((step8 _).trans (if_neg (dig_not (by omega)))) HA.out
          go_wp2
          all_goals
            go_ret
            exact ⟨ret_int (by rw [HN.out]), rfl⟩
    · have HN : Hid (auto 0 0 0 (codes s) = last) := by rw [HA.out, List.drop_eq_nil_of_le (by rw [codes_length]; omega)]; rfl
      go_wp2
      go_ret
      exact ⟨ret_int (by rw [HN.out]), rfl⟩

end Go.Proofs.Qxb6603100a
