import Derived.Test.Qxb6600740aRows
import Derived.WalkKit
import Derived.WalkLawsBesides
import Derived.WalkSpells
import Derived.Lib.Strings
namespace Go.Proofs.Qxb6600740a
open Go.RowKit

/-- Byte i of a string, as a number. -/
def bt (s : ByteArray) (i : Nat) : Nat := (s.data.toList.getD i 0).toNat

theorem bt_eq (s : ByteArray) (i : Nat) (h : i < s.size) : bt s i = s[i].toNat := by
  have h' : i < s.data.toList.length := by rw [← Lib.size_eq]; exact h
  rw [bt, List.getD_eq_getElem?_getD, List.getElem?_eq_getElem h']; rfl

def alnum (c : Nat) : Prop := (97 ≤ c ∧ c ≤ 122) ∨ (65 ≤ c ∧ c ≤ 90) ∨ (48 ≤ c ∧ c ≤ 57)
def keyOK (i c : Nat) : Prop := alnum c ∨ (0 < i ∧ (c = 46 ∨ c = 95 ∨ c = 45))
def varOK (c : Nat) : Prop := alnum c ∨ c = 95 ∨ c = 45

/-- What a test on a string leaves. -/
def PostB (P : Prop) (w : World) (e : Ending) (w' : World) : Prop := ∃ b, e = .returned (.bool b) ∧ w = w' ∧ (b = true ↔ P)

theorem post_true {P : Prop} {w : World} (h : P) : PostB P w (.returned (.bool true)) w := ⟨true, rfl, rfl, fun _ => h, fun _ => rfl⟩
theorem post_false {P : Prop} {w : World} (h : ¬ P) : PostB P w (.returned (.bool false)) w := ⟨false, rfl, rfl, (by intro h; cases h), fun h' => absurd h' h⟩

def IsKey (s : ByteArray) : Prop := 1 ≤ s.size ∧ s.size ≤ 128 ∧ ∀ i, i < s.size → keyOK i (bt s i)
def IsVar (s : ByteArray) : Prop := 1 ≤ s.size ∧ s.size ≤ 64 ∧ ∀ i, i < s.size → varOK (bt s i)
def HasDot (s : ByteArray) : Prop := ∃ i, i < s.size ∧ bt s i = 46

theorem all_step {p : Nat → Prop} {k : Nat} (h : ∀ i, i < k → p i) (hk : p k) : ∀ i, i < k + 1 → p i := by
  intro i hi
  by_cases e : i = k
  · subst e; exact hk
  · exact h i (by omega)

set_option maxRecDepth 100000 in
set_option maxHeartbeats 4000000 in
theorem key7 (s : ByteArray) (w : World) (hs : s.size ≤ 1048576) : Calls Try.prog 7 #[.string s] w fun e w' => PostB (IsKey s) w e w' := by
  by_cases h0 : s.size = 0
  · have hb : ((s.size : Int) == 0) = true := beq_iff_eq.2 (by omega)
    have HN : Hid (¬ IsKey s) := fun h => by have := h.1; omega
    clear h0
    go_enter Try.func7, Try.ntmps7
    go_wp2
    go_ret
    exact post_false HN.out
  · have hb : ((s.size : Int) == 0) = false := beq_eq_false_iff_ne.2 (by omega)
    by_cases h128 : 128 < s.size
    · have HN : Hid (¬ IsKey s) := fun h => by have := h.2.1; omega
      clear h0
      go_enter Try.func7, Try.ntmps7
      go_wp2
      go_ret
      exact post_false HN.out
    · have hp : 1 ≤ s.size := by omega
      clear h0
      go_enter Try.func7, Try.ntmps7
      go_wp2
      go_loop [3] (fun i => ∃ k : Nat, k ≤ s.size ∧ i = .int .i64 k ∧ Hid (∀ i, i < k → keyOK i (bt s i))) (fun i => s.size - (intOf i).toNat)
      case atStart => exact ⟨0, Nat.zero_le _, rfl, fun _ h => absurd h (Nat.not_lt_zero _)⟩
      case round =>
        obtain ⟨k, hk, rfl, HA⟩ := hrel
        by_cases hlt : k < s.size
        · have HBT : Hid (bt s k = s[k].toNat) := bt_eq s k hlt
          by_cases r97 : (97 : Int) ≤ (s[k].toNat : Int) ∧ (s[k].toNat : Int) ≤ 122
          · obtain ⟨ra, rb⟩ := r97
            have HOK : Hid (keyOK k (bt s k)) := by rw [HBT.out]; show keyOK _ _; unfold keyOK alnum; omega
            go_wp2
            all_goals
              go_round
              case rel => exact ⟨k + 1, by omega, by go_num, all_step HA.out HOK.out⟩
              case measure => simp [intOf]; omega
          · skip
            by_cases r65 : (65 : Int) ≤ (s[k].toNat : Int) ∧ (s[k].toNat : Int) ≤ 90
            · obtain ⟨ra, rb⟩ := r65
              have HOK : Hid (keyOK k (bt s k)) := by rw [HBT.out]; show keyOK _ _; unfold keyOK alnum; omega
              go_wp2
              all_goals
                go_round
                case rel => exact ⟨k + 1, by omega, by go_num, all_step HA.out HOK.out⟩
                case measure => simp [intOf]; omega
            · skip
              by_cases r48 : (48 : Int) ≤ (s[k].toNat : Int) ∧ (s[k].toNat : Int) ≤ 57
              · obtain ⟨ra, rb⟩ := r48
                have HOK : Hid (keyOK k (bt s k)) := by rw [HBT.out]; show keyOK _ _; unfold keyOK alnum; omega
                go_wp2
                all_goals
                  go_round
                  case rel => exact ⟨k + 1, by omega, by go_num, all_step HA.out HOK.out⟩
                  case measure => simp [intOf]; omega
              · skip
                by_cases hk0 : k = 0
                · skip
                  have HNO : Hid (¬ IsKey s) := fun h => by
                    have hh := h.2.2 k hlt
                    rw [HBT.out] at hh
                    unfold keyOK alnum at hh
                    omega
                  subst hk0
                  go_wp2
                  all_goals
                    go_ret
                    exact post_false HNO.out
                · have hd : (0 : Int) < (k : Int) := by omega
                  by_cases e46 : (s[k].toNat : Int) = 46
                  · have hb46 : ((s[k].toNat : Int) == 46) = true := by simpa using e46
                    have hl46 : 46 ≤ (s[k].toNat : Int) := by omega
                    have hu46 : (s[k].toNat : Int) ≤ 46 := by omega
                    clear e46
                    have HOK : Hid (keyOK k (bt s k)) := by rw [HBT.out]; show keyOK _ _; unfold keyOK alnum; omega
                    go_wp2
                    all_goals
                      go_round
                      case rel => exact ⟨k + 1, by omega, by go_num, all_step HA.out HOK.out⟩
                      case measure => simp [intOf]; omega
                  · have hb46 : ((s[k].toNat : Int) == 46) = false := by simpa using e46
                    by_cases e95 : (s[k].toNat : Int) = 95
                    · have hb95 : ((s[k].toNat : Int) == 95) = true := by simpa using e95
                      have hl95 : 95 ≤ (s[k].toNat : Int) := by omega
                      have hu95 : (s[k].toNat : Int) ≤ 95 := by omega
                      clear e95
                      have HOK : Hid (keyOK k (bt s k)) := by rw [HBT.out]; show keyOK _ _; unfold keyOK alnum; omega
                      go_wp2
                      all_goals
                        go_round
                        case rel => exact ⟨k + 1, by omega, by go_num, all_step HA.out HOK.out⟩
                        case measure => simp [intOf]; omega
                    · have hb95 : ((s[k].toNat : Int) == 95) = false := by simpa using e95
                      by_cases e45 : (s[k].toNat : Int) = 45
                      · have hb45 : ((s[k].toNat : Int) == 45) = true := by simpa using e45
                        have hl45 : 45 ≤ (s[k].toNat : Int) := by omega
                        have hu45 : (s[k].toNat : Int) ≤ 45 := by omega
                        clear e45
                        have HOK : Hid (keyOK k (bt s k)) := by rw [HBT.out]; show keyOK _ _; unfold keyOK alnum; omega
                        go_wp2
                        all_goals
                          go_round
                          case rel => exact ⟨k + 1, by omega, by go_num, all_step HA.out HOK.out⟩
                          case measure => simp [intOf]; omega
                      · have hb45 : ((s[k].toNat : Int) == 45) = false := by simpa using e45
                        have HNO : Hid (¬ IsKey s) := fun h => by
                          have hh := h.2.2 k hlt
                          rw [HBT.out] at hh
                          unfold keyOK alnum at hh
                          omega
                        clear hk0
                        go_wp2
                        all_goals
                          go_ret
                          exact post_false HNO.out
        · go_wp2
          go_ret
          exact post_true ⟨hp, by omega, fun i hi => HA.out i (by omega)⟩

set_option maxRecDepth 100000 in
set_option maxHeartbeats 4000000 in
theorem var12 (s : ByteArray) (w : World) (hs : s.size ≤ 1048576) : Calls Try.prog 12 #[.string s] w fun e w' => PostB (IsVar s) w e w' := by
  by_cases h0 : s.size = 0
  · have hb : ((s.size : Int) == 0) = true := beq_iff_eq.2 (by omega)
    have HN : Hid (¬ IsVar s) := fun h => by have := h.1; omega
    clear h0
    go_enter Try.func12, Try.ntmps12
    go_wp2
    go_ret
    exact post_false HN.out
  · have hb : ((s.size : Int) == 0) = false := beq_eq_false_iff_ne.2 (by omega)
    by_cases h64 : 64 < s.size
    · have HN : Hid (¬ IsVar s) := fun h => by have := h.2.1; omega
      clear h0
      go_enter Try.func12, Try.ntmps12
      go_wp2
      go_ret
      exact post_false HN.out
    · have hp : 1 ≤ s.size := by omega
      clear h0
      go_enter Try.func12, Try.ntmps12
      go_wp2
      go_loop [3] (fun i => ∃ k : Nat, k ≤ s.size ∧ i = .int .i64 k ∧ Hid (∀ i, i < k → varOK (bt s i))) (fun i => s.size - (intOf i).toNat)
      case atStart => exact ⟨0, Nat.zero_le _, rfl, fun _ h => absurd h (Nat.not_lt_zero _)⟩
      case round =>
        obtain ⟨k, hk, rfl, HA⟩ := hrel
        by_cases hlt : k < s.size
        · have HBT : Hid (bt s k = s[k].toNat) := bt_eq s k hlt
          by_cases r97 : (97 : Int) ≤ (s[k].toNat : Int) ∧ (s[k].toNat : Int) ≤ 122
          · obtain ⟨ra, rb⟩ := r97
            have HOK : Hid (varOK (bt s k)) := by rw [HBT.out]; show varOK _; unfold varOK alnum; omega
            go_wp2
            all_goals
              go_round
              case rel => exact ⟨k + 1, by omega, by go_num, all_step HA.out HOK.out⟩
              case measure => simp [intOf]; omega
          · skip
            by_cases r65 : (65 : Int) ≤ (s[k].toNat : Int) ∧ (s[k].toNat : Int) ≤ 90
            · obtain ⟨ra, rb⟩ := r65
              have HOK : Hid (varOK (bt s k)) := by rw [HBT.out]; show varOK _; unfold varOK alnum; omega
              go_wp2
              all_goals
                go_round
                case rel => exact ⟨k + 1, by omega, by go_num, all_step HA.out HOK.out⟩
                case measure => simp [intOf]; omega
            · skip
              by_cases r48 : (48 : Int) ≤ (s[k].toNat : Int) ∧ (s[k].toNat : Int) ≤ 57
              · obtain ⟨ra, rb⟩ := r48
                have HOK : Hid (varOK (bt s k)) := by rw [HBT.out]; show varOK _; unfold varOK alnum; omega
                go_wp2
                all_goals
                  go_round
                  case rel => exact ⟨k + 1, by omega, by go_num, all_step HA.out HOK.out⟩
                  case measure => simp [intOf]; omega
              · skip
                by_cases e95 : (s[k].toNat : Int) = 95
                · have hb95 : ((s[k].toNat : Int) == 95) = true := by simpa using e95
                  have hl95 : 95 ≤ (s[k].toNat : Int) := by omega
                  have hu95 : (s[k].toNat : Int) ≤ 95 := by omega
                  clear e95
                  have HOK : Hid (varOK (bt s k)) := by rw [HBT.out]; show varOK _; unfold varOK alnum; omega
                  go_wp2
                  all_goals
                    go_round
                    case rel => exact ⟨k + 1, by omega, by go_num, all_step HA.out HOK.out⟩
                    case measure => simp [intOf]; omega
                · have hb95 : ((s[k].toNat : Int) == 95) = false := by simpa using e95
                  by_cases e45 : (s[k].toNat : Int) = 45
                  · have hb45 : ((s[k].toNat : Int) == 45) = true := by simpa using e45
                    have hl45 : 45 ≤ (s[k].toNat : Int) := by omega
                    have hu45 : (s[k].toNat : Int) ≤ 45 := by omega
                    clear e45
                    have HOK : Hid (varOK (bt s k)) := by rw [HBT.out]; show varOK _; unfold varOK alnum; omega
                    go_wp2
                    all_goals
                      go_round
                      case rel => exact ⟨k + 1, by omega, by go_num, all_step HA.out HOK.out⟩
                      case measure => simp [intOf]; omega
                  · have hb45 : ((s[k].toNat : Int) == 45) = false := by simpa using e45
                    have HNO : Hid (¬ IsVar s) := fun h => by
                      have hh := h.2.2 k hlt
                      rw [HBT.out] at hh
                      unfold varOK alnum at hh
                      omega
                    go_wp2
                    all_goals
                      go_ret
                      exact post_false HNO.out
        · go_wp2
          go_ret
          exact post_true ⟨hp, by omega, fun i hi => HA.out i (by omega)⟩

theorem zz9 (s : ByteArray) (w : World) (hs : s.size ≤ 1048576) : Calls Try.prog 9 #[.string s] w fun e w' => PostB (IsVar s) w e w' := by
  have H := show Hid (Calls Try.prog 12 #[.string s] w fun e w' => PostB (IsVar s) w e w') from var12 s w hs
  go_enter Try.func9, Try.ntmps9
  go_wp2_with fail
  refine H.out.mono ?_
  rintro e w' ⟨b, rfl, rfl, hb⟩
  have HB : Hid (b = true ↔ IsVar s) := hb
  clear hb
  go_wp2
  go_ret
  exact ⟨b, rfl, rfl, HB.out⟩

set_option maxHeartbeats 400000 in
theorem dot11 (s : ByteArray) (w : World) (hs : s.size ≤ 1048576) : Calls Try.prog 11 #[.string s] w fun e w' => PostB (HasDot s) w e w' := by
  go_enter Try.func11, Try.ntmps11
  go_wp2
  go_loop [3] (fun i => ∃ k : Nat, k ≤ s.size ∧ i = .int .i64 k ∧ Hid (∀ i, i < k → bt s i ≠ 46)) (fun i => s.size - (intOf i).toNat)
  case atStart => exact ⟨0, Nat.zero_le _, rfl, fun _ h => absurd h (Nat.not_lt_zero _)⟩
  case round =>
    obtain ⟨k, hk, rfl, HA⟩ := hrel
    by_cases hlt : k < s.size
    · have HBT : Hid (bt s k = s[k].toNat) := bt_eq s k hlt
      by_cases e46 : (s[k].toNat : Int) = 46
      · have hb : ((s[k].toNat : Int) == 46) = true := by simpa using e46
        have HD : Hid (HasDot s) := ⟨k, hlt, by rw [HBT.out]; omega⟩
        clear e46
        go_wp2
        go_ret
        exact post_true HD.out
      · have hb : ((s[k].toNat : Int) == 46) = false := by simpa using e46
        have HD : Hid (bt s k ≠ 46) := by rw [HBT.out]; show _ ≠ _; omega
        clear e46
        go_wp2
        go_round
        case rel => exact ⟨k + 1, by omega, by go_num, all_step HA.out HD.out⟩
        case measure => simp [intOf]; omega
    · have HD : Hid (¬ HasDot s) := fun ⟨i, hi, h⟩ => HA.out i (by omega) h
      go_wp2
      go_ret
      exact post_false HD.out

end Go.Proofs.Qxb6600740a
