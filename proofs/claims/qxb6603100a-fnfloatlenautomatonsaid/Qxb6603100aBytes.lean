import Derived.Test.Qxb6603100aRows
import Derived.Test.Qxb6603100aPlain
import Derived.WalkKit
import Derived.WalkLawsBesides
import Derived.WalkSpells
import Derived.Lib.Strings
import Derived.Deep.LoopGhost
import Derived.Deep.DeepCutAuto
import Derived.Deep.Light
namespace Go.Proofs.Qxb6603100a
open Go.RowKit

/-- A string's bytes, as numbers. -/
def codes (s : ByteArray) : List Nat := s.data.toList.map UInt8.toNat

theorem codes_length (s : ByteArray) : (codes s).length = s.size := by rw [codes, List.length_map, ← Lib.size_eq]

theorem codes_getElem (s : ByteArray) (k : Nat) (h : k < s.size) : (codes s)[k]'(by rw [codes_length]; exact h) = s[k].toNat := by
  simp [codes]; rfl

theorem codes_drop (s : ByteArray) (k : Nat) (h : k < s.size) : (codes s).drop k = s[k].toNat :: (codes s).drop (k + 1) := by
  rw [List.drop_eq_getElem_cons (by rw [codes_length]; exact h), codes_getElem]

theorem codes_extract (s : ByteArray) (k : Nat) : codes (s.extract k s.size) = (codes s).drop k := by
  unfold codes
  rw [Lib.extract_data, List.take_of_length_le (by rw [List.length_drop, ← Lib.size_eq]; exact Nat.le_refl _), List.map_drop]

theorem ret_int {k : IntKind} {a b : Int} (h : a = b) : Ending.returned (.int k a) = .returned (.int k b) := by rw [h]

set_option maxHeartbeats 400000 in
theorem digits15 (s : ByteArray) (w : World) (hs : s.size ≤ 1048576) :
    Calls Try.prog 15 #[.string s] w fun e w' => e = .returned (.int .i64 (dl (codes s))) ∧ w = w' := by
  go_enter Try.func15, Try.ntmps15
  go_wp2
  go_loop [3] (fun n => ∃ k : Nat, k ≤ s.size ∧ n = .int .i64 k ∧ Hid (dl (codes s) = k + dl ((codes s).drop k))) (fun n => s.size - (intOf n).toNat)
  case atStart => exact ⟨0, Nat.zero_le _, rfl, by show _ = _; simp⟩
  case round =>
    obtain ⟨k, hk, rfl, HK⟩ := hrel
    by_cases hlt : k < s.size
    · have HD : Hid ((codes s).drop k = s[k].toNat :: (codes s).drop (k + 1)) := codes_drop s k hlt
      go_wp2
      · have h0 : 48 ≤ (s[k].toNat : Int) := by assumption
        have h1 : (s[k].toNat : Int) ≤ 57 := by assumption
        go_round
        case rel => exact ⟨k + 1, by omega, by go_num, by rw [HK.out, HD.out]; show _ = _; simp only [dl, dig_yes (c := s[k].toNat) (by omega) (by omega), if_true]; omega⟩
        case measure => simp [intOf]; omega
      · have h1 : 57 < (s[k].toNat : Int) := by assumption
        go_ret
        exact ⟨ret_int (by rw [HK.out, HD.out]; simp only [dl, dig_no (c := s[k].toNat) (by omega)]; simp), rfl⟩
      · have h1 : (s[k].toNat : Int) < 48 := by assumption
        go_ret
        exact ⟨ret_int (by rw [HK.out, HD.out]; simp only [dl, dig_no (c := s[k].toNat) (by omega)]; simp), rfl⟩
    · go_wp2
      go_ret
      exact ⟨ret_int (by rw [HK.out, List.drop_eq_nil_of_le (by rw [codes_length]; omega)]; simp [dl]), rfl⟩

end Go.Proofs.Qxb6603100a
