import Derived.Test.Qxb6601558aRows
import Derived.WalkKit
import Derived.Deep.QuietTactic
import Derived.BigQuiet
namespace Go.Proofs.Qxb6601558a
open Go.RowKit

/-- A slice value 'ao, len' whose elements read as the numbers zs. -/
def Reads (k : IntKind) (w : World) (ao : Option Addr) (len : Nat) (zs : List Int) : Prop :=
  zs.length = len ∧ (0 < len → ∃ b off, ao = some ⟨b, off, none⟩ ∧ ∀ i, i < len → w.cell? ⟨b, off + i, none⟩ = some (.int k (zs.getD i 0)))

theorem ret_bool {a b : Bool} (h : a = b) : Ending.returned (.bool a) = .returned (.bool b) := by rw [h]

theorem take_eq_snoc (x y : List Int) (k : Nat) (hx : k < x.length) (hy : k < y.length) (h : x.take k = y.take k) (e : x[k]?.getD 0 = y[k]?.getD 0) : x.take (k + 1) = y.take (k + 1) := by
  rw [List.take_succ_eq_append_getElem hx, List.take_succ_eq_append_getElem hy, h]
  simp [hx, hy] at e
  rw [e]

set_option maxHeartbeats 400000 in
theorem bytesEqual_any (a1 a2 : Option Addr) (n1 c1 n2 c2 : Nat) (x y : List Int) (w : World) (hx : Reads .u8 w a1 n1 x) (hy : Reads .u8 w a2 n2 y) (h1 : n1 ≤ 1099511627776) (h2 : n2 ≤ 1099511627776) :
    Calls Try.prog 9 #[.slice a1 n1 c1, .slice a2 n2 c2] w fun e w' => e = .returned (.bool (decide (x = y))) ∧ ∃ q, w' = w.drewN q := by
  obtain ⟨hlx, hx⟩ := hx
  obtain ⟨hly, hy⟩ := hy
  by_cases hn : n1 = n2
  · subst hn
    have HX : Hid (x.length = n1) := hlx
    have HY : Hid (y.length = n1) := hly
    have HCX : Hid (0 < n1 → ∃ b off, a1 = some ⟨b, off, none⟩ ∧ ∀ i, i < n1 → w.cell? ⟨b, off + i, none⟩ = some (.int .u8 (x.getD i 0))) := hx
    have HCY : Hid (0 < n1 → ∃ b off, a2 = some ⟨b, off, none⟩ ∧ ∀ i, i < n1 → w.cell? ⟨b, off + i, none⟩ = some (.int .u8 (y.getD i 0))) := hy
    clear hlx hly hx hy
    go_enter Try.func9, Try.ntmps9
    go_wp2
    go_loopw [5] (fun i wr => ∃ k q : Nat, k ≤ n1 ∧ i = .int .i64 k ∧ wr = w.drewN q ∧ Hid (x.take k = y.take k)) (fun i _ => n1 - (intOf i).toNat)
    case atStart => exact ⟨0, 0, Nat.zero_le _, rfl, rfl, rfl⟩
    case round =>
      obtain ⟨k, q, hk, rfl, rfl, HT⟩ := hrel
      by_cases hlt : k < n1
      · obtain ⟨b, off, rfl, hc⟩ := HCX.out (by omega)
        obtain ⟨b', off', rfl, hc'⟩ := HCY.out (by omega)
        have g1 := hc k hlt
        have g2 := hc' k hlt
        clear hc hc' 
        go_wp2
        go_quiet (fail)
        go_wp2
        · have hne : (x[k]?.getD 0 != y[k]?.getD 0) = true := by assumption
          go_ret
          exact ⟨ret_bool (by rw [decide_eq_false]; intro e; subst e; simp at hne), q + nq, by simp⟩
        · have heq : (x[k]?.getD 0 != y[k]?.getD 0) = false := by assumption
          go_roundw
          case rel => exact ⟨k + 1, _, by omega, by go_num, rfl, take_eq_snoc x y k (by have := HX.out; omega) (by have := HY.out; omega) HT.out (by simpa using heq)⟩
          case measure => simp [intOf]; omega
      · go_wp2
        go_ret
        refine ⟨ret_bool ?_, _, rfl⟩
        have hT := HT.out
        rw [List.take_of_length_le (by have := HX.out; omega), List.take_of_length_le (by have := HY.out; omega)] at hT
        exact (decide_eq_true hT).symm
  · have hne : ((n1 : Int) != (n2 : Int)) = true := by simp; omega
    have hxy : x ≠ y := fun e => hn (by rw [← hlx, ← hly, e])
    clear hx hy hlx hly
    go_enter Try.func9, Try.ntmps9
    go_wp2
    go_ret
    exact ⟨ret_bool (decide_eq_false hxy).symm, 0, rfl⟩

end Go.Proofs.Qxb6601558a
