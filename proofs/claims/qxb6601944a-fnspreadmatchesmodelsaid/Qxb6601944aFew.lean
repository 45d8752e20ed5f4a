import Derived.Test.Qxb6601944aSort
namespace Go.Proofs.Qxb6601944a
open Go.RowKit Go.WideShapes

theorem pv_at (f : Nat → Int) (n q : Nat) : pv f n q = f (at' f n q) := rfl

theorem pv_dom {f : Nat → Int} {n q : Nat} {k : Int} (hd : Dom f n k) (hq : q < n) : 0 ≤ pv f n q ∧ pv f n q < k := by
  rw [pv_at]
  exact ⟨hd.nn _ (at_lt hq), hd.lt _ (at_lt hq)⟩

def Post24 (f : Nat → Int) (n : Nat) (k : Int) (w : World) (e : Ending) (w' : World) : Prop := ∃ m : Nat, e = .returned (.int .i64 m) ∧ Fewest f n k m ∧ Below w.heap.size w w'

set_option maxHeartbeats 400000 in
theorem few24 (ao : Option Addr) (n c : Nat) (k : Int) (f : Nat → Int) (w : World) (hx : Reads w ao n f) (h1 : n ≤ 1048576) (hk : k ≤ 9223372036854775807) (hd : Dom f n k) :
    Calls Try.prog 24 #[.slice ao n c, .int .i64 k] w fun e w' => Post24 f n k w e w' := by
  have HX : Hid (Reads w ao n f) := hx
  have HD : Hid (Dom f n k) := hd
  have hk1 := hd.pos
  clear hx hd
  go_enter Try.func24, Try.ntmps24
  go_wp2_with fail
  refine (sort30 ao n c f w HX.out h1).mono ?_
  rintro e w1 ⟨rfl, hso⟩
  have HS : Hid (So w w1 n n f) := hso
  clear hso
  go_wp2
  go_loop [6, 7] (fun mv nv => ∃ (m : Nat) (s : Int), m ≤ n ∧ mv = .int .i64 m ∧ nv = .int .i64 s ∧ s ≤ k ∧ -k < s ∧ Hid (s = k - S f n m) ∧ Hid (∀ t, t < m → S f n t < k)) (fun mv _ => n - (intOf mv).toNat)
  case atStart => exact ⟨0, k, Nat.zero_le _, rfl, rfl, by omega, by omega, by rw [S_zero]; show k = k - 0; omega, fun _ h => absurd h (Nat.not_lt_zero _)⟩
  case round =>
    obtain ⟨m, s, hm, rfl, rfl, hs0, hs1, HE, HL⟩ := hrel
    by_cases hmn : m < n
    · by_cases hsp : 0 < s
      · obtain ⟨x, HXp, g1⟩ : ∃ x, Hid (x = pv f n m) ∧ w1.cell? ⟨w.heap.size, m, none⟩ = some (.int .i64 x) := by
          obtain ⟨D, hr, hD⟩ := HS.out.row
          exact ⟨D m, hD m hmn, hr.cell hmn⟩
        have hxb := pv_dom HD.out hmn
        rw [← HXp.out] at hxb
        obtain ⟨hx0, hx1⟩ := hxb
        go_wp2
        go_round
        case rel =>
          refine ⟨m + 1, s - x, by omega, by go_num, rfl, by omega, by omega, ?_, fun t ht => ?_⟩
          · have := HE.out; have := HXp.out; rw [S_succ f n m hmn]; show s - x = _; omega
          · by_cases e : t = m
            · subst e; have := HE.out; omega
            · exact HL.out t (by omega)
        case measure => simp [intOf]; omega
      · have hd0 : decide (0 < s) = false := decide_eq_false hsp
        go_wp2
        go_ret
        exact ⟨m, rfl, ⟨hm, HL.out, by have := HE.out; omega⟩, HS.out.below⟩
    · obtain rfl : m = n := by omega
      go_wp2
      go_ret
      exact ⟨m, rfl, ⟨hm, HL.out, by rw [S_all]; exact HD.out.sum⟩, HS.out.below⟩

end Go.Proofs.Qxb6601944a
