import Derived.Test.Qxb6601558aClone
namespace Go.Proofs.Qxb6601558a
open Go.RowKit Go.WideShapes

/-- What one frame does to the counter of the type j. -/
def bump (j : Int) (f : List Int) (a : Int) : Int := if f.head? = some j then IntKind.u64.wrap (a + 1) else a

theorem ret_three {a b c a' b' c' : Int} (h1 : a = a') (h2 : b = b') (h3 : c = c') : Ending.returned (.tuple #[.int .u64 a, .int .u64 b, .int .u64 c]) = .returned (.tuple #[.int .u64 a', .int .u64 b', .int .u64 c']) := by rw [h1, h2, h3]

theorem bump_yes (j : Int) (f : List Int) (a z : Int) (hz : z = f.getD 0 0) (hf : 0 < f.length) (h : (z == j) = true) : IntKind.u64.wrap (a + 1) = bump j f a := by
  match f, hf with
  | x :: t, _ =>
    simp at hz h
    subst hz
    subst h
    simp [bump]

theorem bump_no (j : Int) (f : List Int) (a z : Int) (hz : z = f.getD 0 0) (hf : 0 < f.length) (h : (z == j) = false) : a = bump j f a := by
  match f, hf with
  | x :: t, _ =>
    simp at hz h
    subst hz
    simp [bump, h]

set_option maxHeartbeats 400000 in
theorem count13_pos (a b c : Int) (ao : Option Addr) (n cp : Nat) (f : List Int) (w : World) (hf : Reads .u8 w ao n f) (hn : 0 < n) :
    Calls Try.prog 13 #[.int .u64 a, .int .u64 b, .int .u64 c, .slice ao n cp] w fun e w' => e = .returned (.tuple #[.int .u64 (bump 2 f a), .int .u64 (bump 3 f b), .int .u64 (bump 4 f c)]) ∧ Below w.heap.size w w' := by
  have h0 : ((n : Int) == 0) = false := by simp; omega
  obtain ⟨bb, off, rfl, hc⟩ := hf.2 hn
  have g := hc 0 hn
  obtain ⟨z, HZ⟩ : ∃ z, Hid (z = f.getD 0 0) := ⟨_, rfl⟩
  have HF : Hid (0 < f.length) := by rw [hf.1]; exact hn
  rw [← HZ.out] at g
  have hlt : bb < w.heap.size := World.block_lt_of_cell? _ _ g
  rw [Nat.add_zero] at g
  have hcon : ∀ i j : Int, (z == i) = true → i ≠ j → (z == j) = false := fun i j h hn => by simp at h ⊢; omega
  have HC : Hid (∀ i j : Int, (z == i) = true → i ≠ j → (z == j) = false) := hcon
  clear hf hc hcon
  go_enter Try.func13, Try.ntmps13
  go_wp2
  all_goals go_end0
  all_goals go_wp2
  all_goals go_quiet (fail)
  all_goals go_wp2
  all_goals go_ret3
  · have h2 : (z == 2) = true := by assumption
    exact ⟨ret_three (bump_yes 2 f a z HZ.out HF.out h2) (bump_no 3 f b z HZ.out HF.out (HC.out 2 3 h2 (by omega))) (bump_no 4 f c z HZ.out HF.out (HC.out 2 4 h2 (by omega))), below_drewN ((Below.refl _ _).alloc (Nat.le_refl _) _) _⟩
  · have h2 : (z == 2) = false := by assumption
    have h3 : (z == 3) = true := by assumption
    exact ⟨ret_three (bump_no 2 f a z HZ.out HF.out h2) (bump_yes 3 f b z HZ.out HF.out h3) (bump_no 4 f c z HZ.out HF.out (HC.out 3 4 h3 (by omega))), below_drewN ((Below.refl _ _).alloc (Nat.le_refl _) _) _⟩
  · have h2 : (z == 2) = false := by assumption
    have h3 : (z == 3) = false := by assumption
    have h4 : (z == 4) = true := by assumption
    exact ⟨ret_three (bump_no 2 f a z HZ.out HF.out h2) (bump_no 3 f b z HZ.out HF.out h3) (bump_yes 4 f c z HZ.out HF.out h4), below_drewN ((Below.refl _ _).alloc (Nat.le_refl _) _) _⟩
  · have h2 : (z == 2) = false := by assumption
    have h3 : (z == 3) = false := by assumption
    have h4 : (z == 4) = false := by assumption
    exact ⟨ret_three (bump_no 2 f a z HZ.out HF.out h2) (bump_no 3 f b z HZ.out HF.out h3) (bump_no 4 f c z HZ.out HF.out h4), below_drewN ((Below.refl _ _).alloc (Nat.le_refl _) _) _⟩

theorem count13_zero (a b c : Int) (ao : Option Addr) (cp : Nat) (w : World) :
    Calls Try.prog 13 #[.int .u64 a, .int .u64 b, .int .u64 c, .slice ao 0 cp] w fun e w' => e = .returned (.tuple #[.int .u64 a, .int .u64 b, .int .u64 c]) ∧ Below w.heap.size w w' := by
  go_enter Try.func13, Try.ntmps13
  go_wp2
  refine bodyPost_ret (results_none rfl _ _ _) rfl ?_
  go_wp2
  go_quiet (fail)
  go_wp2
  go_ret3
  exact ⟨rfl, below_drewN ((Below.refl _ _).alloc (Nat.le_refl _) _) _⟩

theorem count13 (a b c : Int) (ao : Option Addr) (n cp : Nat) (f : List Int) (w : World) (hf : Reads .u8 w ao n f) :
    Calls Try.prog 13 #[.int .u64 a, .int .u64 b, .int .u64 c, .slice ao n cp] w fun e w' => e = .returned (.tuple #[.int .u64 (bump 2 f a), .int .u64 (bump 3 f b), .int .u64 (bump 4 f c)]) ∧ Below w.heap.size w w' := by
  rcases Nat.eq_zero_or_pos n with h | h
  · subst h
    have : f = [] := List.eq_nil_of_length_eq_zero hf.1
    subst this
    refine (count13_zero a b c ao cp w).mono ?_
    rintro e w' ⟨rfl, hb⟩
    exact ⟨ret_three (by simp [bump]) (by simp [bump]) (by simp [bump]), hb⟩
  · exact count13_pos a b c ao n cp f w hf h

end Go.Proofs.Qxb6601558a
