import Derived.Test.Qxb6601558aClone
namespace Go.Proofs.Qxb6601558a
open Go.RowKit

theorem flip8_fin : ∀ z : Fin 256, flip8 (z.val : Int) = if (z.val : Int) < 128 then (z.val : Int) + 128 else (z.val : Int) - 128 := by decide +kernel

theorem flip8_eq (z : Int) (h0 : 0 ≤ z) (h1 : z ≤ 255) : flip8 z = if z < 128 then z + 128 else z - 128 := by
  have := flip8_fin ⟨z.toNat, by omega⟩
  simp only [Int.toNat_of_nonneg h0] at this
  exact this

theorem flip8_flip8 (z : Int) (h0 : 0 ≤ z) (h1 : z ≤ 255) : flip8 (flip8 z) = z := by
  rw [flip8_eq z h0 h1]
  split <;> rw [flip8_eq _ (by omega) (by omega)] <;> split <;> omega

theorem wrong_length (x : List Int) (h : 0 < x.length) : (wrong x).length = x.length := by
  rw [wrong, if_neg (by omega)]; simp

theorem wrong_wrong (x : List Int) (h : 0 < x.length) (hb : ∀ z ∈ x, 0 ≤ z ∧ z ≤ 255) : wrong (wrong x) = x := by
  have hl := wrong_length x h
  rw [wrong, if_neg (by omega), hl]
  have hz : x.getD (x.length - 1) 0 ∈ x := by
    rw [List.getD_eq_getElem?_getD, List.getElem?_eq_getElem (by omega)]; simp
  have e : (wrong x).getD (x.length - 1) 0 = flip8 (x.getD (x.length - 1) 0) := by
    rw [wrong, if_neg (by omega), List.getD_eq_getElem?_getD, List.getElem?_set_self (by omega)]; rfl
  rw [e, flip8_flip8 _ (hb _ hz).1 (hb _ hz).2, wrong, if_neg (by omega), List.set_set]
  have : x.getD (x.length - 1) 0 = x[x.length - 1]'(by omega) := by
    rw [List.getD_eq_getElem?_getD, List.getElem?_eq_getElem (by omega)]; rfl
  rw [this, List.set_getElem_self]

theorem wrong_wrong_nil : wrong (wrong []) = [0] := by decide +kernel

/-- Is every byte below 0x80? -/
def ascii (x : List Int) : Bool := x.all fun z => decide (z < 128)

theorem wrong_ne (x : List Int) (hb : ∀ z ∈ x, 0 ≤ z ∧ z ≤ 255) : wrong x ≠ x := by
  intro e
  by_cases h : x.length = 0
  · have : x = [] := List.eq_nil_of_length_eq_zero h
    subst this
    simp [wrong] at e
  · have hz : x.getD (x.length - 1) 0 ∈ x := by
      rw [List.getD_eq_getElem?_getD, List.getElem?_eq_getElem (by omega)]; simp
    have e' : (wrong x).getD (x.length - 1) 0 = flip8 (x.getD (x.length - 1) 0) := by
      rw [wrong, if_neg (by omega), List.getD_eq_getElem?_getD, List.getElem?_set_self (by omega)]; rfl
    rw [e] at e'
    have := flip8_eq _ (hb _ hz).1 (hb _ hz).2
    split at this <;> omega

theorem wrong_ascii (x : List Int) (hb : ∀ z ∈ x, 0 ≤ z ∧ z ≤ 255) (h : ascii x = true) : ascii (wrong x) = false := by
  by_cases h0 : x.length = 0
  · have : x = [] := List.eq_nil_of_length_eq_zero h0
    subst this
    decide +kernel
  · have hz : x.getD (x.length - 1) 0 ∈ x := by
      rw [List.getD_eq_getElem?_getD, List.getElem?_eq_getElem (by omega)]; simp
    have hlt : x.getD (x.length - 1) 0 < 128 := by
      have := List.all_eq_true.1 h _ hz
      simpa using this
    have hf := flip8_eq _ (hb _ hz).1 (hb _ hz).2
    rw [if_pos hlt] at hf
    cases hw : ascii (wrong x) with
    | false => rfl
    | true =>
      have hm : flip8 (x.getD (x.length - 1) 0) ∈ wrong x := by
        rw [wrong, if_neg h0]
        exact List.mem_set (by omega) _
      have := List.all_eq_true.1 hw _ hm
      have h0' := (hb _ hz).1
      simp at this
      simp at hf h0'
      omega

end Go.Proofs.Qxb6601558a
