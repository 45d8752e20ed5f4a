import Derived.Test.Qxb6601558aCount
import Derived.Deep.OwnRows
import Derived.Deep.LoopGhost
import Derived.Deep.Light
namespace Go.Proofs.Qxb6601558a
open Go.RowKit Go.WideShapes

/-- A cell that holds a slice of bytes, which reads as f. -/
def FrameAt (w : World) (v : Value) (f : List Int) : Prop := ∃ ao n c, v = .slice ao n c ∧ Reads .u8 w ao n f ∧ (ao = none → c = 0)

/-- A slice of slices of bytes. -/
def Frames (w : World) (ao : Option Addr) (len : Nat) (fs : List (List Int)) : Prop :=
  fs.length = len ∧ (0 < len → ∃ b off, ao = some ⟨b, off, none⟩ ∧ ∀ i, i < len → ∃ v, w.cell? ⟨b, off + i, none⟩ = some v ∧ FrameAt w v (fs.getD i []))

theorem FrameAt.below {w w' : World} {v : Value} {f : List Int} {B : Nat} (h : FrameAt w v f) (hb : Below B w w') (hB : B = w.heap.size) : FrameAt w' v f := by
  obtain ⟨ao, n, c, e, hr, h0⟩ := h
  exact ⟨ao, n, c, e, hr.below hb hB, h0⟩

theorem Frames.below {w w' : World} {ao : Option Addr} {len : Nat} {fs : List (List Int)} (h : Frames w ao len fs) (hb : Below w.heap.size w w') : Frames w' ao len fs := by
  refine ⟨h.1, fun h0 => ?_⟩
  obtain ⟨b, off, rfl, hc⟩ := h.2 h0
  refine ⟨b, off, rfl, fun i hi => ?_⟩
  obtain ⟨v, hv, hf⟩ := hc i hi
  exact ⟨v, by rw [hb.cell (World.block_lt_of_cell? _ _ hv), hv], hf.below hb rfl⟩

/-- One element of it. -/
theorem Frames.at {w : World} {ao : Option Addr} {len : Nat} {fs : List (List Int)} (h : Frames w ao len fs) {i : Nat} (hi : i < len) :
    ∃ b off a n c, ao = some ⟨b, off, none⟩ ∧ w.cell? ⟨b, off + i, none⟩ = some (.slice a n c) ∧ Hid (n = (fs.getD i []).length) ∧ Hid (Reads .u8 w a n (fs.getD i [])) ∧ Hid (a = none → c = 0) := by
  obtain ⟨b, off, rfl, hc⟩ := h.2 (by omega)
  obtain ⟨v, hv, a, n, c, rfl, hr, h0⟩ := hc i hi
  exact ⟨b, off, a, n, c, rfl, hv, hr.1.symm, hr, h0⟩

theorem all_snoc {α : Type} (p : α → Prop) (fs : List α) (k : Nat) (d : α) (h : k < fs.length) (h1 : ∀ f ∈ fs.take k, p f) (h2 : p (fs.getD k d)) : ∀ f ∈ fs.take (k + 1), p f := by
  intro f hf
  rw [List.take_succ_eq_append_getElem h] at hf
  rcases List.mem_append.1 hf with h' | h'
  · exact h1 f h'
  · simp at h'
    subst h'
    rw [List.getD_eq_getElem?_getD, List.getElem?_eq_getElem h] at h2
    exact h2

/-- What zzBytes.. leaves (behind a name, so that the walk leaves it standing). -/
def Post12 (n : Nat) (fs : List (List Int)) (w : World) (e : Ending) (w' : World) : Prop := ∃ b, e = .returned (.bool b) ∧ w = w' ∧ (b = true → n ≤ 1048576 ∧ ∀ f ∈ fs, f.length ≤ 1048576)

set_option maxHeartbeats 400000 in
theorem bytes12 (p q r : Int) (ao : Option Addr) (n c : Nat) (fs : List (List Int)) (w : World) (hf : Frames w ao n fs) (hm : n ≤ 9223372036854775807) :
    Calls Try.prog 12 #[.int .u64 p, .int .u64 q, .int .u64 r, .slice ao n c] w fun e w' => Post12 n fs w e w' := by
  have HF : Hid (Frames w ao n fs) := hf
  clear hf
  by_cases hbig : 1048576 < n
  · go_enter Try.func12, Try.ntmps12
    go_wp2
    go_ret
    exact ⟨false, rfl, rfl, by simp⟩
  · have hbig' : n ≤ 1048576 := by omega
    clear hbig
    go_enter Try.func12, Try.ntmps12
    go_wp2
    go_loop [9, 10] (fun t i => ∃ (k : Nat) (s : Int), k ≤ n ∧ i = .int .i64 k ∧ t = .int .i64 s ∧ 0 ≤ s ∧ s ≤ 1048576 ∧ Hid (∀ f ∈ fs.take k, f.length ≤ 1048576)) (fun _ i => n - (intOf i).toNat)
    case atStart => exact ⟨0, n, Nat.zero_le _, rfl, rfl, by omega, by omega, (by simp : ∀ f ∈ fs.take 0, f.length ≤ 1048576)⟩
    case round =>
      obtain ⟨k, s, hk, rfl, rfl, hs0, hs1, HT⟩ := hrel
      by_cases hlt : k < n
      · obtain ⟨b, off, a, m, cc, rfl, hcell, HM, _, _⟩ := HF.out.at hlt
        have HL : Hid (k < fs.length) := by rw [HF.out.1]; exact hlt
        by_cases hm1 : 1048576 < m
        · go_wp2
          go_ret
          exact ⟨false, rfl, rfl, by simp⟩
        · go_wp2
          · go_ret
            exact ⟨false, rfl, rfl, by simp⟩
          · go_round
            case rel => exact ⟨k + 1, s + m, by omega, by go_num, rfl, by omega, by omega, all_snoc _ fs k [] HL.out HT.out (by rw [← HM.out]; omega)⟩
            case measure => simp [intOf]; omega
      · go_wp2
        go_ret
        refine ⟨true, rfl, rfl, fun _ => ⟨hbig', ?_⟩⟩
        have hT := HT.out
        rw [List.take_of_length_le (by rw [HF.out.1]; omega)] at hT
        exact hT

end Go.Proofs.Qxb6601558a
