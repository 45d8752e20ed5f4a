import Derived.Test.Qxb6601944aBase
namespace Go.Proofs.Qxb6601944a
open Go.RowKit Go.WideShapes

/-! ### spreadInDomain -/
/-- What it has seen of the first j islands. -/
structure Seen (f : Nat → Int) (k : Int) (j : Nat) (s : Int) : Prop where
  nn : ∀ i, i < j → 0 ≤ f i
  lt : ∀ i, i < j → f i < k
  more : 0 < s → s = k - sm f j
  done : s ≤ 0 → k ≤ sm f j

theorem seen_start (f : Nat → Int) (k : Int) (hk : 1 ≤ k) : Seen f k 0 k :=
  ⟨fun _ h => absurd h (Nat.not_lt_zero _), fun _ h => absurd h (Nat.not_lt_zero _), fun _ => by simp [sm], fun h => absurd h (by omega)⟩

theorem seen_sub {f : Nat → Int} {k s x : Int} {j : Nat} (h : Seen f k j s) (hx : x = f j) (h0 : 0 ≤ x) (h1 : x < k) (hs : 0 < s) : Seen f k (j + 1) (s - x) := by
  subst hx
  have hm := h.more hs
  refine ⟨fun i hi => ?_, fun i hi => ?_, fun h2 => ?_, fun h2 => ?_⟩
  · by_cases e : i = j
    · subst e; exact h0
    · exact h.nn i (by omega)
  · by_cases e : i = j
    · subst e; exact h1
    · exact h.lt i (by omega)
  · simp only [sm]; omega
  · simp only [sm]; omega

theorem seen_skip {f : Nat → Int} {k s x : Int} {j : Nat} (h : Seen f k j s) (hx : x = f j) (h0 : 0 ≤ x) (h1 : x < k) (hs : s ≤ 0) : Seen f k (j + 1) s := by
  subst hx
  have hm := h.done hs
  refine ⟨fun i hi => ?_, fun i hi => ?_, fun h2 => absurd h2 (by omega), fun h2 => ?_⟩
  · by_cases e : i = j
    · subst e; exact h0
    · exact h.nn i (by omega)
  · by_cases e : i = j
    · subst e; exact h1
    · exact h.lt i (by omega)
  · simp only [sm]; omega

def Post19 (f : Nat → Int) (n : Nat) (k : Int) (w : World) (e : Ending) (w' : World) : Prop := ∃ b, e = .returned (.bool b) ∧ w = w' ∧ (b = true → Dom f n k)

set_option maxHeartbeats 400000 in
theorem dom19 (ao : Option Addr) (n c : Nat) (k : Int) (f : Nat → Int) (w : World) (hx : Reads w ao n f) (h1 : n ≤ 1048576) (hk : k ≤ 9223372036854775807) :
    Calls Try.prog 19 #[.slice ao n c, .int .i64 k] w fun e w' => Post19 f n k w e w' := by
  have HX : Hid (Reads w ao n f) := hx
  clear hx
  by_cases hk1 : k < 1
  · go_enter Try.func19, Try.ntmps19
    go_wp2
    go_ret
    exact ⟨false, rfl, rfl, by simp⟩
  · go_enter Try.func19, Try.ntmps19
    go_wp2
    go_loop [5, 6] (fun s i => ∃ (j : Nat) (s' : Int), j ≤ n ∧ i = .int .i64 j ∧ s = .int .i64 s' ∧ s' ≤ k ∧ -k < s' ∧ Hid (Seen f k j s')) (fun _ i => n - (intOf i).toNat)
    case atStart => exact ⟨0, k, Nat.zero_le _, rfl, rfl, by omega, by omega, seen_start f k (by omega)⟩
    case round =>
      obtain ⟨j, s, hj, rfl, rfl, hs0, hs1, HS⟩ := hrel
      by_cases hlt : j < n
      · obtain ⟨b, off, x, rfl, HX1, g1⟩ := HX.out.at hlt
        by_cases hx0 : x < 0
        · go_wp2
          go_ret
          exact ⟨false, rfl, rfl, by simp⟩
        · by_cases hxk : k ≤ x
          · go_wp2
            go_ret
            exact ⟨false, rfl, rfl, by simp⟩
          · by_cases hsp : 0 < s
            · go_wp2
              go_round
              case rel => exact ⟨j + 1, s - x, by omega, by go_num, rfl, by omega, by omega, seen_sub HS.out HX1.out (by omega) (by omega) hsp⟩
              case measure => simp [intOf]; omega
            · go_wp2
              go_round
              case rel => exact ⟨j + 1, s, by omega, by go_num, rfl, by omega, by omega, seen_skip HS.out HX1.out (by omega) (by omega) (by omega)⟩
              case measure => simp [intOf]; omega
      · obtain rfl : j = n := by omega
        go_wp2
        go_ret
        refine ⟨decide (s ≤ 0), rfl, rfl, fun h => ?_⟩
        have hs : s ≤ 0 := of_decide_eq_true h
        exact ⟨by omega, HS.out.nn, HS.out.lt, HS.out.done hs⟩

/-! ### sortedDesc -/
structure So (w wr : World) (n i : Nat) (f : Nat → Int) : Prop where
  below : Below w.heap.size w wr
  row : ∃ D : Nat → Int, wr.rowIs w.heap.size 3 n (fun q => .int .i64 (D q)) ∧ ∀ q, q < i → D q = pv f i q

structure Si (w wr : World) (n i j : Nat) (v : Int) (f : Nat → Int) : Prop where
  below : Below w.heap.size w wr
  row : ∃ D : Nat → Int, wr.rowIs w.heap.size 3 n (fun q => .int .i64 (D q)) ∧ Shift f i j v D

theorem so_start (w : World) (n : Nat) (f : Nat → Int) : So w (w.alloc (.cells (madeCells #[.int .i64 0] n) 3)) n 0 f :=
  ⟨(Below.refl _ _).alloc (Nat.le_refl _) _, fun _ => 0, World.rowIs_made w _ n 3, fun _ hi => absurd hi (Nat.not_lt_zero _)⟩

theorem si_start {w wr : World} {n i : Nat} {f : Nat → Int} (h : So w wr n i f) (v : Int) : Si w wr n i i v f := by
  obtain ⟨D, hr, hD⟩ := h.row
  exact ⟨h.below, D, hr, shift_start f i D hD v⟩

/-- The two cells that the inner loop meets. -/
theorem si_cells {w wr : World} {n i j : Nat} {v : Int} {f : Nat → Int} (h : Si w wr n i (j + 1) v f) (hj : j + 1 < n) :
    ∃ x, wr.cell? ⟨w.heap.size, j, none⟩ = some (.int .i64 x) ∧ (∃ u, wr.cell? ⟨w.heap.size, j + 1, none⟩ = some u) ∧ wr.frozen? ⟨w.heap.size, j + 1, none⟩ = false ∧
      Hid (x < v → Si w (wr.setCell ⟨w.heap.size, j + 1, none⟩ (.int .i64 x)) n i j v f) ∧
      Hid (v = f i → v ≤ x → j + 1 ≤ i → So w (wr.setCell ⟨w.heap.size, j + 1, none⟩ (.int .i64 v)) n (i + 1) f) := by
  obtain ⟨D, hr, hD⟩ := h.row
  refine ⟨D j, hr.cell (by omega), ⟨_, hr.cell hj⟩, hr.frozen _, fun hx => ?_, fun hv hx hji => ?_⟩
  · exact ⟨h.below.setCell (Nat.le_refl _) _, _, row_store hr (D j), shift_step hD hx⟩
  · subst hv
    exact ⟨h.below.setCell (Nat.le_refl _) _, _, row_store hr (f i), shift_done hD hji (.inr hx)⟩

theorem si_zero {w wr : World} {n i : Nat} {v : Int} {f : Nat → Int} (h : Si w wr n i 0 v f) (hn : 0 < n) (hv : v = f i) :
    (∃ u, wr.cell? ⟨w.heap.size, 0, none⟩ = some u) ∧ wr.frozen? ⟨w.heap.size, 0, none⟩ = false ∧ Hid (So w (wr.setCell ⟨w.heap.size, 0, none⟩ (.int .i64 v)) n (i + 1) f) := by
  obtain ⟨D, hr, hD⟩ := h.row
  subst hv
  exact ⟨⟨_, hr.cell hn⟩, hr.frozen _, h.below.setCell (Nat.le_refl _) _, _, row_store hr (f i), shift_done hD (Nat.zero_le _) (.inl rfl)⟩

set_option maxHeartbeats 1000000 in
theorem sort30 (ao : Option Addr) (n c : Nat) (f : Nat → Int) (w : World) (hx : Reads w ao n f) (h1 : n ≤ 1048576) :
    Calls Try.prog 30 #[.slice ao n c] w fun e w' => e = .returned (.slice (some ⟨w.heap.size, 0, none⟩) n n) ∧ So w w' n n f := by
  have hmk := run_make_row' (P := Try.prog) 24 3 (.int .i64 0) 8 Try.underlying24 Try.info3 rfl .i64 .i64 n (by omega) (by omega)
  have HX : Hid (Reads w ao n f) := hx
  clear hx
  go_enter Try.func30, Try.ntmps30
  go_wp2
  clear hmk
  go_loopw [4, 5, 6] (fun i _ _ wl => ∃ k : Nat, k ≤ n ∧ i = .int .i64 k ∧ Hid (So w wl n k f)) (fun i _ _ _ => n - (intOf i).toNat)
  case atStart => exact ⟨0, Nat.zero_le _, rfl, so_start w n f⟩
  case round =>
    obtain ⟨i, hi, rfl, HS⟩ := hrel
    by_cases hlt : i < n
    · obtain ⟨b, off, x, rfl, HX1, g1⟩ := HX.out.at hlt
      have g2 : wr.cell? ⟨b, off + i, none⟩ = some (.int .i64 x) := by rw [HS.out.below.cell (World.block_lt_of_cell? _ _ g1)]; exact g1
      clear g1
      go_wp2
      go_loopw [6] (fun jv wl => ∃ j : Nat, j ≤ i ∧ jv = .int .i64 j ∧ Hid (Si w wl n i j x f)) (fun jv _ => (intOf jv).toNat)
      case atStart => exact ⟨i, Nat.le_refl _, rfl, si_start HS.out x⟩
      case round =>
        obtain ⟨j, hj, rfl, HI⟩ := hrel
        rcases Nat.eq_zero_or_pos j with h0 | h0
        · subst h0
          obtain ⟨⟨u, hu⟩, hfz, HO⟩ := si_zero HI.out (by omega) HX1.out
          go_wp2
          go_roundw
          case rel => exact ⟨i + 1, by omega, by go_num, HO.out⟩
          case measure => simp [intOf]; omega
        · obtain ⟨j, rfl⟩ : ∃ i, j = i + 1 := ⟨j - 1, by omega⟩
          obtain ⟨y, hy, ⟨u, hu⟩, hfz, HI1, HI2⟩ := si_cells HI.out (by omega)
          by_cases hyx : y < x
          · go_wp2
            go_roundw
            case rel => exact ⟨j, by omega, by go_num, HI1.out hyx⟩
            case measure => simp [intOf]
          · go_wp2
            go_roundw
            case rel => exact ⟨i + 1, by omega, by go_num, HI2.out HX1.out (by omega) (by omega)⟩
            case measure => simp [intOf]; omega
    · obtain rfl : i = n := by omega
      go_wp2
      go_ret
      exact ⟨rfl, HS.out⟩

end Go.Proofs.Qxb6601944a
