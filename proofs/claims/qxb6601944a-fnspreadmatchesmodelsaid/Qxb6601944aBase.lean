import Derived.Test.Qxb6601944aRows
import Derived.Test.Qxb6601944aPlain3
import Derived.WalkKit
import Derived.Deep.QuietTactic
import Derived.BigQuiet
import Derived.WalkLawsBesides
import Derived.WalkSpells
import Derived.Deep.OwnRows
import Derived.Deep.LoopGhost
import Derived.Deep.Light
import Derived.Deep.DeepCutAuto
import Derived.BigGuard
namespace Go.Proofs.Qxb6601944a
open Go.RowKit Go.WideShapes

theorem ret_bool {a b : Bool} (h : a = b) : Ending.returned (.bool a) = .returned (.bool b) := by rw [h]

/-- A slice value of n ints that read as f. -/
def Reads (w : World) (ao : Option Addr) (n : Nat) (f : Nat → Int) : Prop :=
  0 < n → ∃ b off, ao = some ⟨b, off, none⟩ ∧ ∀ i, i < n → w.cell? ⟨b, off + i, none⟩ = some (.int .i64 (f i))

theorem Reads.below {w w' : World} {ao : Option Addr} {n : Nat} {f : Nat → Int} (h : Reads w ao n f) (hb : Below w.heap.size w w') : Reads w' ao n f := by
  intro h0
  obtain ⟨b, off, rfl, hc⟩ := h h0
  exact ⟨b, off, rfl, fun i hi => by rw [hb.cell (World.block_lt_of_cell? _ _ (hc i hi)), hc i hi]⟩

theorem Reads.congr {w : World} {ao : Option Addr} {n : Nat} {f g : Nat → Int} (h : Reads w ao n f) (e : ∀ i, i < n → f i = g i) : Reads w ao n g := by
  intro h0
  obtain ⟨b, off, rfl, hc⟩ := h h0
  exact ⟨b, off, rfl, fun i hi => by rw [hc i hi, e i hi]⟩

theorem Reads.drewN {w : World} {ao : Option Addr} {n : Nat} {f : Nat → Int} (h : Reads w ao n f) (q : Nat) : Reads (w.drewN q) ao n f := h

/-- One cell of it, its number under a name. -/
theorem Reads.at {w : World} {ao : Option Addr} {n i : Nat} {f : Nat → Int} (h : Reads w ao n f) (hi : i < n) : ∃ b off x, ao = some ⟨b, off, none⟩ ∧ Hid (x = f i) ∧ w.cell? ⟨b, off + i, none⟩ = some (.int .i64 x) := by
  obtain ⟨b, off, rfl, hc⟩ := h (by omega)
  exact ⟨b, off, _, rfl, rfl, hc i hi⟩

theorem reads_of_row {w : World} {g n : Nat} {f : Nat → Int} {t : TypeId} (h : w.rowIs g t n (fun i => .int .i64 (f i))) : Reads w (some ⟨g, 0, none⟩) n f :=
  fun _ => ⟨g, 0, rfl, fun i hi => by rw [Nat.zero_add]; exact h.cell hi⟩

theorem Try.info3 : (Try.prog.info? 3).map (fun i => (i.zero, i.size, i.bytes)) = some (some (.int .i64 0), 1, 8) := by kernel_rfl
theorem Try.info4 : (Try.prog.info? 4).map (fun i => (i.zero, i.size, i.bytes)) = some (some (.bool false), 1, 1) := by kernel_rfl

/-! ### sameInts -/
set_option maxHeartbeats 400000 in
theorem same13 (a1 a2 : Option Addr) (n c1 c2 : Nat) (f g : Nat → Int) (w : World) (hx : Reads w a1 n f) (hy : Reads w a2 n g) (h1 : n ≤ 1048576) (hfg : ∀ i, i < n → f i = g i) :
    Calls Try.prog 13 #[.slice a1 n c1, .slice a2 n c2] w fun e w' => e = .returned (.bool true) ∧ ∃ q, w' = w.drewN q := by
  have HX : Hid (Reads w a1 n f) := hx
  have HY : Hid (Reads w a2 n g) := hy
  have HE : Hid (∀ i, i < n → f i = g i) := hfg
  clear hx hy hfg
  go_enter Try.func13, Try.ntmps13
  go_wp2
  go_loopw [5] (fun i wr => ∃ k q : Nat, k ≤ n ∧ i = .int .i64 k ∧ wr = w.drewN q) (fun i _ => n - (intOf i).toNat)
  case atStart => exact ⟨0, 0, Nat.zero_le _, rfl, rfl⟩
  case round =>
    obtain ⟨k, q, hk, rfl, rfl⟩ := hrel
    by_cases hlt : k < n
    · obtain ⟨b, off, x, rfl, HX1, g1⟩ := HX.out.at hlt
      obtain ⟨b', off', y, rfl, HY1, g2⟩ := HY.out.at hlt
      have hxy : x = y := by rw [HX1.out, HY1.out]; exact HE.out k hlt
      subst hxy
      clear HX1 HY1
      go_wp2
      go_quiet (fail)
      go_wp2
      go_roundw
      case rel => exact ⟨k + 1, _, by omega, by go_num, rfl⟩
      case measure => simp [intOf]; omega
    · go_wp2
      go_ret
      exact ⟨rfl, q, rfl⟩

/-! ### cloneInts -/
structure Cl (w wr : World) (n k : Nat) (f : Nat → Int) : Prop where
  below : Below w.heap.size w wr
  row : ∃ D : Nat → Int, wr.rowIs w.heap.size 3 n (fun i => .int .i64 (D i)) ∧ ∀ i, i < k → D i = f i

theorem cl_start (w : World) (n : Nat) (f : Nat → Int) : Cl w (w.alloc (.cells (madeCells #[.int .i64 0] n) 3)) n 0 f :=
  ⟨(Below.refl _ _).alloc (Nat.le_refl _) _, fun _ => 0, World.rowIs_made w _ n 3, fun _ hi => absurd hi (Nat.not_lt_zero _)⟩

theorem cl_cell {w wr : World} {n k : Nat} {f : Nat → Int} (h : Cl w wr n k f) (hk : k < n) : (∃ u, wr.cell? ⟨w.heap.size, k, none⟩ = some u) ∧ wr.frozen? ⟨w.heap.size, k, none⟩ = false := by
  obtain ⟨D, hr, _⟩ := h.row
  exact ⟨⟨_, hr.cell hk⟩, hr.frozen k⟩

theorem row_store {w : World} {g n k : Nat} {D : Nat → Int} (h : w.rowIs g 3 n (fun i => .int .i64 (D i))) (x : Int) : (w.setCell ⟨g, k, none⟩ (.int .i64 x)).rowIs g 3 n (fun i => .int .i64 (if i = k then x else D i)) :=
  (h.set k _).congr fun i _ => by split <;> rfl

theorem cl_step {w wr : World} {n k : Nat} {f : Nat → Int} {x : Int} (h : Cl w wr n k f) (hx : x = f k) : Cl w (wr.setCell ⟨w.heap.size, k, none⟩ (.int .i64 x)) n (k + 1) f := by
  obtain ⟨D, hr, hD⟩ := h.row
  refine ⟨h.below.setCell (Nat.le_refl _) _, _, row_store hr x, fun i hi => ?_⟩
  show (if i = k then x else D i) = _
  by_cases e : i = k
  · subst e; rw [if_pos rfl, hx]
  · rw [if_neg e]; exact hD i (by omega)

set_option maxHeartbeats 400000 in
theorem clone_some (ad : Addr) (n c : Nat) (f : Nat → Int) (w : World) (hx : Reads w (some ad) n f) (h1 : n ≤ 1048576) :
    Calls Try.prog 20 #[.slice (some ad) n c] w fun e w' => e = .returned (.slice (some ⟨w.heap.size, 0, none⟩) n n) ∧ Cl w w' n n f := by
  have hnil := fun w => Lib.run_eql_slice_nil (P := Try.prog) w 24 3 (some ad) n c 0 0 Try.underlying24
  have hmk := run_make_row' (P := Try.prog) 24 3 (.int .i64 0) 8 Try.underlying24 Try.info3 rfl .i64 .i64 n (by omega) (by omega)
  have HX : Hid (Reads w (some ad) n f) := hx
  clear hx
  go_enter Try.func20, Try.ntmps20
  go_wp2
  clear hmk hnil
  go_loopw [4] (fun i wl => ∃ k : Nat, k ≤ n ∧ i = .int .i64 k ∧ Hid (Cl w wl n k f)) (fun i _ => n - (intOf i).toNat)
  case atStart => exact ⟨0, Nat.zero_le _, rfl, cl_start w n f⟩
  case round =>
    obtain ⟨k, hk, rfl, HC⟩ := hrel
    by_cases hlt : k < n
    · obtain ⟨b, off, x, had, HX1, g1⟩ := HX.out.at hlt
      simp only [Option.some.injEq] at had
      subst had
      have g2 : wr.cell? ⟨b, off + k, none⟩ = some (.int .i64 x) := by rw [HC.out.below.cell (World.block_lt_of_cell? _ _ g1)]; exact g1
      obtain ⟨⟨u, hu⟩, hfz⟩ := cl_cell HC.out hlt
      clear g1
      go_wp2
      go_roundw
      case rel => exact ⟨k + 1, by omega, by go_num, cl_step HC.out HX1.out⟩
      case measure => simp [intOf]; omega
    · obtain rfl : k = n := by omega
      go_wp2
      go_ret
      exact ⟨rfl, HC.out⟩

theorem clone_none (w : World) : Calls Try.prog 20 #[.slice none 0 0] w fun e w' => e = .returned (.slice none 0 0) ∧ w = w' := by
  have hnil := fun w => Lib.run_eql_slice_nil (P := Try.prog) w 24 3 none 0 0 0 0 Try.underlying24
  go_enter Try.func20, Try.ntmps20
  go_wp2
  go_ret
  exact ⟨rfl, rfl⟩

theorem clone20 (ao : Option Addr) (n c : Nat) (f : Nat → Int) (w : World) (hx : Reads w ao n f) (h1 : n ≤ 1048576) (h0 : ao = none → n = 0 ∧ c = 0) :
    Calls Try.prog 20 #[.slice ao n c] w fun e w' => ∃ ao' c', e = .returned (.slice ao' n c') ∧ Reads w' ao' n f ∧ Below w.heap.size w w' := by
  match ao with
  | some ad =>
    refine (clone_some ad n c f w hx h1).mono ?_
    rintro e w' ⟨rfl, hc⟩
    obtain ⟨D, hr, hD⟩ := hc.row
    exact ⟨_, _, rfl, (reads_of_row hr).congr hD, hc.below⟩
  | none =>
    obtain ⟨rfl, rfl⟩ := h0 rfl
    refine (clone_none w).mono ?_
    rintro e w' ⟨rfl, rfl⟩
    exact ⟨_, _, rfl, hx, Below.refl _ _⟩

end Go.Proofs.Qxb6601944a
