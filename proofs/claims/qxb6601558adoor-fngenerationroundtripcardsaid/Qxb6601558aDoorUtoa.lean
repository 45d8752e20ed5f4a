import Derived.Test.Qxb6601558aDoorGen
import Derived.Deep.OwnRows
import Derived.Deep.LoopGhost
namespace Go.Proofs.Qxb6601558aDoor
open Go.RowKit

def Z20 : Array Value := Array.replicate 20 (.int .u8 0)
theorem zero27 (w : World) : (zeroValue 27).run Tryd.prog w = .ok (.agg Z20) w := by kernel_rfl

theorem arr27 : Tryd.prog.arrayLen 27 = 20 := by kernel_rfl

/-- THE BUFFER of zzUtoa: the digits l lie at its end, from i on. -/
structure Buf (w wl : World) (i : Nat) (l : List UInt8) : Prop where
  below : Below w.heap.size w wl
  row : ∃ f, wl.rowIs w.heap.size 27 20 f ∧ ∀ j (h : j < l.length), f (i + j) = .int .u8 (l[j].toNat : Int)

theorem buf_start (w : World) : Buf w (w.alloc (.cells Z20 27)) 20 [] := by
  refine ⟨(Below.refl _ _).alloc (Nat.le_refl _) _, fun _ => .int .u8 0, ⟨Z20, heap_alloc_new w _, by simp [Z20], fun i hi => ?_⟩, fun j h => absurd h (by simp)⟩
  simp [Z20, hi]

theorem slice27 (b i : Nat) (hi : (i : Int) < 20) (W : World) : (Instr.sliceAt 27 (.pointer (some ⟨b, 0, none⟩)) (some (.int .i64 (i : Int))) none none).run Tryd.prog W = .ok (.slice (some ⟨b, i, none⟩) (20 - i) (20 - i)) W := by
  have ha := arr27
  have hu : Tryd.prog.underlying 27 = some (.array (Tryd.prog.arrayLen 27) (Tryd.prog.elem 27)) := by kernel_rfl
  rw [run_sliceAt_array_l (P := Tryd.prog) W 27 ⟨b, 0, none⟩ hu .i64 (i : Int) (by omega) (by rw [ha]; omega)]
  have hs : (sizeOf (Tryd.prog.elem 27)).run Tryd.prog W = .ok 1 W := by kernel_rfl
  rw [hs, ha]
  simp only [Result.andThen_ok, slicedAt, Int.toNat_natCast, Nat.mul_one]
  rw [if_neg (by omega)]
  simp [Addr.add]
  omega

theorem buf_cell {w wl : World} {i : Nat} {l : List UInt8} (h : Buf w wl (i + 1) l) (hi : (i : Int) < 20) : (∃ u, wl.cell? ⟨w.heap.size, i, none⟩ = some u) ∧ wl.frozen? ⟨w.heap.size, i, none⟩ = false := by
  obtain ⟨f, hr, _⟩ := h.row
  exact ⟨⟨_, hr.cell (by omega)⟩, hr.frozen i⟩

theorem buf_step {w wl : World} {i : Nat} {l : List UInt8} {a : Int} (h : Buf w wl (i + 1) l) (_ha : 0 ≤ a) : Buf w (wl.setCell ⟨w.heap.size, i, none⟩ (.int .u8 (48 + a % 10))) i (digitOf a :: l) := by
  obtain ⟨f, hr, hf⟩ := h.row
  refine ⟨h.below.setCell (Nat.le_refl _) _, _, hr.set i _, fun j hj => ?_⟩
  match j with
  | 0 =>
    have := digitOf_toNat a
    simp [this]
    omega
  | j + 1 =>
    have hj' : j < l.length := by simpa using hj
    have := hf j hj'
    rw [if_neg (by omega), show i + (j + 1) = i + 1 + j by omega, this]
    rfl

theorem buf_conv {w wl : World} {i : Nat} {l : List UInt8} (h : Buf w wl i l) (hl : i + l.length = 20) : (convert 28 9 (.slice (some ⟨w.heap.size, i, none⟩) (20 - i) (20 - i))).run Tryd.prog wl = .ok (.string ⟨l.toArray⟩) wl := by
  obtain ⟨f, hr, hf⟩ := h.row
  have e : 20 - i = l.length := by omega
  rw [e]
  refine run_convert_bytes_back wl 28 9 5 ⟨w.heap.size, i, none⟩ l.length l Tryd.underlying28 Tryd.underlying5 Tryd.underlying9 fun j hj => ?_
  rw [WideShapes.add_plain, hr.cell (by omega), hf j hj]

/-- What zzUtoa leaves. -/
def PostU (g : Nat) (w : World) (e : Ending) (w' : World) : Prop := ∃ l : List UInt8, e = .returned (.string ⟨l.toArray⟩) ∧ Digits l ∧ dval l = g ∧ l.length ≤ 20 ∧ Below w.heap.size w w'

set_option maxRecDepth 100000 in
set_option maxHeartbeats 1000000 in
theorem utoa (g : Nat) (x : Int) (hx : x = (g : Int)) (hg : g < 18446744073709551616) (w : World) :
    Calls Tryd.prog 4 #[.int .u64 x] w fun e w' => PostU g w e w' := by
  have hx0 : 0 ≤ x := by omega
  have hx1 : x < 18446744073709551616 := by omega
  have HM : Hid (Mid g x []) := ⟨hx0, by simp [dval]; omega, .inl rfl, by simp⟩
  have HG : Hid (g < 18446744073709551616) := hg
  clear hg hx
  have hz := zero27
  go_enter Tryd.func4, Tryd.ntmps4
  go_wp2
  clear hz
  go_loopw [0, 4] (fun x i wl => ∃ (a : Int) (i' : Nat) (l : List UInt8), x = .int .u64 a ∧ i = .int .i64 i' ∧ 0 ≤ a ∧ a < 18446744073709551616 ∧ Hid (i' + l.length = 20) ∧ Hid (Buf w wl i' l) ∧ Hid (Mid g a l)) (fun _ i _ => (intOf i).toNat)
  case atStart => exact ⟨x, 20, [], rfl, rfl, hx0, hx1, rfl, buf_start w, HM.out⟩
  case round =>
    clear hx0 hx1
    obtain ⟨a, i', l, rfl, rfl, a0, a1, HL, HB, HM'⟩ := hrel
    obtain ⟨i, rfl⟩ : ∃ i, i' = i + 1 := ⟨i' - 1, by have := mid_short HM'.out HG.out; have := HL.out; omega⟩
    have hii : (i : Int) < 20 := by have := HL.out; omega
    obtain ⟨⟨u, hu⟩, hfz⟩ := buf_cell HB.out hii
    have hsl := slice27 w.heap.size i hii
    have hcv := buf_conv (buf_step HB.out a0) (by have := HL.out; simp; omega)
    obtain ⟨S, HS⟩ : ∃ S : ByteArray, Hid (S = ⟨(digitOf a :: l).toArray⟩) := ⟨_, rfl⟩
    rw [← HS.out] at hcv
    go_wp2
    · have hz0 : (a / 10 == 0) = true := by assumption
      go_ret
      have hv := mid_done HM'.out hz0
      have hlen := HL.out
      exact ⟨digitOf a :: l, by rw [← HS.out]; rfl, ⟨by simp, (mid_step HM'.out).2, by rw [← hv]; exact HG.out, by simp; omega⟩, hv.symm, by simp; omega, (buf_step HB.out a0).below⟩
    · have hz0 : (a / 10 == 0) = false := by assumption
      clear hsl hcv
      go_roundw
      case rel => exact ⟨a / 10, i, digitOf a :: l, rfl, rfl, by omega, by omega, by have := HL.out; show i + (digitOf a :: l).length = 20; simp; omega, buf_step HB.out a0, mid_next HM'.out hz0⟩
      case measure => simp [intOf]

end Go.Proofs.Qxb6601558aDoor
