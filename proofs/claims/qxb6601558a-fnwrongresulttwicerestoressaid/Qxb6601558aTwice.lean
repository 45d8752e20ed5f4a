import Derived.Test.Qxb6601558aPlain
import Derived.WalkKit
import Derived.ProofKit
import Derived.OpenShut
import Derived.ShutString
import Derived.ChangeOld
import Derived.Below
namespace Go.Proofs.Qxb6601558a.fnWrongResultTwiceRestores
open Go.ChangeShapes Go.WideShapes Go.ChangeAt Go.RowKit
open Go.ChangeMaps (open_string shut_string)
set_option linter.unusedVariables false

theorem own : ownKnob Try.prog.godebug = none := by kernel_rfl
theorem laidOut : laidOutB Try.prog = true := by kernel_rfl

/-- WHAT THE WALK IS TOLD OF A SLICE OF INTEGERS THAT CAME IN: it is nil; or it leads to a row of 'cap' cells, the numbers 'zs' (the first 'len' are its elements, the rest its spare room), each fitting its kind. -/
def IsRow (k : IntKind) (w : World) (a : Option Addr) (len cap : Nat) (zs : List Int) : Prop :=
  (a = none ∧ len = 0 ∧ cap = 0 ∧ zs = []) ∨
  ∃ x, a = some x ∧ len ≤ cap ∧ cap ≤ maxLen ∧ zs.length = cap ∧ (∀ i, i < zs.length → w.cell? (x.add i) = some (.int k (zs.getD i 0))) ∧ ∀ n ∈ zs, (Lit.int k n).wf = true

theorem reads_of_row {k : IntKind} {w : World} {a : Option Addr} {len cap : Nat} {zs : List Int} (h : IsRow k w a len cap zs) : Reads k w a len (zs.take len) ∧ (a = none → cap = 0) ∧ len ≤ maxLen ∧ ∀ n ∈ zs.take len, (Lit.int k n).wf = true := by
  rcases h with ⟨rfl, rfl, rfl, rfl⟩ | ⟨x, rfl, hl, hm, hz, hc, hw⟩
  · exact ⟨⟨rfl, fun h => absurd h (by omega)⟩, fun _ => rfl, Nat.zero_le _, by simp⟩
  · refine ⟨⟨by simp; omega, fun h0 => ?_⟩, (by intro h; cases h), by omega, fun n hn => hw n (List.mem_of_mem_take hn)⟩
    obtain ⟨b, off, spot⟩ := x
    have hspot : spot = none := by simpa [Addr.add] using World.cell?_spot (hc 0 (by omega))
    subst hspot
    refine ⟨b, off, rfl, fun i hi => ?_⟩
    have := hc i (by omega)
    rw [add_plain] at this
    rw [this]
    simp [hi]

theorem byte_of_wf (n : Int) (h : (Lit.int .u8 n).wf = true) : 0 ≤ n ∧ n ≤ 255 := bounds_u8 h

theorem bytes6 (a : Option Addr) (n c : Nat) (w : World) (h : n ≤ 1048576) : Calls Try.prog 6 #[.slice a n c] w fun e w' => e = .returned (.bool true) ∧ w = w' := by
  go_enter Try.func6, Try.ntmps6
  go_wp2
  go_ret
  exact ⟨rfl, rfl⟩

set_option maxHeartbeats 1000000 in
theorem walk (a0 : Option Addr) (len0 cap0 : Nat) (z0 : List Int) (w : World) (w0 : IsRow .u8 w a0 len0 cap0 z0) :
    Calls Try.prog 3 #[.slice a0 len0 cap0] w fun e w' => e = .returned (.bool true) ∧ Below w.heap.size w w' := by
  obtain ⟨hr, hc0, hm, hwf⟩ := reads_of_row w0
  unfold maxLen at hm
  clear w0
  obtain ⟨x, HX⟩ : ∃ x, Hid (x = z0.take len0) := ⟨_, rfl⟩
  rw [← HX.out] at hr hwf
  have HL : Hid (x.length = len0) := hr.1
  have HR : Hid (Reads .u8 w a0 len0 x) := hr
  have HW : Hid (∀ z ∈ x, 0 ≤ z ∧ z ≤ 255) := fun z hz => byte_of_wf z (hwf z hz)
  have HC : Hid (a0 = none → cap0 = 0) := hc0
  clear hr hwf hc0
  by_cases hbig : 1048576 < len0
  · go_enter Try.func3, Try.ntmps3
    go_wp2
    go_ret
    exact ⟨rfl, Below.refl _ _⟩
  · by_cases hz : len0 = 0
    · subst hz
      have HE : Hid (x = []) := List.eq_nil_of_length_eq_zero HL.out
      go_enter Try.func3, Try.ntmps3
      go_wp2_with (first | (go_at_call 6; refine (bytes6 _ _ _ _ (by omega)).mono ?_; rintro e w' ⟨rfl, rfl⟩) | (go_at_call 7; refine (clone_any a0 0 cap0 x w HR.out (by omega) HC.out).mono ?_; rintro e w1 ⟨a1, c1, rfl, hr1, hb1⟩; have HR1 : Hid (Reads .u8 w1 a1 0 x) := hr1; have HB1 : Hid (Below w.heap.size w w1) := hb1; clear hr1 hb1))
      refine (zzwrong_any a1 0 c1 x w1 HR1.out (by omega)).mono ?_
      rintro e w2 ⟨a2, n2, c2, hn2, rfl, hr2, hb2⟩
      obtain rfl : n2 = 1 := by rw [hn2, HE.out]; rfl
      have HR2 : Hid (Reads .u8 w2 a2 1 (wrong x)) := hr2
      have HB2 : Hid (Below w.heap.size w w2) := HB1.out.trans (hb2.mono HB1.out.size)
      clear hr2 hb2 hn2
      go_wp2_with fail
      refine (zzwrong_any a2 1 c2 (wrong x) w2 HR2.out (by omega)).mono ?_
      rintro e w3 ⟨a3, n3, c3, hn3, rfl, hr3, hb3⟩
      rw [HE.out, wrong_wrong_nil] at hr3 hn3
      obtain rfl : n3 = 1 := hn3
      have HB3 : Hid (Below w.heap.size w w3) := HB2.out.trans (hb3.mono HB2.out.size)
      obtain ⟨b, off, rfl, hc⟩ := hr3.2 (by omega)
      have g0 : w3.cell? ⟨b, off, none⟩ = some (.int .u8 0) := hc 0 (by omega)
      clear hr3 hb3 hc
      go_wp2
      go_ret
      exact ⟨rfl, HB3.out⟩
    · have hz' : ((len0 : Int) == 0) = false := by simp; omega
      go_enter Try.func3, Try.ntmps3
      go_wp2_with (first | (go_at_call 6; refine (bytes6 _ _ _ _ (by omega)).mono ?_; rintro e w' ⟨rfl, rfl⟩) | (go_at_call 7; refine (clone_any a0 len0 cap0 x w HR.out (by omega) HC.out).mono ?_; rintro e w1 ⟨a1, c1, rfl, hr1, hb1⟩; have HR1 : Hid (Reads .u8 w1 a1 len0 x) := hr1; have HB1 : Hid (Below w.heap.size w w1) := hb1; clear hr1 hb1))
      refine (zzwrong_any a1 len0 c1 x w1 HR1.out (by omega)).mono ?_
      rintro e w2 ⟨a2, n2, c2, hn2, rfl, hr2, hb2⟩
      obtain rfl : n2 = len0 := by rw [hn2, wrong_length x (by have := HL.out; omega), HL.out]
      have HR2 : Hid (Reads .u8 w2 a2 n2 (wrong x)) := hr2
      have HB2 : Hid (Below w.heap.size w w2) := HB1.out.trans (hb2.mono HB1.out.size)
      have HR1' : Hid (Reads .u8 w2 a1 n2 x) := HR1.out.below hb2 rfl
      clear hr2 hb2 hn2 HR1
      go_wp2_with fail
      refine (zzwrong_any a2 n2 c2 (wrong x) w2 HR2.out (by omega)).mono ?_
      rintro e w3 ⟨a3, n3, c3, hn3, rfl, hr3, hb3⟩
      rw [wrong_wrong x (by have := HL.out; omega) HW.out] at hr3 hn3
      obtain rfl : n3 = n2 := by rw [hn3, HL.out]
      have HB3 : Hid (Below w.heap.size w w3) := HB2.out.trans (hb3.mono HB2.out.size)
      have HR3 : Hid (Reads .u8 w3 a3 n3 x) := hr3
      have HR13 : Hid (Reads .u8 w3 a1 n3 x) := HR1'.out.below hb3 rfl
      clear hr3 hb3 hn3 HR1'
      go_wp2_with fail
      refine (bytesEqual_any a3 a1 n3 c3 n3 c1 x x w3 HR3.out HR13.out (by omega) (by omega)).mono ?_
      rintro e w4 ⟨rfl, q, rfl⟩
      go_wp2
      go_ret
      exact ⟨ret_bool (by simp), below_drewN HB3.out q⟩

/-! ### THE ROW's STEP: WRITTEN OUT: LEAVE IT -/
set_option maxRecDepth 100000 in
theorem lifted (os : Os) (started : os.Started) (H : Type) (enc : TypeId × Value → H) :
    ReturnsInHanded {} Try.checked os 3 .any (Rows.fnWrongResultTwiceRestoresSpec.pre6 enc Try.prog Try.f3 Rows.fnWrongResultTwiceRestoresRow.domain false) (Rows.fnWrongResultTwiceRestoresSpec.post enc Try.prog Try.f3 false true false false) := by
  refine returnsInHanded_of_change (C := Try.checked) own started (by kernel_rfl) Try.func3
    (ChangeSpec.witness6 (enc := enc) (C := Try.checked) false ⟨#[], #[.slice none 0 0], []⟩ 8 (by kernel_rfl) (by kernel_rfl) (by kernel_rfl) (by kernel_rfl)) ?_
  intro W base args ds gs before hval0 hW hcnd _
  have hval : ∀ (j : Nat) t v, Try.f3.params[j]? = some t → args[j]? = some v → Value.okWide Try.prog W .any base t v := hval0
  have hW' := hW
  obtain ⟨p, q, hA0, hV, rfl, hfz, hnd⟩ := hW
  have hA : DataW.TrodAll enc Try.prog W 0 (fun _ => true) true Try.f3.params.toList args.toList ds p := hA0
  rw [Try.params3] at hA hval
  obtain ⟨v0, vs0, d0, ds0, p0, q0, hargs, rfl, rfl, h0, r0⟩ := trodAll_cons hA
  obtain ⟨rfl, rfl, rfl⟩ := trodAll_nil r0
  obtain rfl : args = #[v0] := by cases args; simp_all
  obtain ⟨rfl, rfl⟩ := trodVars_none hV
  obtain ⟨a0, len0, cap0, rfl⟩ := okWide_slice Try.underlying22 (hval 0 22 v0 rfl rfl)
  have k0 := h0
  have lt0 : ∀ x ∈ p0, x.block < W.heap.size := by obtain ⟨m, hm⟩ := k0; exact DataW.trod_lt m _ _ _ hm
  obtain ⟨z0, w0⟩ : ∃ zs, IsRow .u8 W a0 len0 cap0 zs := by
    obtain ⟨fuel, hf⟩ := h0
    rcases open_ints Try.underlying22 Try.underlying5 (by kernel_rfl) hf with ⟨hcs, _⟩ | ⟨x, l, c, zs, hcs, _, hl, hm, hz, _, hcell, hwz⟩
    · simp [Value.cells] at hcs
      obtain ⟨rfl, rfl, rfl⟩ := hcs
      exact ⟨[], .inl ⟨rfl, rfl, rfl, rfl⟩⟩
    · simp [Value.cells] at hcs
      obtain ⟨rfl, rfl, rfl⟩ := hcs
      exact ⟨zs, .inr ⟨_, rfl, hl, hm, by simpa using hz, hcell, hwz⟩⟩
  clear hA0 hval0
  refine (walk a0 len0 cap0 z0 W w0).mono fun e W' ⟨he, bel⟩ => ?_
  subst he
  exact ⟨_, rfl, _, _, _, [], _, [], hW', trodAll_mk1 (shut_bool Try.underlying4 _), (trodAll_cons_mk (Below.trod laidOut (by kernel_rfl) (of_decide_eq_true (by kernel_rfl)) k0 bel lt0) trodAll_mk0), rfl, bel.frame _, fun h => by cases h⟩

theorem over : Rows.fnWrongResultTwiceRestoresRow.holds Try.pinned (OpenSpec.ofChange Rows.fnWrongResultTwiceRestoresSpec) :=
  OpenClaim.holds_of_wide 3 Try.f3 rfl rfl rfl rfl rfl rfl rfl ⟨rfl, rfl, rfl, rfl, rfl⟩ rfl rfl rfl rfl rfl (by kernel_rfl) Try.func3 (by kernel_rfl)
    (of_decide_eq_true (by kernel_rfl)) (by unfold Func.isWrapper; first | (rw [if_pos (by decide +kernel)]; kernel_rfl) | (rw [if_neg (by decide +kernel)]; exact ⟨rfl, rfl⟩))
    (fun os started H enc _ => lifted os started H enc)

/-- ████ THE STATEMENT ████ -/
theorem proved : Rows.FnWrongResultTwiceRestoresSaid := over
end Go.Proofs.Qxb6601558a.fnWrongResultTwiceRestores
