import Derived.Test.Qxb6601558aPlain
import Derived.WalkKit
import Derived.ProofKit
import Derived.OpenShut
import Derived.ShutString
import Derived.ChangeOld
import Derived.Below
namespace Go.Proofs.Qxb6601558a.fnWrongResultBreaksASCII
open Go.ChangeShapes Go.WideShapes Go.ChangeAt Go.RowKit
open Go.ChangeMaps (open_string shut_string)
set_option linter.unusedVariables false

theorem own : ownKnob Try.prog.godebug = none := by kernel_rfl
theorem laidOut : laidOutB Try.prog = true := by kernel_rfl

/-- WHAT THE WALK IS TOLD OF A SLICE OF INTEGERS THAT CAME IN: it is nil; or it leads to a row of 'cap' cells, the numbers 'zs' (the first 'len' are its elements, the rest its spare room), each fitting its kind. -/
def IsRow (k : IntKind) (w : World) (a : Option Addr) (len cap : Nat) (zs : List Int) : Prop :=
  (a = none ∧ len = 0 ∧ cap = 0 ∧ zs = []) ∨
  ∃ x, a = some x ∧ len ≤ cap ∧ cap ≤ maxLen ∧ zs.length = cap ∧ (∀ i, i < zs.length → w.cell? (x.add i) = some (.int k (zs.getD i 0))) ∧ ∀ n ∈ zs, (Lit.int k n).wf = true

theorem reads_of_row {k : IntKind} {w : World} {a : Option Addr} {len cap : Nat} {zs : List Int} (h : IsRow k w a len cap zs) : Reads k w a len (zs.take len) ∧ (a = none → cap = 0) ∧ len ≤ maxLen ∧ ∀ n ∈ zs.take len, (Lit.int k n).wf = true := by
  rcases h with ⟨rfl, rfl, rfl, rfl⟩ | ⟨x, rfl, hl, hm, hz, hc, hw⟩
  · exact ⟨⟨rfl, fun h => absurd h (by omega)⟩, fun _ => rfl, Nat.zero_le _, by simp⟩
  · refine ⟨⟨by simp; omega, fun h0 => ?_⟩, (by intro h; cases h), by omega, fun n hn => hw n (List.mem_of_mem_take hn)⟩
    obtain ⟨b, off, spot⟩ := x
    have hspot : spot = none := by simpa [Addr.add] using World.cell?_spot (hc 0 (by omega))
    subst hspot
    refine ⟨b, off, rfl, fun i hi => ?_⟩
    have := hc i (by omega)
    rw [add_plain] at this
    rw [this]
    simp [hi]

theorem byte_of_wf (n : Int) (h : (Lit.int .u8 n).wf = true) : 0 ≤ n ∧ n ≤ 255 := bounds_u8 h

theorem bytes10 (a : Option Addr) (n c : Nat) (w : World) (h : n ≤ 1048576) : Calls Try.prog 10 #[.slice a n c] w fun e w' => e = .returned (.bool true) ∧ w = w' := by
  go_enter Try.func10, Try.ntmps10
  go_wp2
  go_ret
  exact ⟨rfl, rfl⟩

theorem ascii_snoc (x : List Int) (k : Nat) (h : k < x.length) (h1 : ascii (x.take k) = true) (h2 : x[k]?.getD 0 < 128) : ascii (x.take (k + 1)) = true := by
  rw [List.take_succ_eq_append_getElem h]
  rw [List.getElem?_eq_getElem h] at h2
  unfold ascii at *
  rw [List.all_append, h1]
  simpa using h2

theorem ascii_not (x : List Int) (k : Nat) (h : k < x.length) (h2 : 128 ≤ x[k]?.getD 0) : ascii x = false := by
  rw [List.getElem?_eq_getElem h] at h2
  cases e : ascii x with
  | false => rfl
  | true =>
    have := List.all_eq_true.1 e _ (List.getElem_mem h)
    simp at this h2
    omega

set_option maxHeartbeats 400000 in
theorem ascii_any (a : Option Addr) (n c : Nat) (x : List Int) (w : World) (hx : Reads .u8 w a n x) (h1 : n ≤ 1099511627776) :
    Calls Try.prog 11 #[.slice a n c] w fun e w' => e = .returned (.bool (ascii x)) ∧ w = w' := by
  obtain ⟨hlx, hx⟩ := hx
  have HX : Hid (x.length = n) := hlx
  have HCX : Hid (0 < n → ∃ b off, a = some ⟨b, off, none⟩ ∧ ∀ i, i < n → w.cell? ⟨b, off + i, none⟩ = some (.int .u8 (x.getD i 0))) := hx
  clear hlx hx
  go_enter Try.func11, Try.ntmps11
  go_wp2
  go_loop [3] (fun i => ∃ k : Nat, k ≤ n ∧ i = .int .i64 k ∧ Hid (ascii (x.take k) = true)) (fun i => n - (intOf i).toNat)
  case atStart => exact ⟨0, Nat.zero_le _, rfl, rfl⟩
  case round =>
    obtain ⟨k, hk, rfl, HT⟩ := hrel
    by_cases hlt : k < n
    · obtain ⟨b, off, rfl, hc⟩ := HCX.out (by omega)
      have g1 := hc k hlt
      clear hc
      by_cases h128 : 128 ≤ x[k]?.getD 0
      · go_wp2
        go_ret
        exact ⟨ret_bool (ascii_not x k (by have := HX.out; omega) h128).symm, rfl⟩
      · go_wp2
        go_round
        case rel => exact ⟨k + 1, by omega, by go_num, ascii_snoc x k (by have := HX.out; omega) HT.out (by omega)⟩
        case measure => simp [intOf]; omega
    · go_wp2
      go_ret
      refine ⟨ret_bool ?_, rfl⟩
      have hT := HT.out
      rw [List.take_of_length_le (by have := HX.out; omega)] at hT
      exact hT.symm

theorem wrong_length_le (x : List Int) (n : Nat) (h : x.length = n) : (wrong x).length ≤ (if n = 0 then 1 else n) := by
  subst h
  unfold wrong
  split <;> simp [*]

set_option maxHeartbeats 1000000 in
theorem walk (a0 : Option Addr) (len0 cap0 : Nat) (z0 : List Int) (w : World) (w0 : IsRow .u8 w a0 len0 cap0 z0) :
    Calls Try.prog 4 #[.slice a0 len0 cap0] w fun e w' => e = .returned (.bool true) ∧ Below w.heap.size w w' := by
  obtain ⟨hr, hc0, hm, hwf⟩ := reads_of_row w0
  unfold maxLen at hm
  clear w0
  obtain ⟨x, HX⟩ : ∃ x, Hid (x = z0.take len0) := ⟨_, rfl⟩
  rw [← HX.out] at hr hwf
  have HL : Hid (x.length = len0) := hr.1
  have HR : Hid (Reads .u8 w a0 len0 x) := hr
  have HW : Hid (∀ z ∈ x, 0 ≤ z ∧ z ≤ 255) := fun z hz => byte_of_wf z (hwf z hz)
  have HC : Hid (a0 = none → cap0 = 0) := hc0
  clear hr hwf hc0
  by_cases hbig : 1048576 < len0
  · go_enter Try.func4, Try.ntmps4
    go_wp2
    go_ret
    exact ⟨rfl, Below.refl _ _⟩
  · obtain ⟨N, hN⟩ : ∃ N, N = (wrong x).length := ⟨_, rfl⟩
    have hNl := wrong_length_le x len0 HL.out
    rw [← hN] at hNl
    have HN : Hid (N = (wrong x).length) := hN
    have hne : decide (wrong x = x) = false := decide_eq_false (wrong_ne x HW.out)
    have HNE : Hid (decide (wrong x = x) = false) := hne
    have HASC : Hid (ascii x = true → ascii (wrong x) = false) := wrong_ascii x HW.out
    clear hne hN
    have hN2 : N ≤ 1048576 := by split at hNl <;> omega
    obtain ⟨z, hz⟩ : ∃ z, ((len0 : Int) == 0) = z := ⟨_, rfl⟩
    have hlen : N ≤ (bif z then 1 else len0) := by
      rw [← hz]
      split at hNl
      · rename_i h; subst h; simpa using hNl
      · rename_i h; have : ((len0 : Int) == 0) = false := by simp; omega
        rw [this]; simpa using hNl
    clear hNl
    cases z
    all_goals simp only [cond_true, cond_false] at hlen
    all_goals
      go_enter Try.func4, Try.ntmps4
      go_wp2_with (first | (go_at_call 10; refine (bytes10 _ _ _ _ (by omega)).mono ?_; rintro e w' ⟨rfl, rfl⟩) | (go_at_call 7; refine (clone_any a0 len0 cap0 x w HR.out (by omega) HC.out).mono ?_; rintro e w1 ⟨a1, c1, rfl, hr1, hb1⟩; have HR1 : Hid (Reads .u8 w1 a1 len0 x) := hr1; have HB1 : Hid (Below w.heap.size w w1) := hb1; clear hr1 hb1))
      refine (zzwrong_any a1 len0 c1 x w1 HR1.out (by omega)).mono ?_
      rintro e w2 ⟨a2, n2, c2, hn2, rfl, hr2, hb2⟩
      rw [← HN.out] at hn2
      subst hn2
      have HR2 : Hid (Reads .u8 w2 a2 n2 (wrong x)) := hr2
      have HB2 : Hid (Below w.heap.size w w2) := HB1.out.trans (hb2.mono HB1.out.size)
      have HR1' : Hid (Reads .u8 w2 a1 len0 x) := HR1.out.below hb2 rfl
      clear hr2 hb2 HR1
      go_wp2_with fail
      refine (bytesEqual_any a2 a1 n2 c2 len0 c1 (wrong x) x w2 HR2.out HR1'.out (by omega) (by omega)).mono ?_
      rintro e w4 ⟨he, q, rfl⟩
      rw [HNE.out] at he
      subst he
      have HR3 : Hid (Reads .u8 (w2.drewN q) a2 n2 (wrong x)) := HR2.out.drewN q
      have HR13 : Hid (Reads .u8 (w2.drewN q) a1 len0 x) := HR1'.out.drewN q
      cases hax : ascii x with
      | false =>
        go_wp2_with fail
        refine (ascii_any a1 len0 c1 x (w2.drewN q) HR13.out (by omega)).mono ?_
        rintro e w5 ⟨he, rfl⟩
        rw [hax] at he
        subst he
        go_wp2
        go_ret
        exact ⟨rfl, below_drewN HB2.out q⟩
      | true =>
        have haw := HASC.out hax
        go_wp2_with fail
        refine (ascii_any a1 len0 c1 x (w2.drewN q) HR13.out (by omega)).mono ?_
        rintro e w5 ⟨he, rfl⟩
        rw [hax] at he
        subst he
        go_wp2_with fail
        refine (ascii_any a2 n2 c2 (wrong x) (w2.drewN q) HR3.out (by omega)).mono ?_
        rintro e w5 ⟨he, rfl⟩
        rw [haw] at he
        subst he
        go_wp2
        go_ret
        exact ⟨rfl, below_drewN HB2.out q⟩

/-! ### THE ROW's STEP: WRITTEN OUT: LEAVE IT -/
set_option maxRecDepth 100000 in
theorem lifted (os : Os) (started : os.Started) (H : Type) (enc : TypeId × Value → H) :
    ReturnsInHanded {} Try.checked os 4 .any (Rows.fnWrongResultBreaksASCIISpec.pre6 enc Try.prog Try.f4 Rows.fnWrongResultBreaksASCIIRow.domain false) (Rows.fnWrongResultBreaksASCIISpec.post enc Try.prog Try.f4 false true false false) := by
  refine returnsInHanded_of_change (C := Try.checked) own started (by kernel_rfl) Try.func4
    (ChangeSpec.witness6 (enc := enc) (C := Try.checked) false ⟨#[], #[.slice none 0 0], []⟩ 8 (by kernel_rfl) (by kernel_rfl) (by kernel_rfl) (by kernel_rfl)) ?_
  intro W base args ds gs before hval0 hW hcnd _
  have hval : ∀ (j : Nat) t v, Try.f4.params[j]? = some t → args[j]? = some v → Value.okWide Try.prog W .any base t v := hval0
  have hW' := hW
  obtain ⟨p, q, hA0, hV, rfl, hfz, hnd⟩ := hW
  have hA : DataW.TrodAll enc Try.prog W 0 (fun _ => true) true Try.f4.params.toList args.toList ds p := hA0
  rw [Try.params4] at hA hval
  obtain ⟨v0, vs0, d0, ds0, p0, q0, hargs, rfl, rfl, h0, r0⟩ := trodAll_cons hA
  obtain ⟨rfl, rfl, rfl⟩ := trodAll_nil r0
  obtain rfl : args = #[v0] := by cases args; simp_all
  obtain ⟨rfl, rfl⟩ := trodVars_none hV
  obtain ⟨a0, len0, cap0, rfl⟩ := okWide_slice Try.underlying22 (hval 0 22 v0 rfl rfl)
  have k0 := h0
  have lt0 : ∀ x ∈ p0, x.block < W.heap.size := by obtain ⟨m, hm⟩ := k0; exact DataW.trod_lt m _ _ _ hm
  obtain ⟨z0, w0⟩ : ∃ zs, IsRow .u8 W a0 len0 cap0 zs := by
    obtain ⟨fuel, hf⟩ := h0
    rcases open_ints Try.underlying22 Try.underlying5 (by kernel_rfl) hf with ⟨hcs, _⟩ | ⟨x, l, c, zs, hcs, _, hl, hm, hz, _, hcell, hwz⟩
    · simp [Value.cells] at hcs
      obtain ⟨rfl, rfl, rfl⟩ := hcs
      exact ⟨[], .inl ⟨rfl, rfl, rfl, rfl⟩⟩
    · simp [Value.cells] at hcs
      obtain ⟨rfl, rfl, rfl⟩ := hcs
      exact ⟨zs, .inr ⟨_, rfl, hl, hm, by simpa using hz, hcell, hwz⟩⟩
  clear hA0 hval0
  refine (walk a0 len0 cap0 z0 W w0).mono fun e W' ⟨he, bel⟩ => ?_
  subst he
  exact ⟨_, rfl, _, _, _, [], _, [], hW', trodAll_mk1 (shut_bool Try.underlying4 _), (trodAll_cons_mk (Below.trod laidOut (by kernel_rfl) (of_decide_eq_true (by kernel_rfl)) k0 bel lt0) trodAll_mk0), rfl, bel.frame _, fun h => by cases h⟩

theorem over : Rows.fnWrongResultBreaksASCIIRow.holds Try.pinned (OpenSpec.ofChange Rows.fnWrongResultBreaksASCIISpec) :=
  OpenClaim.holds_of_wide 4 Try.f4 rfl rfl rfl rfl rfl rfl rfl ⟨rfl, rfl, rfl, rfl, rfl⟩ rfl rfl rfl rfl rfl (by kernel_rfl) Try.func4 (by kernel_rfl)
    (of_decide_eq_true (by kernel_rfl)) (by unfold Func.isWrapper; first | (rw [if_pos (by decide +kernel)]; kernel_rfl) | (rw [if_neg (by decide +kernel)]; exact ⟨rfl, rfl⟩))
    (fun os started H enc _ => lifted os started H enc)

/-- ████ THE STATEMENT ████ -/
theorem proved : Rows.FnWrongResultBreaksASCIISaid := over
end Go.Proofs.Qxb6601558a.fnWrongResultBreaksASCII
