import Derived.Test.Qxb6600740aWalks2
import Derived.WalkKit
import Derived.ProofKit
import Derived.OpenShut
import Derived.ShutString
namespace Go.Proofs.Qxb6600740a.fnValidKeyAgreesWithVariantName
open Go.ChangeShapes Go.WideShapes Go.ChangeAt Go.RowKit
open Go.ChangeMaps (open_string shut_string)
set_option linter.unusedVariables false      -- a walk need not use every 'w<i>' (that an integer argument fits its kind)

theorem own : ownKnob Try.prog.godebug = none := by kernel_rfl

/-! ### THE PLAIN LAW -/
theorem lead {s : ByteArray} (hv : IsVar s) (hk : ¬ IsKey s) : bt s 0 = 95 ∨ bt s 0 = 45 := by
  apply Classical.byContradiction
  intro hn
  refine hk ⟨hv.1, by have := hv.2.1; omega, fun i hi => ?_⟩
  have h := hv.2.2 i hi
  rcases h with h | h
  · exact .inl h
  · by_cases e : i = 0
    · subst e; exact absurd h hn
    · exact .inr ⟨by omega, by omega⟩

theorem dotted {s : ByteArray} (hk : IsKey s) (hv : ¬ IsVar s) (hs : s.size ≤ 64) : HasDot s := by
  apply Classical.byContradiction
  intro hn
  refine hv ⟨hk.1, hs, fun i hi => ?_⟩
  rcases hk.2.2 i hi with h | ⟨_, h⟩
  · exact .inl h
  · rcases h with h | h
    · exact absurd ⟨i, hi, h⟩ hn
    · exact .inr h

theorem bytes10 (s : ByteArray) (w : World) (h : s.size ≤ 1048576) : Calls Try.prog 10 #[.string s] w fun e w' => e = .returned (.bool true) ∧ w = w' := by
  go_enter Try.func10, Try.ntmps10
  go_wp2
  go_ret
  exact ⟨rfl, rfl⟩

set_option maxHeartbeats 1000000 in
theorem walk (a0 : ByteArray) (w0 : a0.size ≤ maxLen) (w : World) :
    Calls Try.prog 5 #[.string a0] w fun e w' => e = .returned (.bool true) ∧ Grown w w' := by
  unfold maxLen at w0
  by_cases hbig : 1048576 < a0.size
  · go_enter Try.func5, Try.ntmps5
    go_wp2
    go_ret
    exact ⟨rfl, Grown.refl _⟩
  · have hs : a0.size ≤ 1048576 := by omega
    go_enter Try.func5, Try.ntmps5
    go_wp2_with (go_at_call 10; refine (bytes10 _ _ hs).mono ?_; rintro e w' ⟨rfl, rfl⟩)
    refine (key7 a0 w hs).mono ?_
    rintro e w' ⟨b1, rfl, rfl, hb1⟩
    have HB1 : Hid (b1 = true ↔ IsKey a0) := hb1
    clear hb1
    go_wp2_with fail
    refine (zz9 a0 w hs).mono ?_
    rintro e w' ⟨b2, rfl, rfl, hb2⟩
    have HB2 : Hid (b2 = true ↔ IsVar a0) := hb2
    clear hb2
    match b1, b2, HB1, HB2 with
    | true, true, HB1, HB2 =>
      go_wp2
      go_ret
      exact ⟨rfl, Grown.refl _⟩
    | false, false, HB1, HB2 =>
      go_wp2
      go_ret
      exact ⟨rfl, Grown.refl _⟩
    | false, true, HB1, HB2 =>
      have hv : IsVar a0 := HB2.out.1 rfl
      have hk : ¬ IsKey a0 := fun h => by have := HB1.out.2 h; cases this
      have hp : 0 < a0.size := hv.1
      have hpi : (0 : Int) < a0.size := by omega
      have hl := lead hv hk
      rw [bt_eq a0 0 hp] at hl
      clear hv hk HB1 HB2
      by_cases h95 : (a0[0].toNat : Int) = 95
      · have hb : ((a0[0].toNat : Int) == 95) = true := beq_iff_eq.2 h95
        clear h95 hl
        go_wp2
        go_ret
        exact ⟨rfl, Grown.refl _⟩
      · have hb : ((a0[0].toNat : Int) == 95) = false := beq_eq_false_iff_ne.2 h95
        have hc : ((a0[0].toNat : Int) == 45) = true := beq_iff_eq.2 (by omega)
        clear h95 hl
        go_wp2
        go_ret
        exact ⟨rfl, Grown.refl _⟩
    | true, false, HB1, HB2 =>
      have hk : IsKey a0 := HB1.out.1 rfl
      have hv : ¬ IsVar a0 := fun h => by have := HB2.out.2 h; cases this
      by_cases h64 : 64 < a0.size
      · clear hk hv HB1 HB2
        go_wp2
        go_ret
        exact ⟨rfl, Grown.refl _⟩
      · have HD : Hid (HasDot a0) := dotted hk hv (by omega)
        clear hk hv HB1 HB2
        go_wp2_with fail
        refine (dot11 a0 w hs).mono ?_
        rintro e w' ⟨b3, rfl, rfl, hb3⟩
        obtain rfl : b3 = true := hb3.2 HD.out
        clear hb3
        go_wp2
        go_ret
        exact ⟨rfl, Grown.refl _⟩

/-! ### THE ROW's STEP: WRITTEN OUT: LEAVE IT -/
set_option maxRecDepth 100000 in
theorem lifted (os : Os) (started : os.Started) (H : Type) (enc : TypeId × Value → H) :
    ReturnsInHanded {} Try.checked os 5 .any (Rows.fnValidKeyAgreesWithVariantNameSpec.pre6 enc Try.prog Try.f5 Rows.fnValidKeyAgreesWithVariantNameRow.domain false) (Rows.fnValidKeyAgreesWithVariantNameSpec.post enc Try.prog Try.f5 false true false false) := by
  refine returnsInHanded_of_change (C := Try.checked) own started (by kernel_rfl) Try.func5
    (ChangeSpec.witness6 (enc := enc) (C := Try.checked) false ⟨#[], #[.string ByteArray.empty], []⟩ 8 (by kernel_rfl) (by kernel_rfl) (by kernel_rfl) (by kernel_rfl)) ?_
  intro W base args ds gs before hval0 hW hcnd _
  have hval : ∀ (j : Nat) t v, Try.f5.params[j]? = some t → args[j]? = some v → Value.okWide Try.prog W .any base t v := hval0
  have hW' := hW
  obtain ⟨p, q, hA0, hV, rfl, hfz, hnd⟩ := hW
  have hA : DataW.TrodAll enc Try.prog W 0 (fun _ => true) true Try.f5.params.toList args.toList ds p := hA0
  rw [Try.params5] at hA hval
  obtain ⟨v0, vs0, d0, ds0, p0, q0, hargs, rfl, rfl, h0, r0⟩ := trodAll_cons hA
  obtain ⟨rfl, rfl, rfl⟩ := trodAll_nil r0
  obtain rfl : args = #[v0] := by cases args; simp_all
  obtain ⟨rfl, rfl⟩ := trodVars_none hV
  obtain ⟨a0, rfl, rfl, rfl, w0⟩ := open_string Try.underlying9 (hval 0 9 v0 rfl rfl) h0
  clear hA0 hval0
  simp only [List.append_nil] at hW'
  refine (walk a0 w0 W).mono fun e W' ⟨he, hg⟩ => ?_
  subst he
  exact ⟨_, rfl, post_of_same (pa := []) (pv := []) hW' (fun _ _ _ => (trodAll_cons_mk (shut_bool Try.underlying4 _) trodAll_mk0)) (fun sp _ => (trodAll_cons_mk (shut_string Try.underlying9 w0) trodAll_mk0)) (fun _ _ => rfl) rfl
    (hg.frame _) hg.2.1 (ok_one (by kernel_rfl) rfl (okWide_bool_mk Try.underlying4 _))⟩

theorem over : Rows.fnValidKeyAgreesWithVariantNameRow.holds Try.pinned (OpenSpec.ofChange Rows.fnValidKeyAgreesWithVariantNameSpec) :=
  OpenClaim.holds_of_wide 5 Try.f5 rfl rfl rfl rfl rfl rfl rfl ⟨rfl, rfl, rfl, rfl, rfl⟩ rfl rfl rfl rfl rfl (by kernel_rfl) Try.func5 (by kernel_rfl)
    (of_decide_eq_true (by kernel_rfl)) (by unfold Func.isWrapper; first | (rw [if_pos (by decide +kernel)]; kernel_rfl) | (rw [if_neg (by decide +kernel)]; exact ⟨rfl, rfl⟩))
    (fun os started H enc _ => lifted os started H enc)

/-- ████ THE STATEMENT ████ -/
theorem proved : Rows.FnValidKeyAgreesWithVariantNameSaid :=
  over
end Go.Proofs.Qxb6600740a.fnValidKeyAgreesWithVariantName
