import Derived.Test.Qxb6601558aHist
import Derived.ProofKit
import Derived.ShutString
import Derived.ChangeOld
import Derived.Below
import Derived.Deep.Matrix
namespace Go.Proofs.Qxb6601558a.fnSentCountsCountScriptHistogram
open Go.ChangeShapes Go.WideShapes Go.ChangeAt Go.RowKit Go.Deep
set_option linter.unusedVariables false

theorem own : ownKnob Try.prog.godebug = none := by kernel_rfl
theorem laidOut : laidOutB Try.prog = true := by kernel_rfl

/-- The frames that came in, as the walk is told of them. -/
theorem frames_of_rows {w : World} {a : Addr} {len cap : Nat} {A : Nat → Option Addr} {L C : Nat → Nat} {Z : Nat → List Int} (hl : len ≤ cap)
    (h : ∀ r, r < cap → w.cell? (a.add r) = some (.slice (A r) (L r) (C r)) ∧ L r ≤ C r ∧ C r ≤ maxLen ∧ (Z r).length = C r ∧ (∀ n ∈ Z r, (Lit.int .u8 n).wf = true) ∧ (A r = none → C r = 0) ∧
        ∀ a', A r = some a' → 0 ≤ a'.block ∧ ∀ c, c < C r → w.cell? (a'.add c) = some (.int .u8 ((Z r).getD c 0))) :
    Frames w (some a) len ((List.range len).map fun r => (Z r).take (L r)) ∧ ∀ f ∈ (List.range len).map (fun r => (Z r).take (L r)), ∀ z ∈ f, 0 ≤ z ∧ z ≤ 255 := by
  refine ⟨⟨by simp, fun h0 => ?_⟩, fun f hf z hz => ?_⟩
  · obtain ⟨b, off, spot⟩ := a
    have hspot : spot = none := by simpa [Addr.add] using World.cell?_spot (h 0 (by omega)).1
    subst hspot
    refine ⟨b, off, rfl, fun i hi => ?_⟩
    obtain ⟨hc, hLC, hm, hZ, hw, hn, ha⟩ := h i (by omega)
    rw [add_plain] at hc
    refine ⟨_, hc, A i, L i, C i, rfl, ?_, hn⟩
    have e : (List.map (fun r => (Z r).take (L r)) (List.range len)).getD i [] = (Z i).take (L i) := by simp [hi]
    rw [e]
    refine ⟨by simp; omega, fun hpos => ?_⟩
    match hA : A i with
    | none => have := hn hA; omega
    | some ad =>
      have hcells := (ha ad hA).2
      obtain ⟨b', off', spot'⟩ := ad
      have hspot' : spot' = none := by simpa [Addr.add] using World.cell?_spot (hcells 0 (by omega))
      subst hspot'
      refine ⟨b', off', rfl, fun j hj => ?_⟩
      have := hcells j (by omega)
      rw [add_plain] at this
      rw [this]
      simp [hj]
  · simp at hf
    obtain ⟨r, hr, rfl⟩ := hf
    exact bounds_u8 ((h r (by omega)).2.2.2.2.1 z (List.mem_of_mem_take hz))

/-! ### THE ROW's STEP -/
set_option maxRecDepth 100000 in
theorem lifted (os : Os) (started : os.Started) (H : Type) (enc : TypeId × Value → H) :
    ReturnsInHanded {} Try.checked os 5 .any (Rows.fnSentCountsCountScriptHistogramSpec.pre6 enc Try.prog Try.f5 Rows.fnSentCountsCountScriptHistogramRow.domain false) (Rows.fnSentCountsCountScriptHistogramSpec.post enc Try.prog Try.f5 false true false false) := by
  refine returnsInHanded_of_change (C := Try.checked) own started (by kernel_rfl) Try.func5
    (ChangeSpec.witness6 (enc := enc) (C := Try.checked) false ⟨#[], #[.int .u64 0, .int .u64 0, .int .u64 0, .slice none 0 0], []⟩ 8 (by kernel_rfl) (by kernel_rfl) (by kernel_rfl) (by kernel_rfl)) ?_
  intro W base args ds gs before hval0 hW hcnd _
  have hval : ∀ (j : Nat) t v, Try.f5.params[j]? = some t → args[j]? = some v → Value.okWide Try.prog W .any base t v := hval0
  have hW' := hW
  obtain ⟨p, q, hA0, hV, rfl, hfz, hnd⟩ := hW
  have hA : DataW.TrodAll enc Try.prog W 0 (fun _ => true) true Try.f5.params.toList args.toList ds p := hA0
  rw [Try.params5] at hA hval
  obtain ⟨v0, vs0, d0, ds0, p0, q0, hargs, rfl, rfl, h0, r0⟩ := trodAll_cons hA
  obtain ⟨v1, vs1, d1, ds1, p1, q1, rfl, rfl, rfl, h1, r1⟩ := trodAll_cons r0
  obtain ⟨v2, vs2, d2, ds2, p2, q2, rfl, rfl, rfl, h2, r2⟩ := trodAll_cons r1
  obtain ⟨v3, vs3, d3, ds3, p3, q3, rfl, rfl, rfl, h3, r3⟩ := trodAll_cons r2
  obtain ⟨rfl, rfl, rfl⟩ := trodAll_nil r3
  obtain rfl : args = #[v0, v1, v2, v3] := by cases args; simp_all
  obtain ⟨rfl, rfl⟩ := trodVars_none hV
  obtain ⟨a0, rfl, rfl, rfl, w0⟩ := open_int Try.underlying26 (hval 0 26 v0 rfl rfl) h0
  obtain ⟨a1, rfl, rfl, rfl, w1⟩ := open_int Try.underlying26 (hval 1 26 v1 rfl rfl) h1
  obtain ⟨a2, rfl, rfl, rfl, w2⟩ := open_int Try.underlying26 (hval 2 26 v2 rfl rfl) h2
  obtain ⟨a3, len3, cap3, rfl⟩ := okWide_slice Try.underlying27 (hval 3 27 v3 rfl rfl)
  have k3 := h3
  have lt3 : ∀ x ∈ p3, x.block < W.heap.size := by obtain ⟨m, hm⟩ := k3; exact DataW.trod_lt m _ _ _ hm
  obtain ⟨fs, hfr, hnil, hmx, hby⟩ : ∃ fs, Frames W a3 len3 fs ∧ (a3 = none → len3 = 0 ∧ cap3 = 0) ∧ len3 ≤ 9223372036854775807 ∧ ∀ f ∈ fs, ∀ z ∈ f, 0 ≤ z ∧ z ≤ 255 := by
    obtain ⟨fuel, hf⟩ := h3
    rcases open_int_rows Try.underlying27 Try.underlying22 Try.underlying5 (by kernel_rfl) (by kernel_rfl) hf with ⟨hcs, _⟩ | ⟨x, l, c, A, L, C, Z, hcs, _, hl, hm, _, hrows⟩
    · simp [Value.cells] at hcs
      obtain ⟨rfl, rfl, rfl⟩ := hcs
      exact ⟨[], ⟨rfl, fun h => absurd h (by omega)⟩, fun _ => ⟨rfl, rfl⟩, by omega, by simp⟩
    · simp [Value.cells] at hcs
      obtain ⟨rfl, rfl, rfl⟩ := hcs
      obtain ⟨f1, f2⟩ := frames_of_rows hl hrows
      unfold maxLen at hm
      exact ⟨_, f1, (by intro h; cases h), by omega, f2⟩
  clear hA0 hval0
  refine (hist_walk a0 a1 a2 a3 len3 cap3 fs W hfr hnil hmx hby w0 w1 w2).mono fun e W' ⟨he, bel⟩ => ?_
  subst he
  exact ⟨_, rfl, _, _, _, [], _, [], hW', trodAll_mk1 (shut_bool Try.underlying4 _), (trodAll_cons_mk (shut_int Try.underlying26 w0) (trodAll_cons_mk (shut_int Try.underlying26 w1) (trodAll_cons_mk (shut_int Try.underlying26 w2) (trodAll_cons_mk (Below.trod laidOut (by kernel_rfl) (of_decide_eq_true (by kernel_rfl)) k3 bel lt3) trodAll_mk0)))), rfl, bel.frame _, fun h => by cases h⟩

theorem over : Rows.fnSentCountsCountScriptHistogramRow.holds Try.pinned (OpenSpec.ofChange Rows.fnSentCountsCountScriptHistogramSpec) :=
  OpenClaim.holds_of_wide 5 Try.f5 rfl rfl rfl rfl rfl rfl rfl ⟨rfl, rfl, rfl, rfl, rfl⟩ rfl rfl rfl rfl rfl (by kernel_rfl) Try.func5 (by kernel_rfl)
    (of_decide_eq_true (by kernel_rfl)) (by unfold Func.isWrapper; first | (rw [if_pos (by decide +kernel)]; kernel_rfl) | (rw [if_neg (by decide +kernel)]; exact ⟨rfl, rfl⟩))
    (fun os started H enc _ => lifted os started H enc)

/-- THE STATEMENT -/
theorem proved : Rows.FnSentCountsCountScriptHistogramSaid := over
end Go.Proofs.Qxb6601558a.fnSentCountsCountScriptHistogram
