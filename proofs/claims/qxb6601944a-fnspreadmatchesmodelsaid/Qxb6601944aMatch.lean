import Derived.Test.Qxb6601944aModel
import Derived.WalkKit
import Derived.ProofKit
import Derived.OpenShut
import Derived.ShutString
import Derived.ChangeOld
import Derived.Below
namespace Go.Proofs.Qxb6601944a.fnSpreadMatchesModel
open Go.ChangeShapes Go.WideShapes Go.ChangeAt Go.RowKit
open Go.ChangeMaps (open_string shut_string)
set_option linter.unusedVariables false

theorem own : ownKnob Try.prog.godebug = none := by kernel_rfl
theorem laidOut : laidOutB Try.prog = true := by kernel_rfl

/-- WHAT THE WALK IS TOLD OF A SLICE OF INTEGERS THAT CAME IN: it is nil; or it leads to a row of 'cap' cells, the numbers 'zs' (the first 'len' are its elements, the rest its spare room), each fitting its kind. -/
def IsRow (k : IntKind) (w : World) (a : Option Addr) (len cap : Nat) (zs : List Int) : Prop :=
  (a = none ∧ len = 0 ∧ cap = 0 ∧ zs = []) ∨
  ∃ x, a = some x ∧ len ≤ cap ∧ cap ≤ maxLen ∧ zs.length = cap ∧ (∀ i, i < zs.length → w.cell? (x.add i) = some (.int k (zs.getD i 0))) ∧ ∀ n ∈ zs, (Lit.int k n).wf = true

theorem reads_of_isRow {w : World} {a : Option Addr} {len cap : Nat} {zs : List Int} (h : IsRow .i64 w a len cap zs) : Reads w a len (fun i => zs.getD i 0) ∧ (a = none → len = 0 ∧ cap = 0) ∧ len ≤ maxLen := by
  rcases h with ⟨rfl, rfl, rfl, rfl⟩ | ⟨x, rfl, hl, hm, hz, hc, hw⟩
  · exact ⟨fun h => absurd h (by omega), fun _ => ⟨rfl, rfl⟩, Nat.zero_le _⟩
  · refine ⟨fun h0 => ?_, (by intro h; cases h), by omega⟩
    obtain ⟨b, off, spot⟩ := x
    have hspot : spot = none := by simpa [Addr.add] using World.cell?_spot (hc 0 (by omega))
    subst hspot
    refine ⟨b, off, rfl, fun i hi => ?_⟩
    have := hc i (by omega)
    rw [add_plain] at this
    exact this

theorem bytes18 (a : Option Addr) (n c : Nat) (k : Int) (w : World) (h : n ≤ 1048576) : Calls Try.prog 18 #[.slice a n c, .int .i64 k] w fun e w' => e = .returned (.bool true) ∧ w = w' := by
  go_enter Try.func18, Try.ntmps18
  go_wp2
  go_ret
  exact ⟨rfl, rfl⟩

set_option maxHeartbeats 1000000 in
theorem walk (a0 : Option Addr) (len0 cap0 : Nat) (z0 : List Int) (a1 : Int) (w : World) (w0 : IsRow .i64 w a0 len0 cap0 z0) (w1 : (Lit.int .i64 a1).wf = true) :
    Calls Try.prog 6 #[.slice a0 len0 cap0, .int .i64 a1] w fun e w' => e = .returned (.bool true) ∧ Below w.heap.size w w' := by
  obtain ⟨hr, hc0, hm⟩ := reads_of_isRow w0
  have hk := (bounds_i64 w1).2
  unfold maxLen at hm
  clear w0 w1
  obtain ⟨f, hf⟩ : ∃ f : Nat → Int, f = (fun i => z0.getD i 0) := ⟨_, rfl⟩
  rw [← hf] at hr
  clear hf
  have HX : Hid (Reads w a0 len0 f) := hr
  have HC : Hid (a0 = none → len0 = 0 ∧ cap0 = 0) := hc0
  clear hr hc0
  by_cases hbig : 1048576 < len0
  · go_enter Try.func6, Try.ntmps6
    go_wp2
    go_ret
    exact ⟨rfl, Below.refl _ _⟩
  · by_cases hbig2 : 4096 < len0
    · go_enter Try.func6, Try.ntmps6
      go_wp2_with (go_at_call 18; refine (bytes18 _ _ _ _ _ (by omega)).mono ?_; rintro e w' ⟨rfl, rfl⟩)
      go_ret
      exact ⟨rfl, Below.refl _ _⟩
    · go_enter Try.func6, Try.ntmps6
      go_wp2_with (go_at_call 18; refine (bytes18 _ _ _ _ _ (by omega)).mono ?_; rintro e w' ⟨rfl, rfl⟩)
      refine (dom19 a0 len0 cap0 a1 f w HX.out (by omega) hk).mono ?_
      rintro e w' ⟨b, rfl, rfl, hdom⟩
      cases b with
      | false =>
        go_wp2_with fail
        go_ret
        exact ⟨rfl, Below.refl _ _⟩
      | true =>
        have HD : Hid (Dom f len0 a1) := hdom rfl
        clear hdom
        go_wp2_with fail
        refine (clone20 a0 len0 cap0 f w HX.out (by omega) HC.out).mono ?_
        rintro e w1 ⟨ac, cc, rfl, hr1, hb1⟩
        have HX1 : Hid (Reads w1 ac len0 f) := hr1
        have HB1 : Hid (Below w.heap.size w w1) := hb1
        clear hr1 hb1
        go_wp2_with fail
        refine (zz21 ac len0 cc a1 f w1 HX1.out (by omega) hk HD.out).mono ?_
        rintro e w2 ⟨g, D, t, js, rfl, hr2, hres, hb2⟩
        have HX2 : Hid (Reads w2 ac len0 f) := HX1.out.below hb2
        have HT2 : Hid (Reads w2 (some ⟨g, 0, none⟩) len0 D) := hr2
        have HRS : Hid (Res f len0 a1 D t js) := hres
        have HB2 : Hid (Below w.heap.size w w2) := HB1.out.trans (hb2.mono HB1.out.size)
        clear hr2 hres hb2 HX1
        go_wp2_with fail
        refine (model22 ac len0 cc a1 f w2 HX2.out (by omega) hk HD.out).mono ?_
        rintro e w3 ⟨g', D', t', js', rfl, hr3, hres', hb3⟩
        have HT3 : Hid (Reads w3 (some ⟨g, 0, none⟩) len0 D) := HT2.out.below hb3
        have HT3' : Hid (Reads w3 (some ⟨g', 0, none⟩) len0 D') := hr3
        have HB3 : Hid (Below w.heap.size w w3) := HB2.out.trans (hb3.mono HB2.out.size)
        have HE : Hid (∀ i, i < len0 → D i = D' i) := HRS.out.unique hres'
        clear hr3 hres' hb3 HT2
        go_wp2_with fail
        refine (same13 (some ⟨g, 0, none⟩) (some ⟨g', 0, none⟩) len0 len0 len0 D D' w3 HT3.out HT3'.out (by omega) HE.out).mono ?_
        rintro e w4 ⟨rfl, q, rfl⟩
        go_wp2
        go_ret
        exact ⟨rfl, below_drewN HB3.out q⟩

/-! ### THE ROW's STEP: WRITTEN OUT: LEAVE IT -/
set_option maxRecDepth 100000 in
theorem lifted (os : Os) (started : os.Started) (H : Type) (enc : TypeId × Value → H) :
    ReturnsInHanded {} Try.checked os 6 .any (Rows.fnSpreadMatchesModelSpec.pre6 enc Try.prog Try.f6 Rows.fnSpreadMatchesModelRow.domain false) (Rows.fnSpreadMatchesModelSpec.post enc Try.prog Try.f6 false true false false) := by
  refine returnsInHanded_of_change (C := Try.checked) own started (by kernel_rfl) Try.func6
    (ChangeSpec.witness6 (enc := enc) (C := Try.checked) false ⟨#[], #[.slice none 0 0, .int .i64 0], []⟩ 8 (by kernel_rfl) (by kernel_rfl) (by kernel_rfl) (by kernel_rfl)) ?_
  intro W base args ds gs before hval0 hW hcnd _
  have hval : ∀ (j : Nat) t v, Try.f6.params[j]? = some t → args[j]? = some v → Value.okWide Try.prog W .any base t v := hval0
  have hW' := hW
  obtain ⟨p, q, hA0, hV, rfl, hfz, hnd⟩ := hW
  have hA : DataW.TrodAll enc Try.prog W 0 (fun _ => true) true Try.f6.params.toList args.toList ds p := hA0
  rw [Try.params6] at hA hval
  obtain ⟨v0, vs0, d0, ds0, p0, q0, hargs, rfl, rfl, h0, r0⟩ := trodAll_cons hA
  obtain ⟨v1, vs1, d1, ds1, p1, q1, rfl, rfl, rfl, h1, r1⟩ := trodAll_cons r0
  obtain ⟨rfl, rfl, rfl⟩ := trodAll_nil r1
  obtain rfl : args = #[v0, v1] := by cases args; simp_all
  obtain ⟨rfl, rfl⟩ := trodVars_none hV
  obtain ⟨a0, len0, cap0, rfl⟩ := okWide_slice Try.underlying24 (hval 0 24 v0 rfl rfl)
  have k0 := h0
  have lt0 : ∀ x ∈ p0, x.block < W.heap.size := by obtain ⟨m, hm⟩ := k0; exact DataW.trod_lt m _ _ _ hm
  obtain ⟨z0, w0⟩ : ∃ zs, IsRow .i64 W a0 len0 cap0 zs := by
    obtain ⟨fuel, hf⟩ := h0
    rcases open_ints Try.underlying24 Try.underlying3 (by kernel_rfl) hf with ⟨hcs, _⟩ | ⟨x, l, c, zs, hcs, _, hl, hm, hz, _, hcell, hwz⟩
    · simp [Value.cells] at hcs
      obtain ⟨rfl, rfl, rfl⟩ := hcs
      exact ⟨[], .inl ⟨rfl, rfl, rfl, rfl⟩⟩
    · simp [Value.cells] at hcs
      obtain ⟨rfl, rfl, rfl⟩ := hcs
      exact ⟨zs, .inr ⟨_, rfl, hl, hm, by simpa using hz, hcell, hwz⟩⟩
  obtain ⟨a1, rfl, rfl, rfl, w1⟩ := open_int Try.underlying3 (hval 1 3 v1 rfl rfl) h1
  clear hA0 hval0
  refine (walk a0 len0 cap0 z0 a1 W w0 w1).mono fun e W' ⟨he, bel⟩ => ?_
  subst he
  exact ⟨_, rfl, _, _, _, [], _, [], hW', trodAll_mk1 (shut_bool Try.underlying4 _), (trodAll_cons_mk (Below.trod laidOut (by kernel_rfl) (of_decide_eq_true (by kernel_rfl)) k0 bel lt0) (trodAll_cons_mk (shut_int Try.underlying3 w1) trodAll_mk0)), rfl, bel.frame _, fun h => by cases h⟩

theorem over : Rows.fnSpreadMatchesModelRow.holds Try.pinned (OpenSpec.ofChange Rows.fnSpreadMatchesModelSpec) :=
  OpenClaim.holds_of_wide 6 Try.f6 rfl rfl rfl rfl rfl rfl rfl ⟨rfl, rfl, rfl, rfl, rfl⟩ rfl rfl rfl rfl rfl (by kernel_rfl) Try.func6 (by kernel_rfl)
    (of_decide_eq_true (by kernel_rfl)) (by unfold Func.isWrapper; first | (rw [if_pos (by decide +kernel)]; kernel_rfl) | (rw [if_neg (by decide +kernel)]; exact ⟨rfl, rfl⟩))
    (fun os started H enc _ => lifted os started H enc)

/-- ████ THE STATEMENT ████ -/
theorem proved : Rows.FnSpreadMatchesModelSaid := over
end Go.Proofs.Qxb6601944a.fnSpreadMatchesModel
