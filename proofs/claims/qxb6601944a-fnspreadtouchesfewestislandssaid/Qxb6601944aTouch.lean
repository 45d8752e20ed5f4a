import Derived.Test.Qxb6601944aSpread
import Derived.WalkKit
import Derived.ProofKit
import Derived.OpenShut
import Derived.ShutString
import Derived.ChangeOld
import Derived.Below
namespace Go.Proofs.Qxb6601944a.fnSpreadTouchesFewestIslands
open Go.ChangeShapes Go.WideShapes Go.ChangeAt Go.RowKit
open Go.ChangeMaps (open_string shut_string)
set_option linter.unusedVariables false

theorem own : ownKnob Try.prog.godebug = none := by kernel_rfl
theorem laidOut : laidOutB Try.prog = true := by kernel_rfl

/-- WHAT THE WALK IS TOLD OF A SLICE OF INTEGERS THAT CAME IN: it is nil; or it leads to a row of 'cap' cells, the numbers 'zs' (the first 'len' are its elements, the rest its spare room), each fitting its kind. -/
def IsRow (k : IntKind) (w : World) (a : Option Addr) (len cap : Nat) (zs : List Int) : Prop :=
  (a = none ∧ len = 0 ∧ cap = 0 ∧ zs = []) ∨
  ∃ x, a = some x ∧ len ≤ cap ∧ cap ≤ maxLen ∧ zs.length = cap ∧ (∀ i, i < zs.length → w.cell? (x.add i) = some (.int k (zs.getD i 0))) ∧ ∀ n ∈ zs, (Lit.int k n).wf = true

theorem reads_of_isRow {w : World} {a : Option Addr} {len cap : Nat} {zs : List Int} (h : IsRow .i64 w a len cap zs) : Reads w a len (fun i => zs.getD i 0) ∧ (a = none → len = 0 ∧ cap = 0) ∧ len ≤ maxLen := by
  rcases h with ⟨rfl, rfl, rfl, rfl⟩ | ⟨x, rfl, hl, hm, hz, hc, hw⟩
  · exact ⟨fun h => absurd h (by omega), fun _ => ⟨rfl, rfl⟩, Nat.zero_le _⟩
  · refine ⟨fun h0 => ?_, (by intro h; cases h), by omega⟩
    obtain ⟨b, off, spot⟩ := x
    have hspot : spot = none := by simpa [Addr.add] using World.cell?_spot (hc 0 (by omega))
    subst hspot
    refine ⟨b, off, rfl, fun i hi => ?_⟩
    have := hc i (by omega)
    rw [add_plain] at this
    exact this

theorem bytes23 (a : Option Addr) (n c : Nat) (k : Int) (w : World) (h : n ≤ 1048576) : Calls Try.prog 23 #[.slice a n c, .int .i64 k] w fun e w' => e = .returned (.bool true) ∧ w = w' := by
  go_enter Try.func23, Try.ntmps23
  go_wp2
  go_ret
  exact ⟨rfl, rfl⟩

/-- What the law's loop has seen of the answer. -/
structure Tally (f D : Nat → Int) (k : Int) (j : Nat) (nd tc pc : Int) : Prop where
  nd : nd = k - sm D j
  tc : tc = sm (fun i => one (decide (0 < D i))) j
  pc : pc = sm (fun i => one (decide (0 < D i ∧ D i < f i))) j

theorem Tally.bound {f D : Nat → Int} {k : Int} {j : Nat} {nd tc pc : Int} (h : Tally f D k j nd tc pc) : 0 ≤ tc ∧ tc ≤ j ∧ 0 ≤ pc ∧ pc ≤ j := by
  have h1 := sm_one_le (fun i => decide (0 < D i)) j
  have h2 := sm_one_le (fun i => decide (0 < D i ∧ D i < f i)) j
  have := h.tc
  have := h.pc
  omega

theorem Tally.rest {f D : Nat → Int} {k : Int} {n j t js : Nat} {nd tc pc : Int} (hd : Dom f n k) (hr : Res f n k D t js) (h : Tally f D k j nd tc pc) (hj : j ≤ n) : 0 ≤ nd ∧ nd ≤ k := by
  have h1 : sm D j ≤ sm D n := sm_mono hj (fun i hi => (hr.bound hd i hi).1)
  have h2 : 0 ≤ sm D j := sm_nonneg (fun i hi => (hr.bound hd i (by omega)).1)
  have := hr.sum
  have := h.nd
  omega

theorem tally_none {f D : Nat → Int} {k : Int} {j : Nat} {nd tc pc d : Int} (h : Tally f D k j nd tc pc) (hd : d = D j) (h0 : ¬ 0 < d) : Tally f D k (j + 1) (nd - d) tc pc := by
  subst hd
  refine ⟨by have := h.nd; simp only [sm]; omega, ?_, ?_⟩
  · have := h.tc; simp only [sm]; rw [decide_eq_false h0, one_false]; omega
  · have := h.pc; simp only [sm]; rw [decide_eq_false (fun e => h0 e.1), one_false]; omega

theorem tally_whole {f D : Nat → Int} {k : Int} {j : Nat} {nd tc pc d x : Int} (h : Tally f D k j nd tc pc) (hd : d = D j) (hx : x = f j) (h0 : 0 < d) (h1 : ¬ d < x) : Tally f D k (j + 1) (nd - d) (tc + 1) pc := by
  subst hd
  subst hx
  refine ⟨by have := h.nd; simp only [sm]; omega, ?_, ?_⟩
  · have := h.tc; simp only [sm]; rw [decide_eq_true h0, one_true]; omega
  · have := h.pc; simp only [sm]; rw [decide_eq_false (fun e => h1 e.2), one_false]; omega

theorem tally_part {f D : Nat → Int} {k : Int} {j : Nat} {nd tc pc d x : Int} (h : Tally f D k j nd tc pc) (hd : d = D j) (hx : x = f j) (h0 : 0 < d) (h1 : d < x) : Tally f D k (j + 1) (nd - d) (tc + 1) (pc + 1) := by
  subst hd
  subst hx
  refine ⟨by have := h.nd; simp only [sm]; omega, ?_, ?_⟩
  · have := h.tc; simp only [sm]; rw [decide_eq_true h0, one_true]; omega
  · have := h.pc; simp only [sm]; rw [decide_eq_true ⟨h0, h1⟩, one_true]; omega

set_option maxRecDepth 100000 in
set_option maxHeartbeats 2000000 in
theorem walk (a0 : Option Addr) (len0 cap0 : Nat) (z0 : List Int) (a1 : Int) (w : World) (w0 : IsRow .i64 w a0 len0 cap0 z0) (w1 : (Lit.int .i64 a1).wf = true) :
    Calls Try.prog 7 #[.slice a0 len0 cap0, .int .i64 a1] w fun e w' => e = .returned (.bool true) ∧ Below w.heap.size w w' := by
  obtain ⟨hr, hc0, hm⟩ := reads_of_isRow w0
  have hk := (bounds_i64 w1).2
  unfold maxLen at hm
  clear w0 w1
  obtain ⟨f, hf⟩ : ∃ f : Nat → Int, f = (fun i => z0.getD i 0) := ⟨_, rfl⟩
  rw [← hf] at hr
  clear hf
  have HX : Hid (Reads w a0 len0 f) := hr
  have HC : Hid (a0 = none → len0 = 0 ∧ cap0 = 0) := hc0
  clear hr hc0
  by_cases hbig : 1048576 < len0
  · go_enter Try.func7, Try.ntmps7
    go_wp2
    go_ret
    exact ⟨rfl, Below.refl _ _⟩
  · by_cases hbig2 : 4096 < len0
    · go_enter Try.func7, Try.ntmps7
      go_wp2_with (go_at_call 23; refine (bytes23 _ _ _ _ _ (by omega)).mono ?_; rintro e w' ⟨rfl, rfl⟩)
      go_ret
      exact ⟨rfl, Below.refl _ _⟩
    · go_enter Try.func7, Try.ntmps7
      go_wp2_with (go_at_call 23; refine (bytes23 _ _ _ _ _ (by omega)).mono ?_; rintro e w' ⟨rfl, rfl⟩)
      refine (dom19 a0 len0 cap0 a1 f w HX.out (by omega) hk).mono ?_
      rintro e w' ⟨b, rfl, rfl, hdom⟩
      cases b with
      | false =>
        go_wp2_with fail
        go_ret
        exact ⟨rfl, Below.refl _ _⟩
      | true =>
        have HD : Hid (Dom f len0 a1) := hdom rfl
        have hk1 : 1 ≤ a1 := (hdom rfl).pos
        clear hdom
        go_wp2_with fail
        refine (clone20 a0 len0 cap0 f w HX.out (by omega) HC.out).mono ?_
        rintro e w1 ⟨ac, cc, rfl, hr1, hb1⟩
        have HX1 : Hid (Reads w1 ac len0 f) := hr1
        have HB1 : Hid (Below w.heap.size w w1) := hb1
        clear hr1 hb1
        go_wp2_with fail
        refine (zz21 ac len0 cc a1 f w1 HX1.out (by omega) hk HD.out).mono ?_
        rintro e w2 ⟨g, D, t, js, rfl, hr2, hres, hb2⟩
        have HX2 : Hid (Reads w2 ac len0 f) := HX1.out.below hb2
        have HT2 : Hid (Reads w2 (some ⟨g, 0, none⟩) len0 D) := hr2
        have HRS : Hid (Res f len0 a1 D t js) := hres
        have HB2 : Hid (Below w.heap.size w w2) := HB1.out.trans (hb2.mono HB1.out.size)
        clear hr2 hres hb2 HX1
        go_wp2_with fail
        go_loop [6, 7, 8, 9] (fun nv tv pv jv => ∃ (j : Nat) (nd tc pc : Int), j ≤ len0 ∧ jv = .int .i64 j ∧ nv = .int .i64 nd ∧ tv = .int .i64 tc ∧ pv = .int .i64 pc ∧ Hid (Tally f D a1 j nd tc pc)) (fun _ _ _ jv => len0 - (intOf jv).toNat)
        case atStart => exact ⟨0, a1, 0, 0, Nat.zero_le _, rfl, rfl, rfl, rfl, by simp [sm], rfl, rfl⟩
        case round =>
          obtain ⟨j, nd, tc, pc, hj, rfl, rfl, rfl, rfl, HTL⟩ := hrel
          obtain ⟨ht0, ht1, hp0, hp1⟩ := HTL.out.bound
          obtain ⟨hn0, hn1⟩ := HTL.out.rest HD.out HRS.out hj
          by_cases hjn : j < len0
          · obtain ⟨b0, off, x, rfl, HXx, g1⟩ := HX2.out.at hjn
            obtain ⟨b1, off1, d, had, HDd, g2⟩ := HT2.out.at hjn
            simp only [Option.some.injEq, Addr.mk.injEq] at had
            obtain ⟨rfl, rfl, _⟩ := had
            rw [Nat.zero_add] at g2
            have hdb := HRS.out.bound HD.out j hjn
            rw [← HDd.out, ← HXx.out] at hdb
            obtain ⟨hd0, hdx⟩ := hdb
            by_cases hdp : 0 < d
            · by_cases hdl : d < x
              · have HTN := tally_part HTL.out HDd.out HXx.out hdp hdl
                have hnn := (HTN.rest HD.out HRS.out (by omega)).1
                have HTH : Hid (Tally f D a1 (j + 1) (nd - d) (tc + 1) (pc + 1)) := HTN
                clear HTN
                go_wp2
                go_round
                case rel => exact ⟨j + 1, nd - d, tc + 1, pc + 1, by omega, by go_num, rfl, rfl, rfl, HTH.out⟩
                case measure => simp [intOf]; omega
              · have HTN := tally_whole HTL.out HDd.out HXx.out hdp hdl
                have hnn := (HTN.rest HD.out HRS.out (by omega)).1
                have HTH : Hid (Tally f D a1 (j + 1) (nd - d) (tc + 1) pc) := HTN
                clear HTN
                go_wp2
                go_round
                case rel => exact ⟨j + 1, nd - d, tc + 1, pc, by omega, by go_num, rfl, rfl, rfl, HTH.out⟩
                case measure => simp [intOf]; omega
            · have HTN := tally_none HTL.out HDd.out hdp
              have hnn := (HTN.rest HD.out HRS.out (by omega)).1
              have HTH : Hid (Tally f D a1 (j + 1) (nd - d) tc pc) := HTN
              have hdd : decide (0 < d) = false := decide_eq_false hdp
              clear HTN
              go_wp2
              go_round
              case rel => exact ⟨j + 1, nd - d, tc, pc, by omega, by go_num, rfl, rfl, rfl, HTH.out⟩
              case measure => simp [intOf]; omega
          · obtain rfl : j = len0 := by omega
            have hz : nd = 0 := by have := HTL.out.nd; have := HRS.out.sum; omega
            have hp : pc ≤ 1 := by rw [HTL.out.pc]; exact HRS.out.parts
            have HTC : Hid (tc = ((t + 1 : Nat) : Int)) := by rw [HTL.out.tc]; exact HRS.out.touched
            subst hz
            go_wp2_with fail
            refine (few24 ac j cc a1 f w2 HX2.out (by omega) hk HD.out).mono ?_
            rintro e w3 ⟨m, rfl, hfew, hb3⟩
            have hm : m = t + 1 := hfew.unique HRS.out.few
            have htm : (tc == (m : Int)) = true := by rw [HTC.out, hm]; simp
            have HB3 : Hid (Below w.heap.size w w3) := HB2.out.trans (hb3.mono HB2.out.size)
            clear hfew hm hb3
            go_wp2
            go_ret
            exact ⟨rfl, HB3.out⟩

/-! ### THE ROW's STEP: WRITTEN OUT: LEAVE IT -/
set_option maxRecDepth 100000 in
theorem lifted (os : Os) (started : os.Started) (H : Type) (enc : TypeId × Value → H) :
    ReturnsInHanded {} Try.checked os 7 .any (Rows.fnSpreadTouchesFewestIslandsSpec.pre6 enc Try.prog Try.f7 Rows.fnSpreadTouchesFewestIslandsRow.domain false) (Rows.fnSpreadTouchesFewestIslandsSpec.post enc Try.prog Try.f7 false true false false) := by
  refine returnsInHanded_of_change (C := Try.checked) own started (by kernel_rfl) Try.func7
    (ChangeSpec.witness6 (enc := enc) (C := Try.checked) false ⟨#[], #[.slice none 0 0, .int .i64 0], []⟩ 8 (by kernel_rfl) (by kernel_rfl) (by kernel_rfl) (by kernel_rfl)) ?_
  intro W base args ds gs before hval0 hW hcnd _
  have hval : ∀ (j : Nat) t v, Try.f7.params[j]? = some t → args[j]? = some v → Value.okWide Try.prog W .any base t v := hval0
  have hW' := hW
  obtain ⟨p, q, hA0, hV, rfl, hfz, hnd⟩ := hW
  have hA : DataW.TrodAll enc Try.prog W 0 (fun _ => true) true Try.f7.params.toList args.toList ds p := hA0
  rw [Try.params7] at hA hval
  obtain ⟨v0, vs0, d0, ds0, p0, q0, hargs, rfl, rfl, h0, r0⟩ := trodAll_cons hA
  obtain ⟨v1, vs1, d1, ds1, p1, q1, rfl, rfl, rfl, h1, r1⟩ := trodAll_cons r0
  obtain ⟨rfl, rfl, rfl⟩ := trodAll_nil r1
  obtain rfl : args = #[v0, v1] := by cases args; simp_all
  obtain ⟨rfl, rfl⟩ := trodVars_none hV
  obtain ⟨a0, len0, cap0, rfl⟩ := okWide_slice Try.underlying24 (hval 0 24 v0 rfl rfl)
  have k0 := h0
  have lt0 : ∀ x ∈ p0, x.block < W.heap.size := by obtain ⟨m, hm⟩ := k0; exact DataW.trod_lt m _ _ _ hm
  obtain ⟨z0, w0⟩ : ∃ zs, IsRow .i64 W a0 len0 cap0 zs := by
    obtain ⟨fuel, hf⟩ := h0
    rcases open_ints Try.underlying24 Try.underlying3 (by kernel_rfl) hf with ⟨hcs, _⟩ | ⟨x, l, c, zs, hcs, _, hl, hm, hz, _, hcell, hwz⟩
    · simp [Value.cells] at hcs
      obtain ⟨rfl, rfl, rfl⟩ := hcs
      exact ⟨[], .inl ⟨rfl, rfl, rfl, rfl⟩⟩
    · simp [Value.cells] at hcs
      obtain ⟨rfl, rfl, rfl⟩ := hcs
      exact ⟨zs, .inr ⟨_, rfl, hl, hm, by simpa using hz, hcell, hwz⟩⟩
  obtain ⟨a1, rfl, rfl, rfl, w1⟩ := open_int Try.underlying3 (hval 1 3 v1 rfl rfl) h1
  clear hA0 hval0
  refine (walk a0 len0 cap0 z0 a1 W w0 w1).mono fun e W' ⟨he, bel⟩ => ?_
  subst he
  exact ⟨_, rfl, _, _, _, [], _, [], hW', trodAll_mk1 (shut_bool Try.underlying4 _), (trodAll_cons_mk (Below.trod laidOut (by kernel_rfl) (of_decide_eq_true (by kernel_rfl)) k0 bel lt0) (trodAll_cons_mk (shut_int Try.underlying3 w1) trodAll_mk0)), rfl, bel.frame _, fun h => by cases h⟩

theorem over : Rows.fnSpreadTouchesFewestIslandsRow.holds Try.pinned (OpenSpec.ofChange Rows.fnSpreadTouchesFewestIslandsSpec) :=
  OpenClaim.holds_of_wide 7 Try.f7 rfl rfl rfl rfl rfl rfl rfl ⟨rfl, rfl, rfl, rfl, rfl⟩ rfl rfl rfl rfl rfl (by kernel_rfl) Try.func7 (by kernel_rfl)
    (of_decide_eq_true (by kernel_rfl)) (by unfold Func.isWrapper; first | (rw [if_pos (by decide +kernel)]; kernel_rfl) | (rw [if_neg (by decide +kernel)]; exact ⟨rfl, rfl⟩))
    (fun os started H enc _ => lifted os started H enc)

/-- ████ THE STATEMENT ████ -/
theorem proved : Rows.FnSpreadTouchesFewestIslandsSaid := over
end Go.Proofs.Qxb6601944a.fnSpreadTouchesFewestIslands
