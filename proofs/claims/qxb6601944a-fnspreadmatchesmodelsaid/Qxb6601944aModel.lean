import Derived.Test.Qxb6601944aSpread
namespace Go.Proofs.Qxb6601944a
open Go.RowKit Go.WideShapes

/-- The model's two rows, j islands seen: 'take' is block g, 'whole' the next. -/
structure Mo (w wr : World) (g n : Nat) (f : Nat → Int) (t j : Nat) : Prop where
  below : Below w.heap.size w wr
  hg : w.heap.size ≤ g
  take : ∃ D : Nat → Int, wr.rowIs g 3 n (fun q => .int .i64 (D q)) ∧ ∀ i, i < n → D i = if i < j ∧ i ∈ T f n t then f i else 0
  whole : ∃ B : Nat → Bool, wr.rowIs (g + 1) 4 n (fun q => .bool (B q)) ∧ ∀ i, i < n → B i = decide (i < j ∧ i ∈ T f n t)

theorem mo_start {w w1 : World} (hb : Below w.heap.size w w1) (n : Nat) (f : Nat → Int) (t : Nat) :
    Mo w ((w1.alloc (.cells (madeCells #[.int .i64 0] n) 3)).alloc (.cells (madeCells #[.bool false] n) 4)) w1.heap.size n f t 0 := by
  have h2 := World.rowIs_made (w1.alloc (.cells (madeCells #[.int .i64 0] n) 3)) (.bool false) n 4
  refine ⟨(hb.alloc hb.size _).alloc (by have := hb.size; simp; omega) _, hb.size, ⟨fun _ => 0, (World.rowIs_made w1 _ n 3).alloc _, fun i _ => by rw [if_neg (by omega)]⟩, ⟨fun _ => false, ?_, fun i _ => by rw [decide_eq_false (by omega)]⟩⟩
  simpa using h2

theorem mo_drewN {w wr : World} {g n t j : Nat} {f : Nat → Int} (h : Mo w wr g n f t j) (q : Nat) : Mo w (wr.drewN q) g n f t j := by
  obtain ⟨D, hr, hD⟩ := h.take
  obtain ⟨B, hs, hB⟩ := h.whole
  exact ⟨below_drewN h.below q, h.hg, ⟨D, hr.of_block rfl, hD⟩, ⟨B, hs.of_block rfl, hB⟩⟩

/-- Island j is not taken whole. -/
theorem mo_skip {w wr : World} {g n t j : Nat} {f : Nat → Int} (h : Mo w wr g n f t j) (hT : j ∉ T f n t) : Mo w wr g n f t (j + 1) := by
  obtain ⟨D, hr, hD⟩ := h.take
  obtain ⟨B, hs, hB⟩ := h.whole
  have key : ∀ i, (i < j + 1 ∧ i ∈ T f n t) ↔ (i < j ∧ i ∈ T f n t) := fun i => by
    constructor
    · rintro ⟨h1, h2⟩
      refine ⟨?_, h2⟩
      by_cases e : i = j
      · subst e; exact absurd h2 hT
      · omega
    · rintro ⟨h1, h2⟩
      exact ⟨by omega, h2⟩
  refine ⟨h.below, h.hg, ⟨D, hr, fun i hi => ?_⟩, ⟨B, hs, fun i hi => ?_⟩⟩
  · rw [hD i hi]; simp only [key]
  · rw [hB i hi]; simp only [key]

/-- Island j is taken whole. -/
theorem mo_take {w wr : World} {g n t j : Nat} {f : Nat → Int} {x : Int} (h : Mo w wr g n f t j) (hT : j ∈ T f n t) (hx : x = f j) :
    Mo w ((wr.setCell ⟨g + 1, j, none⟩ (.bool true)).setCell ⟨g, j, none⟩ (.int .i64 x)) g n f t (j + 1) := by
  obtain ⟨D, hr, hD⟩ := h.take
  obtain ⟨B, hs, hB⟩ := h.whole
  have hg := h.hg
  refine ⟨(h.below.setCell (p := ⟨g + 1, j, none⟩) (by show w.heap.size ≤ g + 1; omega) _).setCell hg _, hg, ⟨_, row_store (hr.setOther (by show g ≠ g + 1; omega) _) x, fun i hi => ?_⟩,
    ⟨fun i => if i = j then true else B i, ((hs.set j (.bool true)).setOther (by show g + 1 ≠ g; omega) _).congr (fun i _ => by show (if i = j then Value.bool true else .bool (B i)) = .bool (if i = j then true else B i); split <;> rfl), fun i hi => ?_⟩⟩
  · show (if i = j then x else D i) = _
    by_cases e : i = j
    · subst e; rw [if_pos rfl, if_pos ⟨by omega, hT⟩, hx]
    · rw [if_neg e, hD i hi]
      by_cases h2 : i < j ∧ i ∈ T f n t
      · rw [if_pos h2, if_pos ⟨by omega, h2.2⟩]
      · rw [if_neg h2, if_neg (fun h3 => h2 ⟨by omega, h3.2⟩)]
  · show (if i = j then true else B i) = _
    by_cases e : i = j
    · subst e; rw [if_pos rfl, decide_eq_true ⟨by omega, hT⟩]
    · rw [if_neg e, hB i hi]
      by_cases h2 : i < j ∧ i ∈ T f n t
      · rw [decide_eq_true h2, decide_eq_true ⟨by omega, h2.2⟩]
      · rw [decide_eq_false h2, decide_eq_false (fun h3 => h2 ⟨by omega, h3.2⟩)]

theorem mo_cells {w wr : World} {g n t j : Nat} {f : Nat → Int} (h : Mo w wr g n f t j) {i : Nat} (hi : i < n) :
    (∃ u, wr.cell? ⟨g, i, none⟩ = some u) ∧ wr.frozen? ⟨g, i, none⟩ = false ∧ (∃ b, Hid (b = decide (i < j ∧ i ∈ T f n t)) ∧ wr.cell? ⟨g + 1, i, none⟩ = some (.bool b)) ∧ wr.frozen? ⟨g + 1, i, none⟩ = false := by
  obtain ⟨D, hr, hD⟩ := h.take
  obtain ⟨B, hs, hB⟩ := h.whole
  exact ⟨⟨_, hr.cell hi⟩, hr.frozen i, ⟨B i, hB i hi, hs.cell hi⟩, hs.frozen i⟩

theorem mo_done {w wr : World} {g n t j : Nat} {f : Nat → Int} {k r : Int} (h : Mo w wr g n f t n) (hf : Fewest f n k (t + 1)) (hr : r = k - S f n t) (hN : None f n t r j) (hj : j < n) (hT : j ∉ T f n t) (hfit : r ≤ f j)
    (hpos : ∀ j ∈ T f n t, 0 < f j) : PostS f n k w (.returned (.slice (some ⟨g, 0, none⟩) n n)) (wr.setCell ⟨g, j, none⟩ (.int .i64 r)) := by
  obtain ⟨D, hrow, hD⟩ := h.take
  refine ⟨g, _, t, j, rfl, reads_of_row (row_store hrow r), res_of hr hpos (fun i hi => ?_) hf hN hj hT hfit, h.below.setCell h.hg _⟩
  rw [hD i hi]
  by_cases h2 : i ∈ T f n t
  · rw [if_pos ⟨hi, h2⟩, if_pos h2]
  · rw [if_neg (fun h3 => h2 h3.2), if_neg h2]

/-- Who is among the first t where the first t do not reach k has a free one. -/
theorem taken_pos {f : Nat → Int} {n t : Nat} {k : Int} (hf : Fewest f n k (t + 1)) : ∀ j ∈ T f n t, 0 < f j := by
  intro j hj
  have htn : t < n := by have := hf.le; omega
  have h1 := hf.less t (by omega)
  have h2 := hf.reach
  rw [S_at htn] at h2
  have h3 : 0 < f (at' f n t) := by omega
  have := bef_le (bef_of_take_drop hj (at_mem_drop htn))
  omega

theorem fewest_pos {f : Nat → Int} {n m : Nat} {k : Int} (hd : Dom f n k) (hf : Fewest f n k m) : ∃ t, m = t + 1 := by
  match m, hf with
  | 0, hf => have := hf.reach; rw [S_zero] at this; have := hd.pos; omega
  | t + 1, _ => exact ⟨t, rfl⟩

theorem rk_succ (f : Nat → Int) (j i : Nat) : rk f j (i + 1) = rk f j i + one (befB f i j) := rfl

theorem befB_more {f : Nat → Int} {i j : Nat} (h : f j < f i) : befB f i j = true := (befB_iff f i j).2 (.inl h)
theorem befB_same {f : Nat → Int} {i j : Nat} (h : f i = f j) (hij : i < j) : befB f i j = true := (befB_iff f i j).2 (.inr ⟨h, hij⟩)
theorem befB_no {f : Nat → Int} {i j : Nat} (h : ¬ bef f i j) : befB f i j = false := by
  cases e : befB f i j with
  | false => rfl
  | true => exact absurd ((befB_iff f i j).1 e) h

theorem wsum_succ (f : Nat → Int) (n t j : Nat) : wsum f n t (j + 1) = wsum f n t j + (if j ∈ T f n t then f j else 0) := rfl

theorem other_cell {w : World} {a p : Addr} {v : Value} (u : Value) (hne : p.block ≠ a.block) (h : w.cell? p = some v) : (w.setCell a u).cell? p = some v := by
  rw [World.cell?_of_block (w := w) (Below.heap_setCell w a u p.block hne)]; exact h
theorem other_frozen {w : World} {a p : Addr} {b : Bool} (u : Value) (hne : p.block ≠ a.block) (h : w.frozen? p = b) : (w.setCell a u).frozen? p = b := by
  rw [World.frozen?_of_block (w := w) (Below.heap_setCell w a u p.block hne)]; exact h

set_option maxRecDepth 100000 in
set_option maxHeartbeats 2000000 in
theorem model22 (ao : Option Addr) (n c : Nat) (k : Int) (f : Nat → Int) (w : World) (hx : Reads w ao n f) (h1 : n ≤ 1048576) (hk : k ≤ 9223372036854775807) (hd : Dom f n k) :
    Calls Try.prog 22 #[.slice ao n c, .int .i64 k] w fun e w' => PostS f n k w e w' := by
  have hmk := run_make_row' (P := Try.prog) 24 3 (.int .i64 0) 8 Try.underlying24 Try.info3 rfl .i64 .i64 n (by omega) (by omega)
  have hmk2 := run_make_row' (P := Try.prog) 23 4 (.bool false) 1 Try.underlying23 Try.info4 rfl .i64 .i64 n (by omega) (by omega)
  have HX : Hid (Reads w ao n f) := hx
  have HD : Hid (Dom f n k) := hd
  have hk1 := hd.pos
  clear hx hd
  go_enter Try.func22, Try.ntmps22
  go_wp2_with fail
  refine (few24 ao n c k f w HX.out h1 hk HD.out).mono ?_
  rintro e w1 ⟨m, rfl, hfew, hb1⟩
  obtain ⟨t, rfl⟩ := fewest_pos HD.out hfew
  have HF : Hid (Fewest f n k (t + 1)) := hfew
  have htn : t < n := by have := hfew.le; omega
  have HB1 : Hid (Below w.heap.size w w1) := hb1
  obtain ⟨g, hg⟩ : ∃ g, g = w1.heap.size := ⟨_, rfl⟩
  have HG : Hid (g = w1.heap.size) := hg
  have e1 : (((t + 1 : Nat)) : Int) = (t : Int) + 1 := by omega
  rw [e1]
  clear hfew hb1 e1 hg
  go_wp2_with fail
  rw [← HG.out]
  go_loopw [9, 10] (fun rv jv wl => ∃ (j : Nat) (r : Int), j ≤ n ∧ jv = .int .i64 j ∧ rv = .int .i64 r ∧ 1 ≤ r ∧ r ≤ k ∧ Hid (r = k - wsum f n t j) ∧ Hid (Mo w wl g n f t j)) (fun _ jv _ => n - (intOf jv).toNat)
  case atStart => exact ⟨0, k, Nat.zero_le _, rfl, rfl, hk1, by omega, by show k = k - 0; omega, by rw [HG.out]; exact mo_start HB1.out n f t⟩
  case round =>
    obtain ⟨j, r, hj, rfl, rfl, hr1, hrk, HR, HM⟩ := hrel
    have HXr : Hid (Reads wr ao n f) := HX.out.below HM.out.below
    by_cases hjn : j < n
    · obtain ⟨b0, off, x, rfl, HXx, gx⟩ := HXr.out.at hjn
      obtain ⟨wo, hwo⟩ : ∃ wo, wo = wr := ⟨_, rfl⟩
      subst hwo
      go_wp2
      go_loopw [11, 12] (fun rv iv wl => ∃ (i q : Nat) (s : Int), i ≤ n ∧ iv = .int .i64 i ∧ rv = .int .i64 s ∧ 0 ≤ s ∧ s ≤ i ∧ Hid (s = rk f j i) ∧ wl = wo.drewN q) (fun _ iv _ => n - (intOf iv).toNat)
      case atStart => exact ⟨0, 0, 0, Nat.zero_le _, rfl, rfl, by omega, by omega, rfl, rfl⟩
      case round =>
        obtain ⟨i, q, s, hi, rfl, rfl, hs0, hsi, HRK, rfl⟩ := hrel
        by_cases hin : i < n
        · obtain ⟨b1, off1, y, had, HYy, gy⟩ := HXr.out.at hin
          simp only [Option.some.injEq, Addr.mk.injEq] at had
          obtain ⟨rfl, rfl, _⟩ := had
          have HRS := rk_succ f j i
          have hone := one_nonneg (befB f i j)
          have hone1 := one_le (befB f i j)
          by_cases hyx : x < y
          · have hb : befB f i j = true := befB_more (by rw [← HXx.out, ← HYy.out]; exact hyx)
            have HN : Hid (s + 1 = rk f j (i + 1)) := by rw [HRS, hb, one_true]; have := HRK.out; show s + 1 = _; omega
            clear HRS hb hone hone1
            go_wp2
            go_quiet (fail)
            go_wp2
            go_roundw
            case rel => exact ⟨i + 1, _, s + 1, by omega, by go_num, rfl, by omega, by omega, HN.out, rfl⟩
            case measure => simp [intOf]; omega
          · have hyd : decide (x < y) = false := decide_eq_false hyx
            by_cases hye : y = x
            · have hyb : (y == x) = true := by simpa using hye
              by_cases hij : i < j
              · have hb : befB f i j = true := befB_same (by rw [← HXx.out, ← HYy.out]; exact hye) hij
                have HN : Hid (s + 1 = rk f j (i + 1)) := by rw [HRS, hb, one_true]; have := HRK.out; show s + 1 = _; omega
                have hij' : (i : Int) < (j : Int) := by omega
                clear HRS hb hone hone1 hye
                go_wp2
                go_quiet (fail)
                go_wp2
                go_roundw
                case rel => exact ⟨i + 1, _, s + 1, by omega, by go_num, rfl, by omega, by omega, HN.out, rfl⟩
                case measure => simp [intOf]; omega
              · have hb : befB f i j = false := befB_no (by unfold bef; rw [← HXx.out, ← HYy.out]; omega)
                have HN : Hid (s = rk f j (i + 1)) := by rw [HRS, hb, one_false]; have := HRK.out; show s = _; omega
                have hij' : decide ((i : Int) < (j : Int)) = false := decide_eq_false (by omega)
                clear HRS hb hone hone1 hye
                go_wp2
                go_quiet (fail)
                go_wp2
                go_roundw
                case rel => exact ⟨i + 1, _, s, by omega, by go_num, rfl, by omega, by omega, HN.out, rfl⟩
                case measure => simp [intOf]; omega
            · have hyb : (y == x) = false := by simpa using hye
              have hb : befB f i j = false := befB_no (by unfold bef; rw [← HXx.out, ← HYy.out]; omega)
              have HN : Hid (s = rk f j (i + 1)) := by rw [HRS, hb, one_false]; have := HRK.out; show s = _; omega
              clear HRS hb hone hone1 hye
              go_wp2
              go_quiet (fail)
              go_wp2
              go_roundw
              case rel => exact ⟨i + 1, _, s, by omega, by go_num, rfl, by omega, by omega, HN.out, rfl⟩
              case measure => simp [intOf]; omega
        · obtain rfl : i = n := by omega
          have hrank := rank_lt f i j t hjn
          rw [← HRK.out] at hrank
          have hw1 := wsum_succ f i t j
          have hwb := wsum_bound (t := t) HD.out (j + 1) (by omega)
          have hSk := HF.out.less t (by omega)
          by_cases hT : j ∈ T f i t
          · have hst : s < (t : Int) := hrank.2 hT
            rw [if_pos hT, ← HXx.out] at hw1
            have HR' : Hid (r - x = k - wsum f i t (j + 1)) := by have := HR.out; show r - x = _; omega
            have hrx : 1 ≤ r - x := by have := HR'.out; omega
            have hx0 : 0 ≤ x := by rw [HXx.out]; exact HD.out.nn j hjn
            have HMT : Hid (Mo w (((wo.drewN q).setCell ⟨g + 1, j, none⟩ (.bool true)).setCell ⟨g, j, none⟩ (.int .i64 x)) g i f t (j + 1)) := mo_take (mo_drewN HM.out q) hT HXx.out
            obtain ⟨⟨u, hu⟩, hfu, ⟨bb, _, hbb⟩, hfb⟩ := mo_cells HM.out hjn
            have hb0 : b0 < g := by
              obtain ⟨bz, oz, ez, hz⟩ := HX.out (by omega)
              simp only [Option.some.injEq, Addr.mk.injEq] at ez
              have h2 : bz < w.heap.size := World.block_lt_of_cell? _ _ (hz 0 (by omega))
              have := HM.out.hg
              omega
            have c1 := other_cell (w := wo.drewN q) (a := ⟨g + 1, j, none⟩) (.bool true) (p := ⟨b0, off + j, none⟩) (by show b0 ≠ g + 1; omega) gx
            have c2 := other_cell (a := ⟨g, j, none⟩) (.int .i64 x) (p := ⟨b0, off + j, none⟩) (by show b0 ≠ g; omega) c1
            have c3 := other_cell (w := wo.drewN q) (a := ⟨g + 1, j, none⟩) (.bool true) (p := ⟨g, j, none⟩) (by show g ≠ g + 1; omega) hu
            have c4 := other_frozen (w := wo.drewN q) (a := ⟨g + 1, j, none⟩) (.bool true) (p := ⟨g, j, none⟩) (by show g ≠ g + 1; omega) hfu
            clear hrank hw1 hwb hSk hT
            go_wp2
            go_roundw
            case rel => exact ⟨j + 1, r - x, by omega, by go_num, rfl, hrx, by omega, HR'.out, HMT.out⟩
            case measure => simp [intOf]; omega
          · have hst : ¬ s < (t : Int) := fun h => hT (hrank.1 h)
            rw [if_neg hT] at hw1
            have HR' : Hid (r = k - wsum f i t (j + 1)) := by have := HR.out; show r = _; omega
            have HMT : Hid (Mo w (wo.drewN q) g i f t (j + 1)) := mo_drewN (mo_skip HM.out hT) q
            clear hrank hw1 hwb hSk hT
            go_wp2
            go_roundw
            case rel => exact ⟨j + 1, r, by omega, by go_num, rfl, hr1, hrk, HR'.out, HMT.out⟩
            case measure => simp [intOf]; omega
    · obtain rfl : j = n := by omega
      have HRS : Hid (r = k - S f j t) := by have := HR.out; rw [wsum_all] at this; exact this
      have HFP : Hid (∀ i ∈ T f j t, 0 < f i) := taken_pos HF.out
      obtain ⟨wo, hwo⟩ : ∃ wo, wo = wr := ⟨_, rfl⟩
      subst hwo
      go_wp2
      go_loop [13] (fun iv => ∃ i : Nat, i ≤ j ∧ iv = .int .i64 i ∧ Hid (None f j t r i)) (fun iv => j - (intOf iv).toNat)
      case atStart => exact ⟨0, Nat.zero_le _, rfl, none_start f j t r⟩
      case round =>
        obtain ⟨i, hi, rfl, HN⟩ := hrel
        by_cases hij : i < j
        · obtain ⟨b1, off1, x, rfl, HXx, g1⟩ := HXr.out.at hij
          obtain ⟨⟨u, hu⟩, hfu, ⟨bb, HBB, hbb⟩, hfb⟩ := mo_cells HM.out hij
          by_cases hT : i ∈ T f j t
          · obtain rfl : bb = true := by rw [HBB.out]; exact decide_eq_true ⟨hij, hT⟩
            have HTh : Hid (i ∈ T f j t) := hT
            clear hT
            go_wp2
            go_round
            case rel => exact ⟨i + 1, by omega, by go_num, none_step HN.out (.inl HTh.out)⟩
            case measure => simp [intOf]; omega
          · obtain rfl : bb = false := by rw [HBB.out]; exact decide_eq_false (fun h => hT h.2)
            have HTh : Hid (i ∉ T f j t) := hT
            clear hT
            by_cases hfit : r ≤ x
            · go_wp2
              go_ret
              exact mo_done HM.out HF.out HRS.out HN.out hij HTh.out (by rw [← HXx.out]; exact hfit) HFP.out
            · have hdx : decide (r ≤ x) = false := decide_eq_false hfit
              go_wp2
              go_round
              case rel => exact ⟨i + 1, by omega, by go_num, none_step HN.out (.inr (by rw [← HXx.out]; omega))⟩
              case measure => simp [intOf]; omega
        · obtain rfl : i = j := by omega
          exact (none_false HN.out HF.out HRS.out).elim

end Go.Proofs.Qxb6601944a
