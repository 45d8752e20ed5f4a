import Derived.Test.Qxb6601944aFew
namespace Go.Proofs.Qxb6601944a
open Go.RowKit Go.WideShapes

/-- spread's own row, t islands taken. -/
structure Sp (w wr : World) (n : Nat) (f : Nat → Int) (k : Int) (t : Nat) (kt : Int) : Prop where
  below : Below w.heap.size w wr
  row : ∃ D : Nat → Int, wr.rowIs w.heap.size 3 n (fun q => .int .i64 (D q)) ∧ Mid f n k t kt D

theorem sp_start (w : World) (n : Nat) {f : Nat → Int} {k : Int} (hd : Dom f n k) : Sp w (w.alloc (.cells (madeCells #[.int .i64 0] n) 3)) n f k 0 k :=
  ⟨(Below.refl _ _).alloc (Nat.le_refl _) _, fun _ => 0, World.rowIs_made w _ n 3, mid_start hd⟩

theorem Sp.kt {w wr : World} {n t : Nat} {f : Nat → Int} {k kt : Int} (h : Sp w wr n f k t kt) : 1 ≤ kt := by
  obtain ⟨D, _, hm⟩ := h.row
  exact mid_ktpos hm

theorem Sp.ktle {w wr : World} {n t : Nat} {f : Nat → Int} {k kt : Int} (h : Sp w wr n f k t kt) (hd : Dom f n k) : kt ≤ k := by
  obtain ⟨D, _, hm⟩ := h.row
  exact mid_ktle hd hm

/-- A cell of the row, and what a nought says. -/
theorem sp_cell {w wr : World} {n t : Nat} {f : Nat → Int} {k kt : Int} (h : Sp w wr n f k t kt) {i : Nat} (hi : i < n) :
    ∃ d, wr.cell? ⟨w.heap.size, i, none⟩ = some (.int .i64 d) ∧ wr.frozen? ⟨w.heap.size, i, none⟩ = false ∧ Hid (d = 0 ↔ i ∉ T f n t) := by
  obtain ⟨D, hr, hm⟩ := h.row
  exact ⟨D i, hr.cell hi, hr.frozen i, mid_nought hm hi⟩

theorem sp_step {w wr : World} {n t : Nat} {f : Nat → Int} {k kt y : Int} (hd : Dom f n k) (h : Sp w wr n f k t kt) (hy : y = f (at' f n t)) (hlt : y < kt) :
    Sp w (wr.setCell ⟨w.heap.size, at' f n t, none⟩ (.int .i64 y)) n f k (t + 1) (kt - y) := by
  obtain ⟨D, hr, hm⟩ := h.row
  subst hy
  exact ⟨h.below.setCell (Nat.le_refl _) _, _, row_store hr _, mid_step hd hm hlt⟩

theorem sp_best {w wr : World} {n t : Nat} {f : Nat → Int} {k kt b : Int} (hd : Dom f n k) (h : Sp w wr n f k t kt) (hb : Best f n t n b) : b = (at' f n t : Int) ∧ t < n ∧ 0 < f (at' f n t) := by
  obtain ⟨D, hr, hm⟩ := h.row
  exact ⟨best_done hd hm hb, mid_more hd hm⟩

theorem sp_few {w wr : World} {n t : Nat} {f : Nat → Int} {k kt y : Int} (hd : Dom f n k) (h : Sp w wr n f k t kt) (hy : y = f (at' f n t)) (hge : kt ≤ y) : Fewest f n k (t + 1) := by
  obtain ⟨D, hr, hm⟩ := h.row
  subst hy
  exact mid_fewest hd hm hge

/-- What spread, and its model, leave: a row of their own. -/
def PostS (f : Nat → Int) (n : Nat) (k : Int) (w : World) (e : Ending) (w' : World) : Prop :=
  ∃ (g : Nat) (D : Nat → Int) (t js : Nat), e = .returned (.slice (some ⟨g, 0, none⟩) n n) ∧ Reads w' (some ⟨g, 0, none⟩) n D ∧ Res f n k D t js ∧ Below w.heap.size w w'

theorem sp_done {w wr : World} {n t j : Nat} {f : Nat → Int} {k kt : Int} (h : Sp w wr n f k t kt) (hf : Fewest f n k (t + 1)) (hN : None f n t kt j) (hj : j < n) (hT : j ∉ T f n t) (hfit : kt ≤ f j) :
    PostS f n k w (.returned (.slice (some ⟨w.heap.size, 0, none⟩) n n)) (wr.setCell ⟨w.heap.size, j, none⟩ (.int .i64 kt)) := by
  obtain ⟨D, hr, hm⟩ := h.row
  exact ⟨w.heap.size, _, t, j, rfl, reads_of_row (row_store hr kt), res_of hm.kt hm.fpos hm.val hf hN hj hT hfit, h.below.setCell (Nat.le_refl _) _⟩

theorem sp_none {w wr : World} {n t : Nat} {f : Nat → Int} {k kt : Int} (h : Sp w wr n f k t kt) (hf : Fewest f n k (t + 1)) (hN : None f n t kt n) : False := by
  obtain ⟨D, hr, hm⟩ := h.row
  exact none_false hN hf hm.kt

theorem best_cases {f : Nat → Int} {n t i : Nat} {b : Int} (h : Best f n t i b) : b = -1 ∨ ∃ c : Nat, c < i ∧ b = (c : Int) := by
  rcases h with ⟨h, _⟩ | ⟨c, h, hc, _⟩
  · exact .inl h
  · exact .inr ⟨c, hc, h⟩

set_option maxRecDepth 100000 in
set_option maxHeartbeats 2000000 in
theorem spread29 (ao : Option Addr) (n c : Nat) (k : Int) (f : Nat → Int) (pb : Nat) (w : World) (hx : Reads w ao n f) (hp : w.cell? ⟨pb, 13, none⟩ = some (.slice ao n c)) (h1 : n ≤ 1048576) (hk : k ≤ 9223372036854775807) (hd : Dom f n k) :
    Calls Try.prog 29 #[.pointer (some ⟨pb, 0, none⟩), .int .i64 k] w fun e w' => PostS f n k w e w' := by
  have hmk := run_make_row' (P := Try.prog) 24 3 (.int .i64 0) 8 Try.underlying24 Try.info3 rfl .i64 .i64 n (by omega) (by omega)
  have HX : Hid (Reads w ao n f) := hx
  have HD : Hid (Dom f n k) := hd
  have HPB : Hid (w.cell? ⟨pb, 13, none⟩ = some (.slice ao n c)) := hp
  have hpb : pb < w.heap.size := World.block_lt_of_cell? _ _ hp
  have hk1 := hd.pos
  clear hx hd
  go_enter Try.func29, Try.ntmps29
  go_wp2
  clear hmk hp
  go_loopw [1, 6] (fun kv _ wl => ∃ (t : Nat) (kt : Int), kv = .int .i64 kt ∧ Hid (Sp w wl n f k t kt)) (fun kv _ _ => (intOf kv).toNat)
  case atStart => exact ⟨0, k, rfl, sp_start w n HD.out⟩
  case round =>
    obtain ⟨t, kt, rfl, HS⟩ := hrel
    have hkt1 := HS.out.kt
    have hkt2 := HS.out.ktle HD.out
    have hpc : wr.cell? ⟨pb, 13, none⟩ = some (.slice ao n c) := by rw [HS.out.below.cell (p := ⟨pb, 13, none⟩) hpb]; exact HPB.out
    have HXr : Hid (Reads wr ao n f) := HX.out.below HS.out.below
    go_wp2
    go_loop [6, 24] (fun bv iv => ∃ (i : Nat) (b : Int), i ≤ n ∧ iv = .int .i64 i ∧ bv = .int .i64 b ∧ Hid (Best f n t i b)) (fun _ iv => n - (intOf iv).toNat)
    case atStart => exact ⟨0, -1, Nat.zero_le _, rfl, rfl, best_start f n t⟩
    case round =>
      obtain ⟨i, b, hi, rfl, rfl, HBe⟩ := hrel
      by_cases hin : i < n
      · obtain ⟨b0, off, x, rfl, HX1, g1⟩ := HXr.out.at hin
        obtain ⟨d, gd, _, HDz⟩ := sp_cell HS.out hin
        by_cases hd0 : d = 0
        · have HT : Hid (i ∉ T f n t) := HDz.out.1 hd0
          subst hd0
          by_cases hx0 : 0 < x
          · rcases best_cases HBe.out with rfl | ⟨q, hq, rfl⟩
            · go_wp2
              go_round
              case rel => exact ⟨i + 1, i, by omega, by go_num, rfl, best_first HBe.out (by omega) HT.out (by have := HX1.out; omega)⟩
              case measure => simp [intOf]; omega
            · obtain ⟨b1, off1, y, had, HY1, g2⟩ := HXr.out.at (show q < n by omega)
              simp only [Option.some.injEq, Addr.mk.injEq] at had
              obtain ⟨rfl, rfl, _⟩ := had
              by_cases hyx : y < x
              · go_wp2
                go_round
                case rel => exact ⟨.int .i64 i, _, _, .int .i64 ((i : Int) + 1), ⟨i + 1, by omega, by go_num, i, rfl, best_more HBe.out HT.out (by have := HX1.out; omega) (by have := HX1.out; have := HY1.out; omega)⟩, rfl, rfl, rfl, rfl⟩
                case measure => simp [intOf]; omega
              · go_wp2
                go_round
                case rel => exact ⟨.int .i64 q, _, _, .int .i64 ((i : Int) + 1), ⟨i + 1, by omega, by go_num, q, rfl, best_less HBe.out (by have := HX1.out; have := HY1.out; omega)⟩, rfl, rfl, rfl, rfl⟩
                case measure => simp [intOf]; omega
          · have hdx : decide (0 < x) = false := decide_eq_false hx0
            go_wp2
            go_round
            case rel => exact ⟨i + 1, b, by omega, by go_num, rfl, best_skip HBe.out (.inr (by have := HX1.out; omega))⟩
            case measure => simp [intOf]; omega
        · have hdb : (d == 0) = false := by simpa using hd0
          have HT : Hid (i ∈ T f n t) := Classical.byContradiction fun h => hd0 (HDz.out.2 h)
          clear hd0
          go_wp2
          go_round
          case rel => exact ⟨i + 1, b, by omega, by go_num, rfl, best_skip HBe.out (.inl HT.out)⟩
          case measure => simp [intOf]; omega
      · obtain rfl : i = n := by omega
        obtain ⟨hb, htn, HFP⟩ := sp_best HD.out HS.out HBe.out
        obtain ⟨q, HQ⟩ : ∃ q, Hid (q = at' f i t) := ⟨_, rfl⟩
        rw [← HQ.out] at hb
        subst hb
        have hqi : q < i := by rw [HQ.out]; exact at_lt htn
        obtain ⟨b0, off, y, rfl, HY1, g2⟩ := HXr.out.at hqi
        have HY : Hid (y = f (at' f i t)) := by rw [← HQ.out]; exact HY1.out
        obtain ⟨d, gd, hfz, _⟩ := sp_cell HS.out hqi
        have hy0 : 0 ≤ y := by rw [HY.out]; omega
        have hy1 : 0 < y := by rw [HY.out]; exact HFP
        clear HBe HFP HY1
        by_cases hge : kt ≤ y
        · have HFW : Hid (Fewest f i k (t + 1)) := sp_few HD.out HS.out HY.out hge
          go_wp2
          clear g2 gd hfz hqi htn HY HQ
          go_loop [89] (fun jv => ∃ j : Nat, j ≤ i ∧ jv = .int .i64 j ∧ Hid (None f i t kt j)) (fun jv => i - (intOf jv).toNat)
          case atStart => exact ⟨0, Nat.zero_le _, rfl, none_start f i t kt⟩
          case round =>
            obtain ⟨j, hj, rfl, HN⟩ := hrel
            by_cases hji : j < i
            · obtain ⟨b1, off1, x, had, HX1, g1⟩ := HXr.out.at hji
              simp only [Option.some.injEq, Addr.mk.injEq] at had
              obtain ⟨rfl, rfl, _⟩ := had
              obtain ⟨d, gd, hfz, HDz⟩ := sp_cell HS.out hji
              by_cases hd0 : d = 0
              · have HT : Hid (j ∉ T f i t) := HDz.out.1 hd0
                subst hd0
                by_cases hfit : kt ≤ x
                · go_wp2
                  go_ret
                  exact sp_done HS.out HFW.out HN.out hji HT.out (by rw [← HX1.out]; exact hfit)
                · have hdx : decide (kt ≤ x) = false := decide_eq_false hfit
                  go_wp2
                  go_round
                  case rel => exact ⟨j + 1, by omega, by go_num, none_step HN.out (.inr (by rw [← HX1.out]; omega))⟩
                  case measure => simp [intOf]; omega
              · have hdb : (d == 0) = false := by simpa using hd0
                have HT : Hid (j ∈ T f i t) := Classical.byContradiction fun h => hd0 (HDz.out.2 h)
                clear hd0
                go_wp2
                go_round
                case rel => exact ⟨j + 1, by omega, by go_num, none_step HN.out (.inl HT.out)⟩
                case measure => simp [intOf]; omega
            · obtain rfl : j = i := by omega
              exact (sp_none HS.out HFW.out HN.out).elim
        · have HST : Hid (Sp w (wr.setCell ⟨w.heap.size, q, none⟩ (.int .i64 y)) i f k (t + 1) (kt - y)) := by rw [HQ.out]; exact sp_step HD.out HS.out HY.out (by omega)
          go_wp2
          go_roundw
          case rel => exact ⟨t + 1, kt - y, rfl, HST.out⟩
          case measure => simp [intOf]; omega

theorem zz21 (ao : Option Addr) (n c : Nat) (k : Int) (f : Nat → Int) (w : World) (hx : Reads w ao n f) (h1 : n ≤ 1048576) (hk : k ≤ 9223372036854775807) (hd : Dom f n k) :
    Calls Try.prog 21 #[.slice ao n c, .int .i64 k] w fun e w' => PostS f n k w e w' := by
  have HX : Hid (Reads w ao n f) := hx
  have HD : Hid (Dom f n k) := hd
  clear hx hd
  go_enter Try.func21, Try.ntmps21
  go_wp2_with fail
  refine (spread29 ao n c k f w.heap.size _ (HX.out.below ((Below.refl _ _).alloc (Nat.le_refl _) _)) (by simp) h1 hk HD.out).mono ?_
  rintro e w1 ⟨g, D, t, js, rfl, hr, hres, hb⟩
  have HR : Hid (Reads w1 (some ⟨g, 0, none⟩) n D) := hr
  have HS : Hid (Res f n k D t js) := hres
  have HB : Hid (Below w.heap.size w w1) := ((Below.refl _ _).alloc (Nat.le_refl _) _).trans (hb.mono (by simp))
  clear hr hres hb
  go_wp2
  go_ret
  exact ⟨g, D, t, js, rfl, HR.out, HS.out, HB.out⟩

end Go.Proofs.Qxb6601944a
