import Derived.Test.Qxb6601558aAcc
import Derived.Deep.DeepCutAuto
import Derived.Deep.CutRange
import Derived.BigGuard
namespace Go.Proofs.Qxb6601558a
open Go.RowKit Go.WideShapes

theorem Try.info22 : (Try.prog.info? 22).map (fun i => (i.zero, i.size, i.bytes)) = some (some (.slice none 0 0), 1, 24) := by kernel_rfl

/-- The array of 256 noughts. -/
def Z256 : Array Value := Array.replicate 256 (.int .u64 0)
theorem zero31 (w : World) : (zeroValue 31).run Try.prog w = .ok (.agg Z256) w := by kernel_rfl

/-- THE HISTOGRAM, k frames read: block g; all below it is as it was in wh. -/
structure Hist (wh wl : World) (g k : Nat) (fs : List (List Int)) : Prop where
  below : Below g wh wl
  row : wl.rowIs g 31 256 (fun j => .int .u64 (cnt j (fs.take k)))

theorem hist_start (wh : World) (fs : List (List Int)) : Hist wh (wh.alloc (.cells Z256 31)) wh.heap.size 0 fs := by
  refine ⟨(Below.refl _ _).alloc (Nat.le_refl _) _, Z256, heap_alloc_new wh _, by simp [Z256], fun i hi => ?_⟩
  simp [Z256, hi, cnt]

theorem hist_store {wh wl : World} {g k : Nat} {fs : List (List Int)} {z : Nat} {t : List Int} (h : Hist wh wl g k fs) (hk : k < fs.length) (hf : fs.getD k [] = (z : Int) :: t) (v : Int) (hv : v = (cnt z (fs.take k) : Int) + 1) :
    Hist wh (wl.setCell ⟨g, z, none⟩ (.int .u64 v)) g (k + 1) fs := by
  subst hv
  refine ⟨h.below.setCell (Nat.le_refl _) _, (h.row.set z _).congr fun j _ => ?_⟩
  rw [cnt_take j fs k hk, hf, cnt_one]
  by_cases e : j = z
  · subst e; simp
  · rw [if_neg e, if_neg (by simp; omega)]; rfl

theorem hist_skip {wh wl : World} {g k : Nat} {fs : List (List Int)} (h : Hist wh wl g k fs) (hk : k < fs.length) (hf : fs.getD k [] = []) : Hist wh wl g (k + 1) fs := by
  refine ⟨h.below, h.row.congr fun j _ => ?_⟩
  rw [cnt_take j fs k hk, hf, cnt_one]
  simp

theorem first_byte {w : World} {a : Option Addr} {m : Nat} {f : List Int} (h : Reads .u8 w a m f) (hm : 0 < m) (hb : ∀ z ∈ f, 0 ≤ z ∧ z ≤ 255) :
    ∃ (z : Nat) (tl : List Int), z < 256 ∧ Hid (f = (z : Int) :: tl) ∧ ∃ b o, a = some ⟨b, o, none⟩ ∧ w.cell? ⟨b, o, none⟩ = some (.int .u8 z) := by
  obtain ⟨b, o, rfl, hc⟩ := h.2 hm
  have hl := h.1
  match f, hl, hb, hc with
  | [], hl, _, _ => simp at hl; omega
  | x :: tl, hl, hb, hc =>
    have hx := hb x (by simp)
    obtain ⟨z, rfl⟩ : ∃ z : Nat, x = z := ⟨x.toNat, by omega⟩
    exact ⟨z, tl, by omega, rfl, b, o, rfl, by simpa using hc 0 hm⟩

theorem hist_cell {wh wl : World} {g k : Nat} {fs : List (List Int)} {z : Nat} (h : Hist wh wl g k fs) (hz : z < 256) (hl : fs.length ≤ 65536) :
    ∃ C : Nat, Hid (C = cnt z (fs.take k)) ∧ C ≤ 65536 ∧ wl.cell? ⟨g, z, none⟩ = some (.int .u64 C) ∧ wl.frozen? ⟨g, z, none⟩ = false :=
  ⟨_, rfl, Nat.le_trans (cnt_le _ _) (by simp; omega), h.row.cell hz, h.row.frozen z⟩

/-- A frame whose memory lies from block B on. -/
def FrameUp (B : Nat) (w : World) (v : Value) (f : List Int) : Prop := ∃ ao n c, v = .slice ao n c ∧ Reads .u8 w ao n f ∧ (ao = none → c = 0) ∧ ∀ a, ao = some a → B ≤ a.block

theorem FrameUp.below {B C : Nat} {w w' : World} {v : Value} {f : List Int} (h : FrameUp B w v f) (hb : Below C w w') (hC : C = w.heap.size) : FrameUp B w' v f := by
  obtain ⟨ao, n, c, e, hr, h0, hB⟩ := h
  exact ⟨ao, n, c, e, hr.below hb hC, h0, hB⟩

theorem FrameUp.setCell {B : Nat} {w : World} {v : Value} {f : List Int} (h : FrameUp B w v f) {a : Addr} (ha : a.block < B) (u : Value) : FrameUp B (w.setCell a u) v f := by
  obtain ⟨ao, n, c, e, hr, h0, hB⟩ := h
  refine ⟨ao, n, c, e, ⟨hr.1, fun hn => ?_⟩, h0, hB⟩
  obtain ⟨b, off, rfl, hc⟩ := hr.2 hn
  refine ⟨b, off, rfl, fun i hi => ?_⟩
  have := hB _ rfl
  rw [World.cell?_of_block (w := w) (Below.heap_setCell w a u b (by simp at this; omega))]
  exact hc i hi

/-- THE CLONES, k of them made: the row 'cp' is block g. -/
structure Cloned (w wr : World) (g n k : Nat) (fs : List (List Int)) : Prop where
  below : Below g w wr
  row : ∃ V, wr.rowIs g 22 n V ∧ ∀ j, j < k → FrameUp (g + 1) wr (V j) (fs.getD j [])

theorem cloned_start (w : World) (n : Nat) (fs : List (List Int)) : Cloned w (w.alloc (.cells (madeCells #[.slice none 0 0] n) 22)) w.heap.size n 0 fs :=
  ⟨(Below.refl _ _).alloc (Nat.le_refl _) _, _, World.rowIs_made w _ n 22, fun _ hj => absurd hj (Nat.not_lt_zero _)⟩

theorem cloned_step {w wr w' : World} {g n k : Nat} {fs : List (List Int)} {v : Value} (h : Cloned w wr g n k fs) (hb : Below wr.heap.size wr w') (hv : FrameUp wr.heap.size w' v (fs.getD k [])) :
    Cloned w (w'.setCell ⟨g, k, none⟩ v) g n (k + 1) fs := by
  obtain ⟨hB, V, hrow, hV⟩ := h
  have hlt := hrow.lt
  refine ⟨(hB.trans (hb.mono (by omega))).setCell (Nat.le_refl _) _, _, (hrow.of_block (hb.block g hlt)).set k v, fun j hj => ?_⟩
  by_cases e : j = k
  · subst e
    simp only [if_true]
    have : FrameUp (g + 1) w' v (fs.getD j []) := by
      obtain ⟨ao, n, c, e, hr, h0, h1⟩ := hv
      exact ⟨ao, n, c, e, hr, h0, fun a ha => by have := h1 a ha; omega⟩
    exact this.setCell (by show g < g + 1; omega) _
  · rw [if_neg e]
    exact ((hV j (by omega)).below hb rfl).setCell (by show g < g + 1; omega) _

theorem cloned_done {w wr : World} {g n : Nat} {fs : List (List Int)} (h : Cloned w wr g n n fs) (hl : fs.length = n) : Frames wr (some ⟨g, 0, none⟩) n fs := by
  obtain ⟨hB, V, hrow, hV⟩ := h
  refine ⟨hl, fun _ => ⟨g, 0, rfl, fun i hi => ⟨V i, ?_, ?_⟩⟩⟩
  · rw [Nat.zero_add]; exact hrow.cell hi
  · obtain ⟨ao, n, c, e, hr, h0, _⟩ := hV i hi
    exact ⟨ao, n, c, e, hr, h0⟩

theorem clone_up (ao : Option Addr) (n c : Nat) (x : List Int) (w : World) (hx : Reads .u8 w ao n x) (h1 : n ≤ 1099511627776) (h0 : ao = none → c = 0) :
    Calls Try.prog 7 #[.slice ao n c] w fun e w' => ∃ v, e = .returned v ∧ FrameUp w.heap.size w' v x ∧ Below w.heap.size w w' := by
  match ao with
  | some ad =>
    refine (clone_new ad n c x w hx h1).mono ?_
    rintro e w' ⟨rfl, hr, hb⟩
    exact ⟨_, rfl, ⟨_, _, _, rfl, hr, (by intro h; cases h), fun a ha => by cases ha; exact Nat.le_refl _⟩, hb⟩
  | none =>
    obtain rfl := h0 rfl
    have hn : n = 0 := by
      rcases Nat.eq_zero_or_pos n with h | h
      · exact h
      · obtain ⟨b, off, e, _⟩ := hx.2 h
        simp at e
    subst hn
    refine (clone_none w).mono ?_
    rintro e w' ⟨rfl, rfl⟩
    exact ⟨_, rfl, ⟨_, _, _, rfl, hx, fun _ => rfl, (by intro a h; cases h)⟩, Below.refl _ _⟩

theorem cloned_cell {w wr w2 : World} {g n k : Nat} {fs : List (List Int)} (h : Cloned w wr g n k fs) (hb : Below wr.heap.size wr w2) (hk : k < n) : (∃ u, w2.cell? ⟨g, k, none⟩ = some u) ∧ w2.frozen? ⟨g, k, none⟩ = false := by
  obtain ⟨hB, V, hrow, hV⟩ := h
  have h2 := hrow.of_block (hb.block g hrow.lt)
  exact ⟨⟨_, h2.cell hk⟩, h2.frozen k⟩

/-- What the law has at hand behind its clones. -/
structure Ready (w wr : World) (v : Value) (n : Nat) (fs : List (List Int)) : Prop where
  below : Below w.heap.size w wr
  frames : ∃ ao c, v = .slice ao n c ∧ Frames wr ao n fs

set_option maxRecDepth 100000 in
set_option maxHeartbeats 2000000 in
theorem hist_walk (p q r : Int) (ao : Option Addr) (n c : Nat) (fs : List (List Int)) (w : World) (hf : Frames w ao n fs) (hnil : ao = none → n = 0 ∧ c = 0) (hm : n ≤ 9223372036854775807) (hby : ∀ f ∈ fs, ∀ z ∈ f, 0 ≤ z ∧ z ≤ 255)
    (wp : (Lit.int .u64 p).wf = true) (wq : (Lit.int .u64 q).wf = true) (wr : (Lit.int .u64 r).wf = true) :
    Calls Try.prog 5 #[.int .u64 p, .int .u64 q, .int .u64 r, .slice ao n c] w fun e w' => e = .returned (.bool true) ∧ Below w.heap.size w w' := by
  have HF : Hid (Frames w ao n fs) := hf
  have HP : Hid ((Lit.int .u64 p).wf = true) := wp
  have HQ : Hid ((Lit.int .u64 q).wf = true) := wq
  have HR : Hid ((Lit.int .u64 r).wf = true) := wr
  have HN : Hid (ao = none → n = 0 ∧ c = 0) := hnil
  have HBY : Hid (∀ f ∈ fs, ∀ z ∈ f, 0 ≤ z ∧ z ≤ 255) := hby
  have hneq := fun w => run_neq_slice_nil_any (P := Try.prog) w 27 22 ao n c 0 0 Try.underlying27
  clear hf wp wq wr hnil hby
  go_enter Try.func5, Try.ntmps5
  go_wp2_with fail
  refine (bytes12 p q r ao n c fs w HF.out hm).mono ?_
  rintro e w' ⟨b, rfl, rfl, hb⟩
  cases b with
  | false =>
    go_wp2_with fail
    go_ret
    exact ⟨rfl, Below.refl _ _⟩
  | true =>
    obtain ⟨hn1, hlen⟩ := hb rfl
    have HLEN : Hid (∀ f ∈ fs, f.length ≤ 1048576) := hlen
    clear hb hlen
    by_cases hn2 : 65536 < n
    · go_wp2_with fail
      go_ret
      exact ⟨rfl, Below.refl _ _⟩
    · go_wp2_with fail
      go_loop [9, 10] (fun t i => ∃ (k : Nat) (s : Int), k ≤ n ∧ i = .int .i64 k ∧ t = .int .i64 s ∧ 0 ≤ s ∧ s ≤ 1572864) (fun _ i => n - (intOf i).toNat)
      case atStart => exact ⟨0, 24 * n, Nat.zero_le _, rfl, rfl, by omega, by omega⟩
      case round =>
        obtain ⟨k, s, hk, rfl, rfl, hs0, hs1⟩ := hrel
        by_cases hlt : k < n
        · obtain ⟨b, off, a, m, cc, rfl, hcell, HM, _, _⟩ := HF.out.at hlt
          have hm1 : m ≤ 1048576 := by
            rw [HM.out]
            exact HLEN.out _ (by rw [getD_of_lt fs k [] (by rw [HF.out.1]; exact hlt)]; exact List.getElem_mem _)
          go_wp2
          · go_ret
            exact ⟨rfl, Below.refl _ _⟩
          · go_round
            case rel => exact ⟨k + 1, s + m, by omega, by go_num, rfl, by omega, by omega⟩
            case measure => simp [intOf]; omega
        · by_cases hs2 : 1048576 < s
          · go_wp2
            go_ret
            exact ⟨rfl, Below.refl _ _⟩
          · go_upto_if 54 with fail
            go_cut [3] (fun v wc => Ready w wc v n fs)
            case first =>
              match ao, HF, HN, hneq with
              | none, HF, HN, hneq =>
                go_wp2
                go_meet
                case rel => exact ⟨Below.refl _ _, none, c, rfl, HF.out⟩
              | some ad, HF, HN, hneq =>
                have hmk := run_make_row' (P := Try.prog) 27 22 (.slice none 0 0) 24 Try.underlying27 Try.info22 rfl .i64 .i64 n (by omega) (by omega)
                go_wp2
                go_loopw [12] (fun i wl => ∃ k : Nat, k ≤ n ∧ i = .int .i64 k ∧ Hid (Cloned w wl w.heap.size n k fs)) (fun i _ => n - (intOf i).toNat)
                case atStart => exact ⟨0, Nat.zero_le _, rfl, cloned_start w n fs⟩
                case round =>
                  obtain ⟨j, hj, rfl, HC⟩ := hrel
                  by_cases hjn : j < n
                  · obtain ⟨b, off, a, m, cc, had, hcell, HM, HRd, HA⟩ := HF.out.at hjn
                    have hm1 : m ≤ 1048576 := by
                      rw [HM.out]
                      exact HLEN.out _ (by rw [getD_of_lt fs j [] (by rw [HF.out.1]; exact hjn)]; exact List.getElem_mem _)
                    simp only [Option.some.injEq] at had
                    subst had
                    have gcell : wr.cell? ⟨b, off + j, none⟩ = some (.slice a m cc) := by rw [HC.out.below.cell (World.block_lt_of_cell? _ _ hcell)]; exact hcell
                    have HRw : Hid (Reads .u8 wr a m (fs.getD j [])) := HRd.out.below HC.out.below rfl
                    clear hcell HRd
                    go_wp2_with fail
                    refine (clone_up a m cc (fs.getD j []) wr HRw.out (by omega) HA.out).mono ?_
                    rintro e w2 ⟨v, rfl, hv, hb2⟩
                    obtain ⟨⟨u, hu⟩, hfz⟩ := cloned_cell HC.out hb2 hjn
                    have hv' := hv
                    obtain ⟨a', n', c', rfl, _⟩ := hv'
                    have HV : Hid (FrameUp wr.heap.size w2 (.slice a' n' c') (fs.getD j [])) := hv
                    have HB : Hid (Below wr.heap.size wr w2) := hb2
                    clear hv hb2
                    go_wp2
                    go_roundw
                    case rel => exact ⟨j + 1, by omega, by go_num, cloned_step HC.out HB.out HV.out⟩
                    case measure => simp [intOf]; omega
                  · obtain rfl : j = n := by omega
                    go_wp2
                    go_meet
                    case rel => exact ⟨HC.out.below, _, _, rfl, cloned_done HC.out HF.out.1⟩
            case rest =>
              obtain ⟨hb1, a1, c1, rfl, hf1⟩ := hcut
              have HB1 : Hid (Below w.heap.size w wc) := hb1
              have HF1 : Hid (Frames wc a1 n fs) := hf1
              clear hb1 hf1 HF HN hneq
              go_wp2
              go_loopw [13, 14, 15, 16] (fun x y z i wl => ∃ k : Nat, k ≤ n ∧ i = .int .i64 k ∧ x = .int .u64 (acc 2 p (fs.take k)) ∧ y = .int .u64 (acc 3 q (fs.take k)) ∧ z = .int .u64 (acc 4 r (fs.take k)) ∧ Hid (Below w.heap.size w wl) ∧ Hid (Frames wl a1 n fs)) (fun _ _ _ i _ => n - (intOf i).toNat)
              case atStart => exact ⟨0, Nat.zero_le _, rfl, by rw [List.take_zero, acc_nil _ _ HP.out], by rw [List.take_zero, acc_nil _ _ HQ.out], by rw [List.take_zero, acc_nil _ _ HR.out], HB1.out, HF1.out⟩
              case round =>
                obtain ⟨j, hj, rfl, rfl, rfl, rfl, HB2, HF2⟩ := hrel
                by_cases hjn : j < n
                · obtain ⟨b, off, a, m, cc, rfl, hcell, HM, HRd, HA⟩ := HF2.out.at hjn
                  obtain ⟨F, HFe⟩ : ∃ F, Hid (fs.getD j [] = F) := ⟨_, rfl⟩
                  rw [HFe.out] at HRd
                  clear HM
                  go_wp2_with fail
                  refine (count13 _ _ _ a m cc F wr HRd.out).mono ?_
                  rintro e w2 ⟨rfl, hb2⟩
                  have HB3 : Hid (Below w.heap.size w w2) := HB2.out.trans (hb2.mono HB2.out.size)
                  have HF3 : Hid (Frames w2 (some ⟨b, off, none⟩) n fs) := HF2.out.below hb2
                  have hjl : j < fs.length := by rw [HF2.out.1]; exact hjn
                  have HE2 : Hid (acc 2 p (fs.take (j + 1)) = bump 2 F (acc 2 p (fs.take j))) := by rw [← HFe.out]; exact acc_take 2 p fs j hjl
                  have HE3 : Hid (acc 3 q (fs.take (j + 1)) = bump 3 F (acc 3 q (fs.take j))) := by rw [← HFe.out]; exact acc_take 3 q fs j hjl
                  have HE4 : Hid (acc 4 r (fs.take (j + 1)) = bump 4 F (acc 4 r (fs.take j))) := by rw [← HFe.out]; exact acc_take 4 r fs j hjl
                  clear hb2 hjl hcell
                  go_wp2
                  go_roundw
                  case rel => exact ⟨j + 1, by omega, by go_num, by rw [HE2.out], by rw [HE3.out], by rw [HE4.out], HB3.out, HF3.out⟩
                  case measure => simp [intOf]; omega
                · obtain rfl : j = n := by omega
                  have HTK : Hid (fs.take j = fs) := List.take_of_length_le (by rw [HF2.out.1]; exact Nat.le_refl _)
                  rw [HTK.out]
                  go_wp2
                  go_loopw [17, 18, 19, 20] (fun x y z i wl => ∃ k : Nat, k ≤ j ∧ i = .int .i64 ((k : Int) - 1) ∧ x = .int .u64 (acc 2 p (fs.drop k)) ∧ y = .int .u64 (acc 3 q (fs.drop k)) ∧ z = .int .u64 (acc 4 r (fs.drop k)) ∧ Hid (Below w.heap.size w wl) ∧ Hid (Frames wl a1 j fs)) (fun _ _ _ i _ => (intOf i + 1).toNat)
                  case atStart =>
                    have hd : fs.drop j = [] := List.drop_eq_nil_of_le (by rw [HF2.out.1]; exact Nat.le_refl _)
                    exact ⟨j, Nat.le_refl _, rfl, by rw [hd, acc_nil _ _ HP.out], by rw [hd, acc_nil _ _ HQ.out], by rw [hd, acc_nil _ _ HR.out], HB2.out, HF2.out⟩
                  case round =>
                    obtain ⟨t, ht, rfl, rfl, rfl, rfl, HB4, HF4⟩ := hrel
                    rcases Nat.eq_zero_or_pos t with h0 | h0
                    · subst h0
                      rw [List.drop_zero]
                      have hz31 := zero31
                      clear HF1 HF2 HB1 HB2
                      obtain ⟨wh, hwh⟩ : ∃ wh, wh = wr := ⟨_, rfl⟩
                      subst hwh
                      go_wp2
                      clear hz31
                      go_loopw [22, 23] (fun i _ wl => ∃ k : Nat, k ≤ j ∧ i = .int .i64 k ∧ Hid (Hist wh wl wh.heap.size k fs)) (fun i _ _ => j - (intOf i).toNat)
                      case atStart => exact ⟨0, Nat.zero_le _, rfl, hist_start wh fs⟩
                      case round =>
                        obtain ⟨t, ht, rfl, HH⟩ := hrel
                        by_cases htj : t < j
                        · obtain ⟨b, off, a, m, cc, rfl, hcell, HM, HRd, HA⟩ := (HF4.out.below HH.out.below).at htj
                          have HTL : Hid (t < fs.length) := by rw [HF4.out.1]; exact htj
                          rcases Nat.eq_zero_or_pos m with hm0 | hm0
                          · subst hm0
                            have HE : Hid (fs.getD t [] = []) := List.eq_nil_of_length_eq_zero HM.out.symm
                            clear HM HRd HA
                            go_wp2
                            go_roundw
                            case rel => exact ⟨t + 1, by omega, by go_num, hist_skip HH.out HTL.out HE.out⟩
                            case measure => simp [intOf]; omega
                          · obtain ⟨z, tl, zlt, HE, b2, o2, rfl, hc0⟩ := first_byte HRd.out hm0 (HBY.out _ (by rw [getD_of_lt fs t [] HTL.out]; exact List.getElem_mem _))
                            obtain ⟨C, HC, hC, hcc, hfz⟩ := hist_cell HH.out zlt (by rw [HF4.out.1]; omega)
                            have hzi : (z : Int) < 256 := by omega
                            have hm0' : (0 : Int) < m := by omega
                            clear HM HRd HA
                            go_wp2
                            go_roundw
                            case rel => exact ⟨t + 1, by omega, by go_num, hist_store HH.out HTL.out HE.out _ (by rw [HC.out])⟩
                            case measure => simp [intOf]; omega
                        · obtain rfl : t = j := by omega
                          obtain ⟨C2, HC2, _, hc2, _⟩ := hist_cell (z := 2) HH.out (by omega) (by rw [HF4.out.1]; omega)
                          obtain ⟨C3, HC3, _, hc3, _⟩ := hist_cell (z := 3) HH.out (by omega) (by rw [HF4.out.1]; omega)
                          obtain ⟨C4, HC4, _, hc4, _⟩ := hist_cell (z := 4) HH.out (by omega) (by rw [HF4.out.1]; omega)
                          rw [HTK.out] at HC2 HC3 HC4
                          have e2 : (acc 2 p fs != IntKind.u64.wrap (p + C2)) = false := by rw [HC2.out]; simp [acc]
                          have e3 : (acc 3 q fs != IntKind.u64.wrap (q + C3)) = false := by rw [HC3.out]; simp [acc]
                          have e4 : (acc 4 r fs != IntKind.u64.wrap (r + C4)) = false := by rw [HC4.out]; simp [acc]
                          have HBL : Hid (Below w.heap.size w wr) := HB4.out.trans (HH.out.below.mono HB4.out.size)
                          clear HH
                          go_wp2
                          go_ret
                          exact ⟨rfl, HBL.out⟩
                    · obtain ⟨i, rfl⟩ : ∃ i, t = i + 1 := ⟨t - 1, by omega⟩
                      have hii : (((i + 1 : Nat) : Int) - 1) = (i : Int) := by omega
                      rw [hii]
                      have hin : i < j := by omega
                      obtain ⟨b, off, a, m, cc, rfl, hcell, HM, HRd, HA⟩ := HF4.out.at hin
                      obtain ⟨F, HFe⟩ : ∃ F, Hid (fs.getD i [] = F) := ⟨_, rfl⟩
                      rw [HFe.out] at HRd
                      clear HM hii
                      go_wp2_with fail
                      refine (count13 _ _ _ a m cc F wr HRd.out).mono ?_
                      rintro e w2 ⟨rfl, hb2⟩
                      have HB5 : Hid (Below w.heap.size w w2) := HB4.out.trans (hb2.mono HB4.out.size)
                      have HF5 : Hid (Frames w2 (some ⟨b, off, none⟩) j fs) := HF4.out.below hb2
                      have hjl : i < fs.length := by rw [HF4.out.1]; exact hin
                      have HE2 : Hid (acc 2 p (fs.drop i) = bump 2 F (acc 2 p (fs.drop (i + 1)))) := by rw [← HFe.out]; exact acc_drop 2 p fs i hjl
                      have HE3 : Hid (acc 3 q (fs.drop i) = bump 3 F (acc 3 q (fs.drop (i + 1)))) := by rw [← HFe.out]; exact acc_drop 3 q fs i hjl
                      have HE4 : Hid (acc 4 r (fs.drop i) = bump 4 F (acc 4 r (fs.drop (i + 1)))) := by rw [← HFe.out]; exact acc_drop 4 r fs i hjl
                      clear hb2 hjl hcell
                      go_wp2
                      go_roundw
                      case rel => exact ⟨i, by omega, by go_num, by rw [HE2.out], by rw [HE3.out], by rw [HE4.out], HB5.out, HF5.out⟩
                      case measure => simp [intOf]

end Go.Proofs.Qxb6601558a
