import Derived.Test.Qxb6601558aEq
import Derived.Laws.CopyOwn
import Derived.WalkLawsBesides
import Derived.WalkSpells
namespace Go.Proofs.Qxb6601558a
open Go.RowKit Go.WideShapes

theorem Try.info5 : (Try.prog.info? 5).map (fun i => (i.zero, i.size, i.bytes)) = some (some (.int .u8 0), 1, 1) := by kernel_rfl

/-- A row that is full to its capacity: its block, written out. -/
theorem block_of_full {w : World} {B e g n : Nat} {xs : List Value} (h : w.ownsRow B e 1 (.slice (some ⟨g, 0, none⟩) n n) n xs) : w.heap[g]? = some (.cells xs.toArray e (0, 0)) := by
  obtain ⟨hl, h | ⟨g', cap, cur, hv, hg, hh, hn, hm, hs, ht⟩⟩ := h
  · simp at h
  · simp at hv
    obtain ⟨rfl, rfl⟩ := hv
    rw [hh]
    have : cur.toList.take (n * 1) = cur.toList := List.take_of_length_le (by simp; omega)
    rw [this] at ht
    rw [← ht]

/-- What a block of numbers reads as. -/
theorem reads_of_block {w : World} {g : Nat} {k : IntKind} {e : TypeId} {zs : List Int} (h : w.heap[g]? = some (.cells (zs.map (Value.int k)).toArray e (0, 0))) : Reads k w (some ⟨g, 0, none⟩) zs.length zs := by
  refine ⟨rfl, fun _ => ⟨g, 0, rfl, fun i hi => ?_⟩⟩
  rw [cell_of_row w g _ _ e (0, 0) h]
  simp [hi]

theorem splice_all {α : Type} (L cs : List α) (h : L.length = cs.length) : splice L 0 cs = cs := by
  simp [splice, List.drop_eq_nil_of_le (Nat.le_of_eq h)]

theorem full_block {w : World} {B e g n : Nat} {xs : List Value} (h : w.ownsRow B e 1 (.slice (some ⟨g, 0, none⟩) n n) n xs) : ∃ Zs : List Value, Hid (Zs.length = n) ∧ Hid (w.heap[g]? = some (.cells Zs.toArray e (0, 0))) :=
  ⟨xs, by have := h.1; exact (by omega : xs.length = n), block_of_full h⟩

theorem src_of_reads {w w1 : World} {ad : Addr} {n : Nat} {k : IntKind} {x : List Int} {X : List Value} (hx : Reads k w (some ad) n x) (hX : X = x.map (Value.int k)) (hb : Below w.heap.size w w1) (g : Nat) :
    0 < X.length → (some (⟨g, 0, none⟩ : Addr)) = some ⟨g, 0, none⟩ ∧ ∃ ad', some ad = some ad' ∧ ∀ j v, X[j]? = some v → w1.cell? (ad'.add j) = some v := by
  intro h0
  subst hX
  simp at h0
  obtain ⟨b, off, e, hc⟩ := hx.2 (by rw [← hx.1]; exact h0)
  refine ⟨rfl, ad, rfl, fun j v hj => ?_⟩
  simp at e
  subst e
  simp at hj
  obtain ⟨z, hz, rfl⟩ := hj
  have hjl : j < n := by have := hx.1; obtain ⟨h, _⟩ := List.getElem?_eq_some_iff.1 hz; omega
  have hcj := hc j hjl
  rw [add_plain, hb.cell (World.block_lt_of_cell? _ _ hcj), hcj]
  simp [hz]

set_option maxHeartbeats 400000 in
theorem clone_new (ad : Addr) (n c : Nat) (x : List Int) (w : World) (hx : Reads .u8 w (some ad) n x) (h1 : n ≤ 1099511627776) :
    Calls Try.prog 7 #[.slice (some ad) n c] w fun e w' => e = .returned (.slice (some ⟨w.heap.size, 0, none⟩) n n) ∧ Reads .u8 w' (some ⟨w.heap.size, 0, none⟩) n x ∧ Below w.heap.size w w' := by
  obtain ⟨i0, hi, hz0, hz1, hz2⟩ := info_parts Try.info5
  have hnil := fun w => Lib.run_eql_slice_nil (P := Try.prog) w 22 5 (some ad) n c 0 0 Try.underlying22
  have HX : Hid (Reads .u8 w (some ad) n x) := hx
  have HL : Hid (x.length = n) := hx.1
  obtain ⟨X, HXX⟩ : ∃ X, Hid (X = x.map (Value.int .u8)) := ⟨_, rfl⟩
  have hXl : Hid (X.length = n) := by rw [HXX.out]; exact (by simp; exact HL.out : (x.map (Value.int .u8)).length = n)
  clear hx
  go_enter Try.func7, Try.ntmps7
  go_wp2_with (first | (at_make; refine wpList_make_full _ rfl (.tmp 7) (.tmp 7) 22 rfl w.heap.size 5 i0 (.int .u8 0) 1 Try.underlying22 hi hz0 hz1 .i64 .i64 _ _ n rfl rfl rfl rfl (by rw [hz2]; omega) (by unfold maxLen; omega) (Nat.le_refl _) ?_; intro w1 hown hgrow; obtain ⟨Zs, HZ, HB⟩ := full_block hown; have HG : Hid (Below w.heap.size w w1) := (Below.refl _ _).grown hgrow (Nat.le_refl _) (by simp); clear hown hgrow) | ((refine wpList_copy_splice rfl (.tmp 9) (.tmp 10) 22 22 rfl 5 Try.underlying22 (by kernel_rfl) _ _ _ _ _ _ rfl rfl w.heap.size 0 Zs 5 HB.out X (by rw [hXl.out]; simp) (src_of_reads HX.out HXX.out HG.out _) (by rw [hXl.out, HZ.out]; omega) (by rw [HXX.out]; exact ints_oneCell _ _) w.heap.size w HG.out (Nat.le_refl _) ?_; intro w2 HB2 hb2)))
  go_ret
  refine ⟨rfl, ?_, hb2⟩
  have e := HB2.out
  rw [splice_all _ _ (by rw [HZ.out, hXl.out]), HXX.out] at e
  have := reads_of_block e
  rw [HL.out] at this
  exact this

theorem clone_some (ad : Addr) (n c : Nat) (x : List Int) (w : World) (hx : Reads .u8 w (some ad) n x) (h1 : n ≤ 1099511627776) :
    Calls Try.prog 7 #[.slice (some ad) n c] w fun e w' => ∃ ao' c', e = .returned (.slice ao' n c') ∧ Reads .u8 w' ao' n x ∧ Below w.heap.size w w' :=
  (clone_new ad n c x w hx h1).mono fun _ _ ⟨h, h', h''⟩ => ⟨_, _, h, h', h''⟩

theorem clone_none (w : World) : Calls Try.prog 7 #[.slice none 0 0] w fun e w' => e = .returned (.slice none 0 0) ∧ w' = w := by
  have hnil := fun w => Lib.run_eql_slice_nil (P := Try.prog) w 22 5 none 0 0 0 0 Try.underlying22
  go_enter Try.func7, Try.ntmps7
  go_wp2
  go_ret
  exact ⟨rfl, rfl⟩

theorem clone_any (ao : Option Addr) (n c : Nat) (x : List Int) (w : World) (hx : Reads .u8 w ao n x) (h1 : n ≤ 1099511627776) (h0 : ao = none → c = 0) :
    Calls Try.prog 7 #[.slice ao n c] w fun e w' => ∃ ao' c', e = .returned (.slice ao' n c') ∧ Reads .u8 w' ao' n x ∧ Below w.heap.size w w' := by
  match ao with
  | some ad => exact clone_some ad n c x w hx h1
  | none =>
    obtain rfl := h0 rfl
    have hn : n = 0 := by
      rcases Nat.eq_zero_or_pos n with h | h
      · exact h
      · obtain ⟨b, off, e, _⟩ := hx.2 h
        simp at e
    subst hn
    refine (clone_none w).mono ?_
    rintro e w' ⟨rfl, rfl⟩
    exact ⟨_, _, rfl, hx, Below.refl _ _⟩

/-- What was read is read again behind whatever leaves the old blocks alone. -/
theorem Reads.below {k : IntKind} {w w' : World} {B : Nat} {ao : Option Addr} {n : Nat} {x : List Int} (h : Reads k w ao n x) (hb : Below B w w') (hB : B = w.heap.size) : Reads k w' ao n x := by
  subst hB
  refine ⟨h.1, fun h0 => ?_⟩
  obtain ⟨b, off, rfl, hc⟩ := h.2 h0
  refine ⟨b, off, rfl, fun i hi => ?_⟩
  rw [hb.cell (World.block_lt_of_cell? _ _ (hc i hi)), hc i hi]

theorem Reads.drewN {k : IntKind} {w : World} {ao : Option Addr} {n : Nat} {x : List Int} (h : Reads k w ao n x) (q : Nat) : Reads k (w.drewN q) ao n x := h

/-! ### slices.Clone -/
theorem src_alloc {w : World} {b off n : Nat} {k : IntKind} {x : List Int} {X : List Value} (hx : Reads k w (some ⟨b, off, none⟩) n x) (hX : X = x.map (Value.int k)) (o : Obj) (q : Nat) :
    ∀ j u, X[j]? = some u → ((w.alloc o).drewN q).cell? ((⟨b, off, none⟩ : Addr).add j) = some u := by
  intro j u hj
  have h0 : 0 < X.length := by have := (List.getElem?_eq_some_iff.1 hj).1; omega
  obtain ⟨_, ad, e, h⟩ := src_of_reads (w1 := (w.alloc o).drewN q) hx hX (below_drewN ((Below.refl _ _).alloc (Nat.le_refl _) o) q) 0 h0
  simp at e
  subst e
  exact h j u hj

theorem slice_of_owned {w : World} {B e n m : Nat} {v : Value} {xs : List Value} (h : w.ownsRow B e 1 v m xs) (hm : m = n) (hn : 0 < n) : ∃ g c', v = .slice (some ⟨g, 0, none⟩) n c' := by
  subst hm
  obtain ⟨_, ⟨_, h⟩ | ⟨g', cap, cur, hv, _⟩⟩ := h
  · omega
  · exact ⟨_, _, hv⟩

set_option maxHeartbeats 400000 in
theorem clone16 (b off n c : Nat) (x : List Int) (w : World) (hx : Reads .u8 w (some ⟨b, off, none⟩) n x) (hn : 0 < n) (h1 : n ≤ 1099511627776) :
    Calls Try.prog 16 #[.slice (some ⟨b, off, none⟩) n c] w fun e w' => ∃ g c', e = .returned (.slice (some ⟨g, 0, none⟩) n c') ∧ w'.ownsRow w.heap.size 5 1 (.slice (some ⟨g, 0, none⟩) n c') n (x.map (Value.int .u8)) ∧ Below w.heap.size w w' := by
  obtain ⟨i0, hi, hz0, hz1, hz2⟩ := info_parts Try.info5
  have hnil := fun w => Lib.run_eql_slice_nil (P := Try.prog) w 22 5 (some ⟨b, off, none⟩) n c 0 0 Try.underlying22
  have HX : Hid (Reads .u8 w (some ⟨b, off, none⟩) n x) := hx
  have HL : Hid (x.length = n) := hx.1
  obtain ⟨X, HXX⟩ : ∃ X, Hid (X = x.map (Value.int .u8)) := ⟨_, rfl⟩
  have hXl : Hid (X.length = n) := by rw [HXX.out]; exact (by simp; exact HL.out : (x.map (Value.int .u8)).length = n)
  have hown : Hid ((w.alloc (.cells #[] 5)).ownsRow w.heap.size 5 1 (.slice (some ⟨w.heap.size, 0, none⟩) 0 0) 0 []) := World.ownsRow_made w #[] 0 (Nat.le_refl _) (by decide) rfl
  clear hx
  go_enter Try.func16, Try.ntmps16
  go_wp2_with (at_builtin; go_must (refine wpList_append_own _ rfl (.tmp 5) (.tmp 6) 22 rfl w.heap.size 5 i0 (.int .u8 0) 1 1 Try.underlying22 hi hz0 hz1 hz2 rfl (by decide) (.slice (some ⟨w.heap.size, 0, none⟩) 0 0) 0 [] rfl hown.out ⟨b, off, none⟩ n c X rfl (by rw [hXl.out]; simp) (src_alloc HX.out HXX.out _ 0) (by rw [HXX.out]; exact ints_oneCell _ _) (by unfold maxLen; omega) (by omega) (by simp) ?_); intro v' w1 hown1 hgrow1 _)
  go_ret
  simp only [Nat.zero_add, List.nil_append] at hown1
  obtain ⟨g, c', hv⟩ := slice_of_owned hown1 rfl hn
  subst hv
  refine ⟨g, c', rfl, ?_, ?_⟩
  · rw [← HXX.out]; exact hown1
  · exact ((Below.refl _ _).alloc (Nat.le_refl _) _).grown hgrow1 (by simp) (by intro k hk; simp [Value.ownBlock] at hk; omega)

/-! ### wrongResult -/
def flip8 (z : Int) : Int := bits .xor .u8 z 128
def wrong (x : List Int) : List Int := if x.length = 0 then [128] else x.set (x.length - 1) (flip8 (x.getD (x.length - 1) 0))

theorem wrong_zero (ao : Option Addr) (c : Nat) (w : World) :
    Calls Try.prog 14 #[.slice ao 0 c] w fun e w' => e = .returned (.slice (some ⟨w.heap.size, 0, none⟩) 1 1) ∧ w' = w.alloc (.cells #[.int .u8 128] 5) := by
  go_enter Try.func14, Try.ntmps14
  go_wp2
  go_ret
  exact ⟨rfl, rfl⟩

theorem owned_last {w : World} {B g n c : Nat} {x : List Int} (h : w.ownsRow B 5 1 (.slice (some ⟨g, 0, none⟩) n c) n (x.map (Value.int .u8))) (hn : 0 < n) :
    ∃ z, Hid (z = x.getD (n - 1) 0) ∧ w.cell? ⟨g, n - 1, none⟩ = some (.int .u8 z) := by
  refine ⟨_, rfl, ?_⟩
  have hl : x.length = n := by have := h.1; simpa using this
  rw [h.cellAt (n - 1) (by omega)]
  simp [List.getElem?_eq_getElem (show n - 1 < x.length by omega)]

theorem block_of_owned {w : World} {B e g n c size : Nat} {xs : List Value} (h : w.ownsRow B e size (.slice (some ⟨g, 0, none⟩) n c) n xs) : B ≤ g := (h.lt g rfl).1

/-- What is owned can be read. -/
theorem reads_of_owned {w : World} {B e g n c : Nat} {k : IntKind} {x : List Int} (h : w.ownsRow B e 1 (.slice (some ⟨g, 0, none⟩) n c) n (x.map (Value.int k))) : Reads k w (some ⟨g, 0, none⟩) n x := by
  have hl : x.length = n := by have := h.1; simpa using this
  refine ⟨hl, fun _ => ⟨g, 0, rfl, fun i hi => ?_⟩⟩
  rw [Nat.zero_add, h.cellAt i (by omega)]
  simp [List.getElem?_eq_getElem (show i < x.length by omega)]

set_option maxHeartbeats 400000 in
theorem wrong_pos (b off n c : Nat) (x : List Int) (w : World) (hx : Reads .u8 w (some ⟨b, off, none⟩) n x) (hn : 0 < n) (h1 : n ≤ 1099511627776) :
    Calls Try.prog 14 #[.slice (some ⟨b, off, none⟩) n c] w fun e w' => ∃ ao' c', e = .returned (.slice ao' n c') ∧ Reads .u8 w' ao' n (wrong x) ∧ Below w.heap.size w w' := by
  have HX : Hid (Reads .u8 w (some ⟨b, off, none⟩) n x) := hx
  have h0 : ((n : Int) == 0) = false := by simp; omega
  clear hx
  go_enter Try.func14, Try.ntmps14
  go_wp2_with (go_at_call 16; refine (clone16 b off n c x w HX.out hn h1).mono ?_; rintro e w1 ⟨g, c', rfl, hown, hb⟩; obtain ⟨z, HZ, gc⟩ := owned_last hown hn; have gf := hown.frozenAt (n - 1); have HO : Hid (w1.ownsRow w.heap.size 5 1 (.slice (some ⟨g, 0, none⟩) n c') n (x.map (Value.int .u8))) := hown; clear hown; have HB : Hid (Below w.heap.size w w1) := hb; clear hb)
  go_ret
  obtain ⟨ho', hg'⟩ := HO.out.stored (n - 1) (.int .u8 (flip8 z))
  have hl := HX.out.1
  have e : (x.map (Value.int .u8)).set (n - 1) (.int .u8 (flip8 z)) = (wrong x).map (Value.int .u8) := by
    rw [wrong, if_neg (by omega), List.map_set, HZ.out, hl]
  rw [e] at ho'
  exact ⟨_, _, rfl, reads_of_owned ho', HB.out.setCell (block_of_owned HO.out) _⟩

theorem wrong_any (ao : Option Addr) (n c : Nat) (x : List Int) (w : World) (hx : Reads .u8 w ao n x) (h1 : n ≤ 1099511627776) :
    Calls Try.prog 14 #[.slice ao n c] w fun e w' => ∃ ao' n' c', n' = (wrong x).length ∧ e = .returned (.slice ao' n' c') ∧ Reads .u8 w' ao' n' (wrong x) ∧ Below w.heap.size w w' := by
  rcases Nat.eq_zero_or_pos n with h | h
  · subst h
    refine (wrong_zero ao c w).mono ?_
    rintro e w' ⟨rfl, rfl⟩
    have hl := hx.1
    have e : wrong x = [128] := by rw [wrong, if_pos hl]
    refine ⟨_, 1, _, by rw [e]; rfl, rfl, ?_, (Below.refl _ _).alloc (Nat.le_refl _) _⟩
    rw [e]
    exact reads_of_block (zs := [128]) (heap_alloc_new w _)
  · obtain ⟨b, off, rfl, _⟩ := hx.2 h
    refine (wrong_pos b off n c x w hx h h1).mono ?_
    rintro e w' ⟨ao', c', rfl, hr, hb⟩
    exact ⟨ao', n, c', hr.1.symm, rfl, hr, hb⟩

theorem zzwrong_any (ao : Option Addr) (n c : Nat) (x : List Int) (w : World) (hx : Reads .u8 w ao n x) (h1 : n ≤ 1099511627776) :
    Calls Try.prog 8 #[.slice ao n c] w fun e w' => ∃ ao' n' c', n' = (wrong x).length ∧ e = .returned (.slice ao' n' c') ∧ Reads .u8 w' ao' n' (wrong x) ∧ Below w.heap.size w w' := by
  have HX : Hid (Reads .u8 w ao n x) := hx
  clear hx
  go_enter Try.func8, Try.ntmps8
  go_wp2_with (go_at_call 14; refine (wrong_any ao n c x w HX.out h1).mono ?_; rintro e w1 ⟨ao', n', c', hn', rfl, hr, hb⟩; have HN : Hid (n' = (wrong x).length) := hn'; have HR : Hid (Reads .u8 w1 ao' n' (wrong x)) := hr; clear hr hn')
  go_ret
  exact ⟨_, _, _, HN.out, rfl, HR.out, hb⟩

end Go.Proofs.Qxb6601558a
