import Derived.Test.Qxb6601944aPlain
namespace Go.Proofs.Qxb6601944a

/-! ### The order cut at t: the first t islands and the rest -/
abbrev T (f : Nat → Int) (n t : Nat) : List Nat := (ord f n).take t

theorem T_lt {f : Nat → Int} {n t j : Nat} (h : j ∈ T f n t) : j < n := mem_ord.1 (List.mem_of_mem_take h)

theorem mem_drop_of {f : Nat → Int} {n t j : Nat} (hj : j < n) (h : j ∉ T f n t) : j ∈ (ord f n).drop t := by
  have : j ∈ (ord f n).take t ++ (ord f n).drop t := by rw [List.take_append_drop]; exact mem_ord.2 hj
  exact (List.mem_append.1 this).resolve_left h

theorem not_T_of_drop {f : Nat → Int} {n t j : Nat} (h : j ∈ (ord f n).drop t) : j ∉ T f n t := by
  intro h2
  have hn := ord_nodup f n
  rw [← List.take_append_drop t (ord f n), List.nodup_append] at hn
  exact hn.2.2 j h2 j h rfl

theorem bef_of_take_drop {f : Nat → Int} {n t i j : Nat} (hi : i ∈ T f n t) (hj : j ∈ (ord f n).drop t) : bef f i j := by
  have hs := ord_sorted f n
  rw [← List.take_append_drop t (ord f n), List.pairwise_append] at hs
  exact hs.2.2 i hi j hj

/-- The island at place t. -/
def at' (f : Nat → Int) (n t : Nat) : Nat := (ord f n).getD t 0

theorem drop_at {f : Nat → Int} {n t : Nat} (h : t < n) : (ord f n).drop t = at' f n t :: (ord f n).drop (t + 1) := by
  have hl := ord_length f n
  rw [at', getD_lt _ t 0 (by omega), ← List.drop_eq_getElem_cons]

theorem T_succ {f : Nat → Int} {n t : Nat} (h : t < n) : T f n (t + 1) = T f n t ++ [at' f n t] := by
  have hl := ord_length f n
  rw [T, List.take_succ_eq_append_getElem (by omega), at', getD_lt _ t 0 (by omega)]

theorem at_mem_drop {f : Nat → Int} {n t : Nat} (h : t < n) : at' f n t ∈ (ord f n).drop t := by rw [drop_at h]; simp

theorem at_lt {f : Nat → Int} {n t : Nat} (h : t < n) : at' f n t < n := mem_ord.1 (List.mem_of_mem_drop (at_mem_drop h))

theorem at_first {f : Nat → Int} {n t j : Nat} (h : t < n) (hj : j ∈ (ord f n).drop t) : j = at' f n t ∨ bef f (at' f n t) j := by
  rw [drop_at h] at hj
  rcases List.mem_cons.1 hj with e | hj
  · exact .inl e
  · have hs := ord_sorted f n
    have hs2 : ((ord f n).drop t).Pairwise (bef f) := List.Pairwise.sublist (List.drop_sublist _ _) hs
    rw [drop_at h, List.pairwise_cons] at hs2
    exact .inr (hs2.1 j hj)

theorem S_at {f : Nat → Int} {n t : Nat} (h : t < n) : S f n (t + 1) = S f n t + f (at' f n t) := S_succ f n t h

/-- Whatever lies behind place t adds up to what is left of the sum. -/
theorem S_rest (f : Nat → Int) (n t : Nat) : sm f n = S f n t + lsum f ((ord f n).drop t) := by
  rw [← S_all, S, S, ← lsum_append, List.take_append_drop]
  rw [List.take_of_length_le (by rw [ord_length]; exact Nat.le_refl _)]

theorem lsum_nonpos {g : Nat → Int} (l : List Nat) (e : ∀ i ∈ l, g i ≤ 0) : lsum g l ≤ 0 := by
  induction l with
  | nil => simp [lsum]
  | cons x t ih =>
    have h1 := e x (by simp)
    have h2 := ih (fun i hi => e i (by simp [hi]))
    simp only [lsum]; omega

/-- WHERE spread's FIRST LOOP STANDS: t islands taken whole. -/
structure Mid (f : Nat → Int) (n : Nat) (k : Int) (t : Nat) (kt : Int) (D : Nat → Int) : Prop where
  tn : t ≤ n
  kt : kt = k - S f n t
  less : ∀ s, s ≤ t → S f n s < k
  fpos : ∀ j ∈ T f n t, 0 < f j
  val : ∀ j, j < n → D j = if j ∈ T f n t then f j else 0

theorem mid_start {f : Nat → Int} {n : Nat} {k : Int} (h : Dom f n k) : Mid f n k 0 k (fun _ => 0) :=
  ⟨Nat.zero_le _, by rw [S_zero]; omega, fun s hs => by
    have : s = 0 := by omega
    subst this; rw [S_zero]; have := h.pos; omega, by simp [T], by simp [T]⟩

theorem mid_ktpos {f : Nat → Int} {n t : Nat} {k kt : Int} {D : Nat → Int} (h : Mid f n k t kt D) : 1 ≤ kt := by
  have := h.less t (Nat.le_refl _); have := h.kt; omega

theorem S_nonneg {f : Nat → Int} {n : Nat} {k : Int} (h : Dom f n k) (t : Nat) : 0 ≤ S f n t := lsum_nonneg _ (fun j hj => h.nn j (T_lt hj))

theorem mid_ktle {f : Nat → Int} {n t : Nat} {k kt : Int} {D : Nat → Int} (hd : Dom f n k) (h : Mid f n k t kt D) : kt ≤ k := by
  have := S_nonneg hd t; have := h.kt; omega

/-- There is an island left that has a free one; the first of the order among them has. -/
theorem mid_more {f : Nat → Int} {n t : Nat} {k kt : Int} {D : Nat → Int} (hd : Dom f n k) (h : Mid f n k t kt D) : t < n ∧ 0 < f (at' f n t) := by
  have hs := S_rest f n t
  have h1 := h.less t (Nat.le_refl _)
  have h2 := hd.sum
  have htn : t < n := by
    rcases Nat.lt_or_ge t n with hlt | hge
    · exact hlt
    · have : (ord f n).drop t = [] := List.drop_eq_nil_of_le (by rw [ord_length]; exact hge)
      rw [this] at hs
      simp only [lsum] at hs
      omega
  refine ⟨htn, ?_⟩
  rcases Int.lt_or_le 0 (f (at' f n t)) with hp | hp
  · exact hp
  · exfalso
    have := lsum_nonpos (g := f) ((ord f n).drop t) (fun j hj => by
      rcases at_first htn hj with rfl | hb
      · exact hp
      · have := bef_le hb; omega)
    omega

/-- .. and its inner loop: the best of the first i islands. -/
def Best (f : Nat → Int) (n t i : Nat) (b : Int) : Prop :=
  (b = -1 ∧ ∀ j, j < i → j ∉ T f n t → f j ≤ 0) ∨
  ∃ c : Nat, b = (c : Int) ∧ c < i ∧ c ∉ T f n t ∧ 0 < f c ∧ ∀ j, j < i → j ∉ T f n t → 0 < f j → j = c ∨ bef f c j

theorem best_start (f : Nat → Int) (n t : Nat) : Best f n t 0 (-1) := .inl ⟨rfl, fun _ hj => absurd hj (Nat.not_lt_zero _)⟩

theorem best_skip {f : Nat → Int} {n t i : Nat} {b : Int} (h : Best f n t i b) (hi : i ∈ T f n t ∨ f i ≤ 0) : Best f n t (i + 1) b := by
  rcases h with ⟨hb, h⟩ | ⟨c, hb, hc, hT, hf, h⟩
  · refine .inl ⟨hb, fun j hj hjT => ?_⟩
    by_cases e : j = i
    · subst e; exact hi.resolve_left hjT
    · exact h j (by omega) hjT
  · refine .inr ⟨c, hb, by omega, hT, hf, fun j hj hjT hfj => ?_⟩
    by_cases e : j = i
    · subst e
      rcases hi with h1 | h1
      · exact absurd h1 hjT
      · omega
    · exact h j (by omega) hjT hfj

theorem best_first {f : Nat → Int} {n t i : Nat} {b : Int} (h : Best f n t i b) (hb : b < 0) (hi : i ∉ T f n t) (hf : 0 < f i) : Best f n t (i + 1) i := by
  rcases h with ⟨_, h⟩ | ⟨c, hb', _⟩
  · refine .inr ⟨i, rfl, by omega, hi, hf, fun j hj hjT hfj => ?_⟩
    by_cases e : j = i
    · exact .inl e
    · have := h j (by omega) hjT; omega
  · omega

theorem best_more {f : Nat → Int} {n t i c : Nat} (h : Best f n t i c) (hi : i ∉ T f n t) (hf : 0 < f i) (hgt : f c < f i) : Best f n t (i + 1) i := by
  rcases h with ⟨hb, _⟩ | ⟨c', hb, hc, hT, hfc, h⟩
  · omega
  · obtain rfl : c' = c := by omega
    refine .inr ⟨i, rfl, by omega, hi, hf, fun j hj hjT hfj => ?_⟩
    by_cases e : j = i
    · exact .inl e
    · right
      rcases h j (by omega) hjT hfj with rfl | hbf
      · exact .inl hgt
      · have := bef_le hbf; exact .inl (by omega)

theorem best_less {f : Nat → Int} {n t i c : Nat} (h : Best f n t i c) (hgt : f i ≤ f c) : Best f n t (i + 1) c := by
  rcases h with ⟨hb, _⟩ | ⟨c', hb, hc, hT, hfc, h⟩
  · omega
  · obtain rfl : c' = c := by omega
    refine .inr ⟨c', rfl, by omega, hT, hfc, fun j hj hjT hfj => ?_⟩
    by_cases e : j = i
    · subst e
      right; unfold bef; omega
    · exact h j (by omega) hjT hfj

theorem best_done {f : Nat → Int} {n t : Nat} {k kt b : Int} {D : Nat → Int} (hd : Dom f n k) (hm : Mid f n k t kt D) (h : Best f n t n b) : b = (at' f n t : Int) := by
  obtain ⟨htn, hpos⟩ := mid_more hd hm
  have hnot : at' f n t ∉ T f n t := not_T_of_drop (at_mem_drop htn)
  rcases h with ⟨_, h⟩ | ⟨c, hb, hc, hT, hfc, h⟩
  · have := h _ (at_lt htn) hnot; omega
  · have hcd := mem_drop_of hc hT
    rcases h _ (at_lt htn) hnot hpos with e | hbf
    · rw [hb, e]
    · rcases at_first htn hcd with e | hbf2
      · rw [hb, e]
      · exact absurd hbf (fun x => bef_asymm x hbf2)

theorem mid_step {f : Nat → Int} {n t : Nat} {k kt : Int} {D : Nat → Int} (hd : Dom f n k) (hm : Mid f n k t kt D) (hlt : f (at' f n t) < kt) :
    Mid f n k (t + 1) (kt - f (at' f n t)) (fun j => if j = at' f n t then f (at' f n t) else D j) := by
  obtain ⟨htn, hpos⟩ := mid_more hd hm
  have hS := S_at (f := f) htn
  have hk := hm.kt
  refine ⟨by omega, by omega, fun s hs => ?_, fun j hj => ?_, fun j hj => ?_⟩
  · rcases Nat.lt_or_ge s (t + 1) with h1 | h1
    · exact hm.less s (by omega)
    · have : s = t + 1 := by omega
      subst this; omega
  · rw [T_succ htn] at hj
    rcases List.mem_append.1 hj with h1 | h1
    · exact hm.fpos j h1
    · simp at h1; subst h1; exact hpos
  · show (if j = at' f n t then f (at' f n t) else D j) = _
    rw [T_succ htn]
    by_cases e : j = at' f n t
    · subst e; simp
    · rw [if_neg e, hm.val j hj]
      by_cases h1 : j ∈ T f n t
      · rw [if_pos h1, if_pos (List.mem_append.2 (.inl h1))]
      · rw [if_neg h1, if_neg (fun h2 => (List.mem_append.1 h2).elim h1 (fun h3 => e (by simpa using h3)))]

theorem mid_fewest {f : Nat → Int} {n t : Nat} {k kt : Int} {D : Nat → Int} (hd : Dom f n k) (hm : Mid f n k t kt D) (hge : kt ≤ f (at' f n t)) : Fewest f n k (t + 1) := by
  obtain ⟨htn, _⟩ := mid_more hd hm
  have hS := S_at (f := f) htn
  have hk := hm.kt
  exact ⟨by omega, fun s hs => hm.less s (by omega), by omega⟩

/-- In D a nought says 'not taken'. -/
theorem mid_nought {f : Nat → Int} {n t j : Nat} {k kt : Int} {D : Nat → Int} (hm : Mid f n k t kt D) (hj : j < n) : D j = 0 ↔ j ∉ T f n t := by
  rw [hm.val j hj]
  by_cases h : j ∈ T f n t
  · rw [if_pos h]
    have := hm.fpos j h
    exact ⟨fun e => absurd e (by omega), fun e => absurd h e⟩
  · rw [if_neg h]
    exact ⟨fun _ => h, fun _ => rfl⟩

/-- THE LAST LOOP: no island ahead of j fits. -/
def None (f : Nat → Int) (n t : Nat) (kt : Int) (j : Nat) : Prop := ∀ i, i < j → i ∉ T f n t → f i < kt

theorem none_start (f : Nat → Int) (n t : Nat) (kt : Int) : None f n t kt 0 := fun _ hi => absurd hi (Nat.not_lt_zero _)

theorem none_step {f : Nat → Int} {n t j : Nat} {kt : Int} (h : None f n t kt j) (hj : j ∈ T f n t ∨ f j < kt) : None f n t kt (j + 1) := by
  intro i hi hT
  by_cases e : i = j
  · subst e; exact hj.resolve_left hT
  · exact h i (by omega) hT

/-- Somebody fits. -/
theorem none_false {f : Nat → Int} {n t : Nat} {k kt : Int} (h : None f n t kt n) (hf : Fewest f n k (t + 1)) (hk : kt = k - S f n t) : False := by
  have htn : t < n := by have := hf.le; omega
  have hS := S_at (f := f) htn
  have h1 := h _ (at_lt htn) (not_T_of_drop (at_mem_drop htn))
  have h2 := hf.reach
  omega

theorem res_of {f : Nat → Int} {n t js : Nat} {k kt : Int} {D : Nat → Int} (hk : kt = k - S f n t) (hpos : ∀ j ∈ T f n t, 0 < f j) (hval : ∀ j, j < n → D j = if j ∈ T f n t then f j else 0) (hf : Fewest f n k (t + 1)) (h : None f n t kt js) (hj : js < n) (hT : js ∉ T f n t) (hfit : kt ≤ f js) :
    Res f n k (fun j => if j = js then kt else D j) t js := by
  subst hk
  refine ⟨hf, hpos, hj, hT, hfit, h, fun j hjn => ?_⟩
  show (if j = js then _ else D j) = _
  rw [hval j hjn]
  by_cases e : j = js
  · subst e; rw [if_pos rfl, if_neg hT, if_pos rfl]
  · rw [if_neg e]
    by_cases h1 : j ∈ T f n t
    · rw [if_pos h1, if_pos h1]
    · rw [if_neg h1, if_neg h1, if_neg e]

end Go.Proofs.Qxb6601944a
