namespace Go.Proofs.Qxb6601944a

/-! ### Sums -/
def sm (g : Nat → Int) : Nat → Int
  | 0 => 0
  | j + 1 => sm g j + g j

def lsum (g : Nat → Int) : List Nat → Int
  | [] => 0
  | a :: t => g a + lsum g t

theorem lsum_append (g : Nat → Int) (a b : List Nat) : lsum g (a ++ b) = lsum g a + lsum g b := by
  induction a with
  | nil => simp [lsum]
  | cons x t ih => simp only [List.cons_append, lsum, ih]; omega

theorem lsum_perm (g : Nat → Int) {a b : List Nat} (h : a.Perm b) : lsum g a = lsum g b := by
  induction h with
  | nil => rfl
  | cons x _ ih => simp [lsum, ih]
  | swap x y l => simp only [lsum]; omega
  | trans _ _ ih1 ih2 => rw [ih1, ih2]

theorem lsum_range (g : Nat → Int) (n : Nat) : lsum g (List.range n) = sm g n := by
  induction n with
  | zero => rfl
  | succ n ih => rw [List.range_succ, lsum_append, ih]; simp [lsum, sm]

theorem lsum_congr {g h : Nat → Int} (l : List Nat) (e : ∀ i ∈ l, g i = h i) : lsum g l = lsum h l := by
  induction l with
  | nil => rfl
  | cons x t ih => simp only [lsum]; rw [e x (by simp), ih (fun i hi => e i (by simp [hi]))]

theorem lsum_nonneg {g : Nat → Int} (l : List Nat) (e : ∀ i ∈ l, 0 ≤ g i) : 0 ≤ lsum g l := by
  induction l with
  | nil => simp [lsum]
  | cons x t ih =>
    have h1 := e x (by simp)
    have h2 := ih (fun i hi => e i (by simp [hi]))
    simp only [lsum]; omega

theorem lsum_one (l : List Nat) : lsum (fun _ => 1) l = l.length := by
  induction l with
  | nil => rfl
  | cons x t ih => simp only [lsum, ih, List.length_cons]; omega

theorem lsum_zero (l : List Nat) : lsum (fun _ => 0) l = 0 := by
  induction l with
  | nil => rfl
  | cons x t ih => simp [lsum, ih]

theorem sm_mono {g : Nat → Int} {j n : Nat} (h : j ≤ n) (hg : ∀ i, i < n → 0 ≤ g i) : sm g j ≤ sm g n := by
  induction n with
  | zero => have : j = 0 := by omega
            subst this; exact Int.le_refl _
  | succ n ih =>
    rcases Nat.lt_or_ge n j with hlt | hge
    · have : j = n + 1 := by omega
      subst this; exact Int.le_refl _
    · have h1 := ih hge (fun i hi => hg i (by omega))
      have h2 := hg n (by omega)
      simp only [sm]; omega

theorem sm_nonneg {g : Nat → Int} {j : Nat} (hg : ∀ i, i < j → 0 ≤ g i) : 0 ≤ sm g j := sm_mono (j := 0) (Nat.zero_le _) hg

theorem sm_congr {g h : Nat → Int} {j : Nat} (e : ∀ i, i < j → g i = h i) : sm g j = sm h j := by
  induction j with
  | zero => rfl
  | succ j ih => simp only [sm]; rw [ih (fun i hi => e i (by omega)), e j (by omega)]

/-! ### The order of the islands: the most free first; of those with as many the first -/
def bef (f : Nat → Int) (i j : Nat) : Prop := f j < f i ∨ (f i = f j ∧ i < j)

theorem bef_asymm {f : Nat → Int} {i j : Nat} (h : bef f i j) (k : bef f j i) : False := by
  unfold bef at h k; omega

theorem bef_le {f : Nat → Int} {i j : Nat} (h : bef f i j) : f j ≤ f i := by unfold bef at h; omega

theorem bef_irrefl {f : Nat → Int} {i : Nat} (h : bef f i i) : False := bef_asymm h h

def ins (f : Nat → Int) (i : Nat) : List Nat → List Nat
  | [] => [i]
  | j :: t => if f j < f i then i :: j :: t else j :: ins f i t

def ord (f : Nat → Int) : Nat → List Nat
  | 0 => []
  | n + 1 => ins f n (ord f n)

theorem ins_perm (f : Nat → Int) (i : Nat) (l : List Nat) : (ins f i l).Perm (i :: l) := by
  induction l with
  | nil => exact List.Perm.refl _
  | cons j t ih =>
    simp only [ins]
    split
    · exact List.Perm.refl _
    · exact (List.Perm.cons j ih).trans (List.Perm.swap i j t)

theorem ord_perm (f : Nat → Int) (n : Nat) : (ord f n).Perm (List.range n) := by
  induction n with
  | zero => exact List.Perm.refl _
  | succ n ih =>
    have h1 := (ins_perm f n (ord f n)).trans (List.Perm.cons n ih)
    have h2 : (n :: List.range n).Perm (List.range n ++ [n]) := (List.perm_append_comm (l₁ := [n]) (l₂ := List.range n))
    rw [List.range_succ]
    exact h1.trans h2

theorem ord_length (f : Nat → Int) (n : Nat) : (ord f n).length = n := by
  rw [(ord_perm f n).length_eq, List.length_range]

theorem mem_ord {f : Nat → Int} {n j : Nat} : j ∈ ord f n ↔ j < n := by
  rw [(ord_perm f n).mem_iff, List.mem_range]

theorem ord_nodup (f : Nat → Int) (n : Nat) : (ord f n).Nodup := (ord_perm f n).nodup_iff.2 List.nodup_range

theorem ins_sorted (f : Nat → Int) (i : Nat) (l : List Nat) (h : l.Pairwise (bef f)) (hl : ∀ j ∈ l, j < i) : (ins f i l).Pairwise (bef f) := by
  induction l with
  | nil => simp [ins]
  | cons j t ih =>
    rw [List.pairwise_cons] at h
    have hji := hl j (by simp)
    simp only [ins]
    split
    · rename_i hlt
      rw [List.pairwise_cons]
      refine ⟨fun x hx => ?_, by rw [List.pairwise_cons]; exact h⟩
      rcases List.mem_cons.1 hx with rfl | hx
      · exact .inl hlt
      · have := bef_le (h.1 x hx)
        exact .inl (by omega)
    · rename_i hge
      rw [List.pairwise_cons]
      refine ⟨fun x hx => ?_, ih h.2 (fun y hy => hl y (by simp [hy]))⟩
      rcases List.mem_cons.1 ((ins_perm f i t).mem_iff.1 hx) with rfl | hx
      · unfold bef; omega
      · exact h.1 x hx

theorem ord_sorted (f : Nat → Int) (n : Nat) : (ord f n).Pairwise (bef f) := by
  induction n with
  | zero => exact List.Pairwise.nil
  | succ n ih => exact ins_sorted f n _ ih (fun j hj => mem_ord.1 hj)

theorem ins_split (f : Nat → Int) (i : Nat) (a b : List Nat) (ha : ∀ x ∈ a, ¬ f x < f i) (hb : ∀ x ∈ b, f x < f i) : ins f i (a ++ b) = a ++ i :: b := by
  induction a with
  | nil =>
    match b, hb with
    | [], _ => rfl
    | x :: t, hb => simp [ins, hb x (by simp)]
  | cons x t ih =>
    have hx := ha x (by simp)
    simp only [List.cons_append, ins]
    rw [if_neg hx, ih (fun y hy => ha y (by simp [hy]))]

/-- The value at place q of the order. -/
def pv (f : Nat → Int) (n q : Nat) : Int := f ((ord f n).getD q 0)

theorem getD_lt {α : Type} (l : List α) (q : Nat) (d : α) (h : q < l.length) : l.getD q d = l[q] := by
  rw [List.getD_eq_getElem?_getD, List.getElem?_eq_getElem h]; rfl

theorem pv_desc (f : Nat → Int) (n p q : Nat) (h : p < q) (hq : q < n) : pv f n q ≤ pv f n p := by
  have hl := ord_length f n
  have := List.pairwise_iff_getElem.1 (ord_sorted f n) p q (by omega) (by omega) h
  unfold pv
  rw [getD_lt _ p 0 (by omega), getD_lt _ q 0 (by omega)]
  exact bef_le this

/-! ### The insertion sort, as it runs: the hole is at place j -/
structure Shift (f : Nat → Int) (i j : Nat) (v : Int) (D : Nat → Int) : Prop where
  low : ∀ q, q < j → D q = pv f i q
  high : ∀ q, j < q → q ≤ i → D q = pv f i (q - 1)
  less : ∀ q, j ≤ q → q < i → pv f i q < v

theorem shift_start (f : Nat → Int) (i : Nat) (D : Nat → Int) (h : ∀ q, q < i → D q = pv f i q) (v : Int) : Shift f i i v D :=
  ⟨h, fun q h1 h2 => absurd h1 (by omega), fun q h1 h2 => absurd h1 (by omega)⟩

theorem shift_step {f : Nat → Int} {i j : Nat} {v : Int} {D : Nat → Int} (h : Shift f i (j + 1) v D) (hv : D j < v) : Shift f i j v (fun q => if q = j + 1 then D j else D q) := by
  have hj := h.low j (by omega)
  refine ⟨fun q hq => ?_, fun q h1 h2 => ?_, fun q h1 h2 => ?_⟩
  · show (if q = j + 1 then D j else D q) = _
    rw [if_neg (by omega)]; exact h.low q (by omega)
  · show (if q = j + 1 then D j else D q) = _
    by_cases e : q = j + 1
    · subst e; rw [if_pos rfl, hj]; rfl
    · rw [if_neg e]; exact h.high q (by omega) h2
  · by_cases e : q = j
    · subst e; omega
    · exact h.less q (by omega) h2

theorem ord_insert (f : Nat → Int) (i j : Nat) (hji : j ≤ i) (hlow : ∀ q, q < j → f i ≤ pv f i q) (hhigh : ∀ q, j ≤ q → q < i → pv f i q < f i) :
    ord f (i + 1) = (ord f i).take j ++ i :: (ord f i).drop j := by
  have hl := ord_length f i
  show ins f i (ord f i) = _
  conv => lhs; rw [← List.take_append_drop j (ord f i)]
  refine ins_split f i _ _ (fun x hx => ?_) (fun x hx => ?_)
  · obtain ⟨q, hq, rfl⟩ := List.mem_iff_getElem.1 hx
    simp only [List.length_take] at hq
    have := hlow q (by omega)
    rw [pv, getD_lt _ q 0 (by omega)] at this
    rw [List.getElem_take]; omega
  · obtain ⟨q, hq, rfl⟩ := List.mem_iff_getElem.1 hx
    simp only [List.length_drop] at hq
    have := hhigh (j + q) (by omega) (by omega)
    rw [pv, getD_lt _ (j + q) 0 (by omega)] at this
    rw [List.getElem_drop]; exact this

theorem shift_done {f : Nat → Int} {i j : Nat} {D : Nat → Int} (h : Shift f i j (f i) D) (hji : j ≤ i) (hst : j = 0 ∨ f i ≤ D (j - 1)) :
    ∀ q, q < i + 1 → (if q = j then f i else D q) = pv f (i + 1) q := by
  have hl := ord_length f i
  have hins := ord_insert f i j hji (fun q hq => by
    rcases hst with h0 | h0
    · omega
    · rw [h.low (j - 1) (by omega)] at h0
      by_cases e : q = j - 1
      · subst e; exact h0
      · exact Int.le_trans h0 (pv_desc f i q (j - 1) (by omega) (by omega))) h.less
  have htl : ((ord f i).take j).length = j := by rw [List.length_take]; omega
  intro q hq
  unfold pv
  rw [hins, List.getD_eq_getElem?_getD]
  by_cases e : q = j
  · subst e
    rw [if_pos rfl, List.getElem?_append_right (by omega), htl]
    simp
  · rw [if_neg e]
    by_cases hlt : q < j
    · rw [List.getElem?_append_left (by omega), List.getElem?_take, if_pos hlt, h.low q hlt, pv, List.getD_eq_getElem?_getD]
    · rw [List.getElem?_append_right (by omega), htl, h.high q (by omega) (by omega), pv, List.getD_eq_getElem?_getD]
      obtain ⟨r, rfl⟩ : ∃ r, q = j + r + 1 := ⟨q - j - 1, by omega⟩
      have e1 : j + r + 1 - j = r + 1 := by omega
      have e2 : j + r + 1 - 1 = j + r := by omega
      rw [e1, e2, List.getElem?_cons_succ, List.getElem?_drop]

/-! ### The fewest islands -/
def S (f : Nat → Int) (n t : Nat) : Int := lsum f ((ord f n).take t)

theorem S_zero (f : Nat → Int) (n : Nat) : S f n 0 = 0 := rfl

theorem S_succ (f : Nat → Int) (n t : Nat) (h : t < n) : S f n (t + 1) = S f n t + pv f n t := by
  have hl := ord_length f n
  unfold S pv
  rw [List.take_succ_eq_append_getElem (by omega), lsum_append, getD_lt _ t 0 (by omega)]
  simp [lsum]

theorem S_all (f : Nat → Int) (n : Nat) : S f n n = sm f n := by
  unfold S
  rw [List.take_of_length_le (by rw [ord_length]; exact Nat.le_refl _), lsum_perm f (ord_perm f n), lsum_range]

structure Fewest (f : Nat → Int) (n : Nat) (k : Int) (m : Nat) : Prop where
  le : m ≤ n
  less : ∀ t, t < m → S f n t < k
  reach : k ≤ S f n m

theorem Fewest.unique {f : Nat → Int} {n : Nat} {k : Int} {a b : Nat} (ha : Fewest f n k a) (hb : Fewest f n k b) : a = b := by
  rcases Nat.lt_trichotomy a b with h | h | h
  · have := hb.less a h; have := ha.reach; omega
  · exact h
  · have := ha.less b h; have := hb.reach; omega

/-- The law's domain. -/
structure Dom (f : Nat → Int) (n : Nat) (k : Int) : Prop where
  pos : 1 ≤ k
  nn : ∀ j, j < n → 0 ≤ f j
  lt : ∀ j, j < n → f j < k
  sum : k ≤ sm f n

/-! ### What spread gives -/
structure Res (f : Nat → Int) (n : Nat) (k : Int) (D : Nat → Int) (t js : Nat) : Prop where
  few : Fewest f n k (t + 1)
  fpos : ∀ j ∈ (ord f n).take t, 0 < f j
  jn : js < n
  out : js ∉ (ord f n).take t
  fits : k - S f n t ≤ f js
  first : ∀ j, j < js → j ∉ (ord f n).take t → f j < k - S f n t
  val : ∀ j, j < n → D j = if j ∈ (ord f n).take t then f j else if j = js then k - S f n t else 0

theorem Res.unique {f : Nat → Int} {n : Nat} {k : Int} {D E : Nat → Int} {t js u is : Nat} (h : Res f n k D t js) (g : Res f n k E u is) : ∀ j, j < n → D j = E j := by
  have ht : t = u := by have := h.few.unique g.few; omega
  subst ht
  have hj : js = is := by
    rcases Nat.lt_trichotomy js is with hlt | he | hgt
    · have := g.first js hlt h.out; have := h.fits; omega
    · exact he
    · have := h.first is hgt g.out; have := g.fits; omega
  subst hj
  intro j hj
  rw [h.val j hj, g.val j hj]

end Go.Proofs.Qxb6601944a
