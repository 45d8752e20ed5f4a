import Derived.Test.Qxb6601944aPlain2
namespace Go.Proofs.Qxb6601944a

/-! ### The model's rank -/
def befB (f : Nat → Int) (i j : Nat) : Bool := decide (f j < f i) || (decide (f i = f j) && decide (i < j))

theorem befB_iff (f : Nat → Int) (i j : Nat) : befB f i j = true ↔ bef f i j := by
  simp [befB, bef]

def one (b : Bool) : Int := if b then 1 else 0
theorem one_true : one true = 1 := rfl
theorem one_false : one false = 0 := rfl
theorem one_nonneg (b : Bool) : 0 ≤ one b := by cases b <;> simp [one]
theorem one_le (b : Bool) : one b ≤ 1 := by cases b <;> simp [one]

def rk (f : Nat → Int) (j i : Nat) : Int := sm (fun i => one (befB f i j)) i

theorem sm_one_le (b : Nat → Bool) (i : Nat) : 0 ≤ sm (fun i => one (b i)) i ∧ sm (fun i => one (b i)) i ≤ i := by
  induction i with
  | zero => simp [sm]
  | succ i ih =>
    have h1 := one_nonneg (b i)
    have h2 := one_le (b i)
    simp only [sm]; omega

theorem rk_bound (f : Nat → Int) (j i : Nat) : 0 ≤ rk f j i ∧ rk f j i ≤ i := sm_one_le (fun i => befB f i j) i

theorem sm_ord (f g : Nat → Int) (n : Nat) : sm g n = lsum g (ord f n) := by
  rw [lsum_perm g (ord_perm f n), lsum_range]

theorem rank_lt (f : Nat → Int) (n j t : Nat) (hj : j < n) : rk f j n < (t : Int) ↔ j ∈ T f n t := by
  have hl := ord_length f n
  obtain ⟨p, hp, he⟩ := List.mem_iff_getElem.1 (mem_ord.2 hj : j ∈ ord f n)
  have hs := ord_sorted f n
  have hsplit : ord f n = (ord f n).take p ++ (j :: (ord f n).drop (p + 1)) := by
    conv => lhs; rw [← List.take_append_drop p (ord f n), List.drop_eq_getElem_cons hp, he]
  have hr : rk f j n = p := by
    rw [rk, sm_ord f]
    rw [hsplit] at hs ⊢
    rw [List.pairwise_append, List.pairwise_cons] at hs
    have e1 : lsum (fun i => one (befB f i j)) ((ord f n).take p) = lsum (fun _ => 1) ((ord f n).take p) := lsum_congr _ (fun i hi => by
      have := hs.2.2 i hi j (by simp)
      rw [(befB_iff f i j).2 this]; rfl)
    have e2 : lsum (fun i => one (befB f i j)) (j :: (ord f n).drop (p + 1)) = lsum (fun _ => 0) (j :: (ord f n).drop (p + 1)) := lsum_congr _ (fun i hi => by
      have hn : befB f i j = false := by
        cases hb : befB f i j with
        | false => rfl
        | true =>
          exfalso
          have hb' := (befB_iff f i j).1 hb
          rcases List.mem_cons.1 hi with rfl | hi
          · exact bef_irrefl hb'
          · exact bef_asymm hb' (hs.2.1.1 i hi)
      rw [hn]; rfl)
    rw [lsum_append, e1, e2, lsum_one, lsum_zero, List.length_take]
    omega
  rw [hr]
  constructor
  · intro h
    have hpt : p < t := by omega
    have hp' : p < (T f n t).length := by rw [T, List.length_take]; omega
    have : (T f n t)[p] = j := by rw [List.getElem_take]; exact he
    rw [← this]; exact List.getElem_mem _
  · intro h
    obtain ⟨q, hq, he2⟩ := List.mem_iff_getElem.1 h
    rw [List.getElem_take] at he2
    rw [T, List.length_take] at hq
    have hpq : p = q := (List.getElem_inj (ord_nodup f n)).1 (he.trans he2.symm)
    omega

/-! ### The sum of those taken whole, island by island -/
def inT (f : Nat → Int) (n t i : Nat) : Bool := decide (i ∈ T f n t)
def wsum (f : Nat → Int) (n t i : Nat) : Int := sm (fun i => if i ∈ T f n t then f i else 0) i

theorem split_sum (f g : Nat → Int) (n t : Nat) : sm g n = lsum g (T f n t) + lsum g ((ord f n).drop t) := by
  rw [sm_ord f, ← lsum_append, List.take_append_drop]

theorem wsum_all (f : Nat → Int) (n t : Nat) : wsum f n t n = S f n t := by
  unfold wsum
  rw [split_sum f _ n t, lsum_congr (h := f) _ (fun i hi => if_pos hi), lsum_congr (h := fun _ => 0) ((ord f n).drop t) (fun i hi => if_neg (not_T_of_drop hi)), lsum_zero, S]
  exact Int.add_zero _

theorem wsum_bound {f : Nat → Int} {n t : Nat} {k : Int} (hd : Dom f n k) (i : Nat) (hi : i ≤ n) : 0 ≤ wsum f n t i ∧ wsum f n t i ≤ S f n t := by
  have hnn : ∀ j, j < n → 0 ≤ (if j ∈ T f n t then f j else 0) := fun j hj => by
    split
    · exact hd.nn j hj
    · exact Int.le_refl _
  refine ⟨sm_nonneg (fun j hj => hnn j (by omega)), ?_⟩
  rw [← wsum_all]
  exact sm_mono hi hnn

/-! ### What the law asks of spread's answer -/
theorem nodup_drop (f : Nat → Int) (n t : Nat) : ((ord f n).drop t).Nodup := List.Nodup.sublist (List.drop_sublist _ _) (ord_nodup f n)

theorem lsum_single {l : List Nat} (hn : l.Nodup) {a : Nat} (ha : a ∈ l) (g : Nat → Int) (hg : ∀ i ∈ l, i ≠ a → g i = 0) : lsum g l = g a := by
  induction l with
  | nil => simp at ha
  | cons x t ih =>
    rw [List.nodup_cons] at hn
    simp only [lsum]
    rcases List.mem_cons.1 ha with e | ha
    · subst e
      have : lsum g t = lsum (fun _ => 0) t := lsum_congr _ (fun i hi => hg i (by simp [hi]) (fun e => hn.1 (e ▸ hi)))
      rw [this, lsum_zero]; omega
    · have hxa : x ≠ a := fun e => hn.1 (e ▸ ha)
      rw [ih hn.2 ha (fun i hi => hg i (by simp [hi])), hg x (by simp) hxa]; omega

theorem Res.rest_pos {f : Nat → Int} {n : Nat} {k : Int} {D : Nat → Int} {t js : Nat} (h : Res f n k D t js) : 0 < k - S f n t := by
  have := h.few.less t (by omega); omega

theorem Res.sum {f : Nat → Int} {n : Nat} {k : Int} {D : Nat → Int} {t js : Nat} (h : Res f n k D t js) : sm D n = k := by
  have hjd : js ∈ (ord f n).drop t := mem_drop_of h.jn h.out
  rw [split_sum f D n t, lsum_congr (h := f) (T f n t) (fun i hi => by rw [h.val i (T_lt hi), if_pos hi]),
    lsum_single (nodup_drop f n t) hjd D (fun i hi hne => by
      rw [h.val i (mem_ord.1 (List.mem_of_mem_drop hi)), if_neg (not_T_of_drop hi), if_neg hne])]
  rw [h.val js h.jn, if_neg h.out, if_pos rfl]
  show S f n t + _ = _
  omega

theorem Res.bound {f : Nat → Int} {n : Nat} {k : Int} {D : Nat → Int} {t js : Nat} (hd : Dom f n k) (h : Res f n k D t js) (j : Nat) (hj : j < n) : 0 ≤ D j ∧ D j ≤ f j := by
  have hr := h.rest_pos
  have h0 := hd.nn j hj
  rw [h.val j hj]
  split
  · omega
  · split
    · rename_i e; subst e; have := h.fits; omega
    · omega

theorem Res.touched {f : Nat → Int} {n : Nat} {k : Int} {D : Nat → Int} {t js : Nat} (h : Res f n k D t js) : sm (fun i => one (decide (0 < D i))) n = ((t + 1 : Nat) : Int) := by
  have hjd : js ∈ (ord f n).drop t := mem_drop_of h.jn h.out
  have hr := h.rest_pos
  have htn : t < n := by have := h.few.le; omega
  rw [split_sum f _ n t, lsum_congr (h := fun _ => 1) (T f n t) (fun i hi => by
      have hp := h.fpos i hi
      rw [h.val i (T_lt hi), if_pos hi, decide_eq_true hp]; rfl),
    lsum_single (nodup_drop f n t) hjd _ (fun i hi hne => by
      rw [h.val i (mem_ord.1 (List.mem_of_mem_drop hi)), if_neg (not_T_of_drop hi), if_neg hne]; rfl)]
  rw [h.val js h.jn, if_neg h.out, if_pos rfl, decide_eq_true hr, lsum_one, T, List.length_take, ord_length, one_true]
  omega

theorem Res.parts {f : Nat → Int} {n : Nat} {k : Int} {D : Nat → Int} {t js : Nat} (h : Res f n k D t js) : sm (fun i => one (decide (0 < D i ∧ D i < f i))) n ≤ 1 := by
  have hjd : js ∈ (ord f n).drop t := mem_drop_of h.jn h.out
  rw [split_sum f _ n t, lsum_congr (h := fun _ => 0) (T f n t) (fun i hi => by
      rw [h.val i (T_lt hi), if_pos hi, decide_eq_false (by omega)]; rfl),
    lsum_single (nodup_drop f n t) hjd _ (fun i hi hne => by
      rw [h.val i (mem_ord.1 (List.mem_of_mem_drop hi)), if_neg (not_T_of_drop hi), if_neg hne]; rfl), lsum_zero]
  have := one_le (decide (0 < D js ∧ D js < f js))
  omega

end Go.Proofs.Qxb6601944a
