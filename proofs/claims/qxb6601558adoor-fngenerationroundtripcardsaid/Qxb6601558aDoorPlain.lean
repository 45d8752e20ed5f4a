namespace Go.Proofs.Qxb6601558aDoor

/-- The number that a row of decimal digits writes. -/
def dval (l : List UInt8) : Nat := l.foldl (fun n c => n * 10 + (c.toNat - 48)) 0

theorem dval_snoc (l : List UInt8) (c : UInt8) : dval (l ++ [c]) = dval l * 10 + (c.toNat - 48) := by
  simp [dval]

theorem dval_take (l : List UInt8) (k : Nat) (h : k < l.length) : dval (l.take (k + 1)) = dval (l.take k) * 10 + (l[k].toNat - 48) := by
  rw [List.take_succ_eq_append_getElem h, dval_snoc]

theorem dval_append_le (a b : List UInt8) : dval a ≤ dval (a ++ b) := by
  induction b generalizing a with
  | nil => simp
  | cons c t ih =>
    have h1 := ih (a ++ [c])
    rw [List.append_assoc, List.singleton_append] at h1
    rw [dval_snoc] at h1
    omega

theorem dval_take_le (l : List UInt8) (k : Nat) : dval (l.take k) ≤ dval l := by
  have := dval_append_le (l.take k) (l.drop k)
  rwa [List.take_append_drop] at this

theorem dfold (l : List UInt8) (n : Nat) : l.foldl (fun n c => n * 10 + (c.toNat - 48)) n = n * 10 ^ l.length + dval l := by
  induction l generalizing n with
  | nil => simp [dval]
  | cons c t ih =>
    have h0 : dval (c :: t) = (c.toNat - 48) * 10 ^ t.length + dval t := by
      show List.foldl _ _ t = _
      rw [ih]
      simp
    rw [List.foldl_cons, ih, List.length_cons, Nat.pow_succ, h0, Nat.add_mul, Nat.mul_assoc, Nat.mul_comm 10 (10 ^ t.length), Nat.add_assoc]

theorem dval_cons (c : UInt8) (l : List UInt8) : dval (c :: l) = (c.toNat - 48) * 10 ^ l.length + dval l := by
  show List.foldl _ _ l = _
  rw [dfold]
  simp

/-- Leading noughts. -/
theorem dval_zeros (l : List UInt8) : dval (48 :: 48 :: 48 :: l) = dval l := rfl

/-- WHERE zzUtoa STANDS: g is what is still to be written (a), ahead of the digits l. -/
structure Mid (g : Nat) (a : Int) (l : List UInt8) : Prop where
  nn : 0 ≤ a
  val : g = a.toNat * 10 ^ l.length + dval l
  pos : l = [] ∨ 0 < a
  dig : ∀ c ∈ l, 48 ≤ c.toNat ∧ c.toNat ≤ 57

theorem mid_short {g : Nat} {a : Int} {l : List UInt8} (h : Mid g a l) (hg : g < 18446744073709551616) : l.length ≤ 19 := by
  rcases Nat.lt_or_ge 19 l.length with hl | hl
  · exfalso
    have hne : l ≠ [] := by intro e; subst e; simp at hl
    have hpos : 0 < a := h.pos.resolve_left hne
    have h1 : 1 ≤ a.toNat := by omega
    have h2 : 10 ^ 20 ≤ 10 ^ l.length := Nat.pow_le_pow_right (by omega) (by omega)
    have h3 : 1 * 10 ^ l.length ≤ a.toNat * 10 ^ l.length := Nat.mul_le_mul_right _ h1
    have hv := h.val
    omega
  · exact hl

/-- The byte that one round writes. -/
def digitOf (a : Int) : UInt8 := UInt8.ofNat (48 + (a % 10).toNat)
theorem digitOf_toNat (a : Int) : (digitOf a).toNat = 48 + (a % 10).toNat := by
  have : (a % 10).toNat < 10 := by omega
  simp [digitOf]
  omega

theorem mid_step {g : Nat} {a : Int} {l : List UInt8} (h : Mid g a l) : g = (a / 10).toNat * 10 ^ (digitOf a :: l).length + dval (digitOf a :: l) ∧ ∀ c ∈ digitOf a :: l, 48 ≤ c.toNat ∧ c.toNat ≤ 57 := by
  have hd := digitOf_toNat a
  have hn := h.nn
  refine ⟨?_, fun c hc => ?_⟩
  · rw [dval_cons, hd, h.val, List.length_cons, Nat.pow_succ]
    have e : a.toNat = (a / 10).toNat * 10 + (a % 10).toNat := by omega
    have e2 : 48 + (a % 10).toNat - 48 = (a % 10).toNat := by omega
    rw [e2]
    conv => lhs; rw [e]
    rw [Nat.add_mul, Nat.mul_comm (10 ^ l.length) 10, ← Nat.mul_assoc, Nat.add_assoc]
  · rcases List.mem_cons.1 hc with rfl | hc
    · omega
    · exact h.dig c hc

theorem mid_next {g : Nat} {a : Int} {l : List UInt8} (h : Mid g a l) (hz : (a / 10 == 0) = false) : Mid g (a / 10) (digitOf a :: l) := by
  have hn := h.nn
  have hne : a / 10 ≠ 0 := by simpa using hz
  exact ⟨by omega, (mid_step h).1, .inr (by omega), (mid_step h).2⟩

theorem mid_done {g : Nat} {a : Int} {l : List UInt8} (h : Mid g a l) (hz : (a / 10 == 0) = true) : g = dval (digitOf a :: l) := by
  have he : a / 10 = 0 := by simpa using hz
  have := (mid_step h).1
  rw [he] at this
  simpa using this

end Go.Proofs.Qxb6601558aDoor
