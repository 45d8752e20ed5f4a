namespace Go.Proofs.Qxb6603100a

/-! ### The plain functions: bytes as numbers -/
def dig (c : Nat) : Bool := decide (48 ≤ c) && decide (c ≤ 57)

theorem dig_iff (c : Nat) : dig c = true ↔ 48 ≤ c ∧ c ≤ 57 := by simp [dig]
theorem dig_yes {c : Nat} (h0 : 48 ≤ c) (h1 : c ≤ 57) : dig c = true := (dig_iff c).2 ⟨h0, h1⟩
theorem dig_no {c : Nat} (h : ¬ (48 ≤ c ∧ c ≤ 57)) : dig c = false := by
  cases e : dig c with
  | false => rfl
  | true => exact absurd ((dig_iff c).1 e) h

/-- How many digits stand at the head. -/
def dl : List Nat → Nat
  | [] => 0
  | c :: t => if dig c then dl t + 1 else 0

/-- The exponent, if there is one behind place n. -/
def tailv (n : Nat) : List Nat → Nat
  | [] => n
  | c :: r =>
    if c = 101 ∨ c = 69 then
      match r with
      | [] => n
      | s :: q => if s = 43 ∨ s = 45 then (if dl q = 0 then n else n + 2 + dl q) else (if dl (s :: q) = 0 then n else n + 1 + dl (s :: q))
    else n

/-- What floatLen answers. -/
def flen (l : List Nat) : Nat :=
  match l with
  | [] => 0
  | c :: t =>
    if 49 ≤ c ∧ c ≤ 57 then
      match (c :: t).drop (dl (c :: t)) with
      | [] => 0
      | d :: r => if d = 46 then tailv (dl (c :: t) + 1 + dl r) (r.drop (dl r)) else 0
    else if c = 48 then
      match t with
      | [] => 0
      | d :: r => if d = 46 then (if dl r = 0 then 0 else tailv (2 + dl r) (r.drop (dl r))) else 0
    else if c = 46 then (if dl t = 0 then 0 else tailv (1 + dl t) (t.drop (dl t)))
    else 0

/-! ### The automaton -/
def step (st c : Nat) : Option Nat :=
  match st with
  | 0 => if 49 ≤ c ∧ c ≤ 57 then some 1 else if c = 48 then some 2 else if c = 46 then some 3 else none
  | 1 => if dig c then some 1 else if c = 46 then some 4 else none
  | 2 => if c = 46 then some 3 else none
  | 3 => if dig c then some 5 else none
  | 4 => if dig c then some 4 else if c = 101 ∨ c = 69 then some 6 else none
  | 5 => if dig c then some 5 else if c = 101 ∨ c = 69 then some 6 else none
  | 6 => if c = 43 ∨ c = 45 then some 7 else if dig c then some 8 else none
  | 7 => if dig c then some 8 else none
  | 8 => if dig c then some 8 else none
  | _ => none

def acc (st : Nat) : Bool := st == 4 || st == 5 || st == 8

def auto (st last i : Nat) : List Nat → Nat
  | [] => last
  | c :: t =>
    match step st c with
    | none => last
    | some s => auto s (if acc s then i + 1 else last) (i + 1) t

theorem auto_go {st c s : Nat} (last i : Nat) (t : List Nat) (h : step st c = some s) : auto st last i (c :: t) = auto s (if acc s then i + 1 else last) (i + 1) t := by
  simp [auto, h]

theorem auto_stop {st c : Nat} (last i : Nat) (t : List Nat) (h : step st c = none) : auto st last i (c :: t) = last := by
  simp [auto, h]

theorem dl_head {l : List Nat} {d : Nat} {r : List Nat} (h : l.drop (dl l) = d :: r) : dig d = false := by
  induction l with
  | nil => simp at h
  | cons c t ih =>
    by_cases hc : dig c = true
    · simp only [dl, hc, if_true, List.drop_succ_cons] at h
      exact ih h
    · simp only [dl, hc, if_false, Bool.false_eq_true, List.drop_zero] at h
      obtain ⟨rfl, _⟩ := List.cons.inj h
      simpa using hc

/-- A run of digits in state 1. -/
theorem auto_one (last i : Nat) (l : List Nat) : auto 1 last i l = auto 1 last (i + dl l) (l.drop (dl l)) := by
  induction l generalizing i with
  | nil => simp [dl]
  | cons c t ih =>
    by_cases hc : dig c = true
    · rw [auto_go (s := 1) _ _ _ (by simp [step, hc])]
      simp only [dl, hc, if_true, List.drop_succ_cons]
      rw [show (if acc 1 = true then i + 1 else last) = last from rfl, ih (i + 1)]
      congr 1; omega
    · simp [dl, hc]

/-- A run of digits in a state that accepts. -/
theorem auto_run (st : Nat) (hst : st = 4 ∨ st = 5 ∨ st = 8) (i : Nat) (l : List Nat) : auto st i i l = auto st (i + dl l) (i + dl l) (l.drop (dl l)) := by
  induction l generalizing i with
  | nil => simp [dl]
  | cons c t ih =>
    by_cases hc : dig c = true
    · have hs : step st c = some st := by rcases hst with rfl | rfl | rfl <;> simp [step, hc]
      have ha : acc st = true := by rcases hst with rfl | rfl | rfl <;> rfl
      rw [auto_go (s := st) _ _ _ hs, ha]
      simp only [dl, hc, if_true, List.drop_succ_cons]
      rw [ih (i + 1)]
      congr 1 <;> omega
    · simp [dl, hc]

theorem auto_eight (i : Nat) (l : List Nat) : auto 8 i i l = i + dl l := by
  rw [auto_run 8 (by simp)]
  match h : l.drop (dl l) with
  | [] => rfl
  | d :: r => rw [auto_stop _ _ _ (by simp [step, dl_head h])]

theorem dl_zero_or {l : List Nat} : dl l = 0 ∨ ∃ c t, l = c :: t ∧ dig c = true ∧ dl l = dl t + 1 := by
  match l with
  | [] => exact .inl rfl
  | c :: t =>
    by_cases hc : dig c = true
    · exact .inr ⟨c, t, rfl, hc, by simp [dl, hc]⟩
    · exact .inl (by simp [dl, hc])

theorem dl_zero_head {c : Nat} {t : List Nat} (h : dl (c :: t) = 0) : dig c = false := by
  cases e : dig c with
  | false => rfl
  | true => simp [dl, e] at h

/-- From state 7, or 6 behind the sign's place: digits or nothing. -/
theorem auto_seven (n i : Nat) (q : List Nat) : auto 7 n i q = if dl q = 0 then n else i + dl q := by
  match q with
  | [] => rfl
  | c :: t =>
    by_cases hc : dig c = true
    · rw [auto_go (s := 8) _ _ _ (by simp [step, hc]), show acc 8 = true from rfl, if_pos rfl, auto_eight]
      simp [dl, hc]; omega
    · rw [auto_stop _ _ _ (by simp [step, hc])]
      simp [dl, hc]

theorem auto_tail (st : Nat) (hst : st = 4 ∨ st = 5) (n : Nat) (l : List Nat) (hl : ∀ c r, l = c :: r → dig c = false) : auto st n n l = tailv n l := by
  match l with
  | [] => rfl
  | c :: r =>
    have hc := hl c r rfl
    by_cases he : c = 101 ∨ c = 69
    · have hs : step st c = some 6 := by rcases hst with rfl | rfl <;> simp [step, hc, he]
      rw [auto_go _ _ _ hs, show acc 6 = false from rfl]
      simp only [tailv, he, if_true, Bool.false_eq_true, if_false]
      match r with
      | [] => rfl
      | s :: q =>
        by_cases h6 : s = 43 ∨ s = 45
        · rw [auto_go (s := 7) _ _ _ (by simp [step, h6]), show acc 7 = false from rfl]
          simp only [h6, if_true, Bool.false_eq_true, if_false]
          rw [auto_seven]
        · simp only [h6, if_false]
          by_cases hd : dig s = true
          · rw [auto_go (s := 8) _ _ _ (by simp [step, h6, hd]), show acc 8 = true from rfl, if_pos rfl, auto_eight]
            simp [dl, hd]; omega
          · rw [auto_stop _ _ _ (by simp [step, h6, hd])]
            simp [dl, hd]
    · have hs : step st c = none := by rcases hst with rfl | rfl <;> simp [step, hc, he]
      rw [auto_stop _ _ _ hs]
      simp [tailv, he]

theorem auto_run_tail (st : Nat) (hst : st = 4 ∨ st = 5) (i : Nat) (r : List Nat) : auto st i i r = tailv (i + dl r) (r.drop (dl r)) := by
  rw [auto_run st (by rcases hst with h | h <;> simp [h])]
  exact auto_tail st hst _ _ (fun c q h => dl_head h)

theorem flen_one {c : Nat} {t : List Nat} (h1 : 49 ≤ c ∧ c ≤ 57) : flen (c :: t) = match (c :: t).drop (dl (c :: t)) with | [] => 0 | d :: r => if d = 46 then tailv (dl (c :: t) + 1 + dl r) (r.drop (dl r)) else 0 := if_pos h1
theorem flen_zero (t : List Nat) : flen (48 :: t) = match t with | [] => 0 | d :: r => if d = 46 then (if dl r = 0 then 0 else tailv (2 + dl r) (r.drop (dl r))) else 0 := rfl
theorem flen_dot (t : List Nat) : flen (46 :: t) = if dl t = 0 then 0 else tailv (1 + dl t) (t.drop (dl t)) := rfl
theorem flen_other {c : Nat} {t : List Nat} (h1 : ¬ (49 ≤ c ∧ c ≤ 57)) (h2 : c ≠ 48) (h3 : c ≠ 46) : flen (c :: t) = 0 := by
  show (if 49 ≤ c ∧ c ≤ 57 then _ else if c = 48 then _ else if c = 46 then _ else 0) = 0
  rw [if_neg h1, if_neg h2, if_neg h3]

/-- From state 3: at least one digit is owed. -/
theorem auto_three (i : Nat) (r : List Nat) : auto 3 0 i r = if dl r = 0 then 0 else tailv (i + dl r) (r.drop (dl r)) := by
  match r with
  | [] => rfl
  | x :: q =>
    by_cases hx : dig x = true
    · have hd : dl (x :: q) = dl q + 1 := by simp [dl, hx]
      rw [auto_go (s := 5) _ _ _ (by simp [step, hx]), show acc 5 = true from rfl, if_pos rfl, auto_run_tail 5 (by simp), hd, if_neg (by omega), List.drop_succ_cons]
      congr 1; omega
    · have hd : dl (x :: q) = 0 := by simp [dl, hx]
      rw [auto_stop _ _ _ (by simp [step, hx]), hd, if_pos rfl]

/-- THE PLAIN LAW. -/
theorem flen_auto (l : List Nat) : flen l = auto 0 0 0 l := by
  match l with
  | [] => rfl
  | c :: t =>
    by_cases h1 : 49 ≤ c ∧ c ≤ 57
    · have hc : dig c = true := dig_yes (by omega) h1.2
      have hdl : dl (c :: t) = dl t + 1 := by simp [dl, hc]
      rw [auto_go (s := 1) _ _ _ (by simp [step, h1]), show (if acc 1 = true then 0 + 1 else 0) = 0 from rfl, flen_one h1, auto_one, hdl, List.drop_succ_cons]
      match h : t.drop (dl t) with
      | [] => rfl
      | d :: r =>
        by_cases h46 : d = 46
        · subst h46
          rw [auto_go (s := 4) _ _ _ (by decide), show acc 4 = true from rfl, if_pos rfl, auto_run_tail 4 (by simp)]
          show (if (46 : Nat) = 46 then _ else _) = _
          rw [if_pos rfl]
          congr 1; omega
        · have hd := dl_head h
          rw [auto_stop _ _ _ (by simp [step, hd, h46])]
          exact if_neg h46
    · by_cases h48 : c = 48
      · subst h48
        rw [auto_go (s := 2) _ _ _ (by decide), show (if acc 2 = true then 0 + 1 else 0) = 0 from rfl, flen_zero]
        match t with
        | [] => rfl
        | d :: r =>
          by_cases h46 : d = 46
          · subst h46
            rw [auto_go (s := 3) _ _ _ (by decide), show (if acc 3 = true then 0 + 1 + 1 else 0) = 0 from rfl, auto_three]
            rfl
          · rw [auto_stop _ _ _ (by simp [step, h46])]
            exact if_neg h46
      · by_cases h46 : c = 46
        · subst h46
          rw [auto_go (s := 3) _ _ _ (by decide), show (if acc 3 = true then 0 + 1 else 0) = 0 from rfl, flen_dot, auto_three]
        · rw [auto_stop _ _ _ (by simp [step, h1, h48, h46]), flen_other h1 h48 h46]

end Go.Proofs.Qxb6603100a
