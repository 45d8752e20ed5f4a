import Derived.Test.Qxb6601558aFrames
import Derived.OpenShut
namespace Go.Proofs.Qxb6601558a
open Go.RowKit Go.WideShapes

/-- How many of the frames begin with the byte j. -/
def cnt (j : Int) (fs : List (List Int)) : Nat := fs.countP (fun f => f.head? == some j)

/-- The counter p, raised by all of them, in 64 bits. -/
def acc (j p : Int) (fs : List (List Int)) : Int := IntKind.u64.wrap (p + cnt j fs)

theorem wrap64_eq (x : Int) : IntKind.u64.wrap x = x % 18446744073709551616 := by
  simp [IntKind.wrap, IntKind.bits, IntKind.signed]

theorem wrap_wrap_one (x : Int) : IntKind.u64.wrap (IntKind.u64.wrap x + 1) = IntKind.u64.wrap (x + 1) := by
  rw [wrap64_eq, wrap64_eq, wrap64_eq]; omega

theorem wrap_small (x : Int) (h0 : 0 ≤ x) (h1 : x ≤ 1099511627776) : IntKind.u64.wrap x = x := by
  rw [wrap64_eq]; omega

theorem acc_nil (j p : Int) (h : (Lit.int .u64 p).wf = true) : acc j p [] = p := by
  have hb := bounds_u64 h
  rw [acc, wrap64_eq]
  simp [cnt]
  omega

theorem cnt_le (j : Int) (fs : List (List Int)) : cnt j fs ≤ fs.length := List.countP_le_length

theorem cnt_append (j : Int) (a b : List (List Int)) : cnt j (a ++ b) = cnt j a + cnt j b := List.countP_append

theorem cnt_one (j : Int) (f : List Int) : cnt j [f] = if f.head? = some j then 1 else 0 := by
  unfold cnt
  rw [List.countP_singleton]
  by_cases h : f.head? = some j <;> simp [h]

theorem acc_one (j p : Int) (fs gs : List (List Int)) (f : List Int) (h : cnt j gs = cnt j fs + cnt j [f]) : acc j p gs = bump j f (acc j p fs) := by
  rw [cnt_one] at h
  unfold acc bump
  rw [h]
  by_cases e : f.head? = some j
  · rw [if_pos e, if_pos e, wrap_wrap_one]
    congr 1
    push_cast
    omega
  · rw [if_neg e, if_neg e]
    rfl

theorem getD_of_lt {α : Type} (fs : List α) (k : Nat) (d : α) (h : k < fs.length) : fs.getD k d = fs[k] := by
  rw [List.getD_eq_getElem?_getD, List.getElem?_eq_getElem h]; rfl

theorem cnt_take (j : Int) (fs : List (List Int)) (k : Nat) (h : k < fs.length) : cnt j (fs.take (k + 1)) = cnt j (fs.take k) + cnt j [fs.getD k []] := by
  rw [List.take_succ_eq_append_getElem h, cnt_append, getD_of_lt fs k [] h]

theorem cnt_drop (j : Int) (fs : List (List Int)) (k : Nat) (h : k < fs.length) : cnt j (fs.drop k) = cnt j (fs.drop (k + 1)) + cnt j [fs.getD k []] := by
  rw [List.drop_eq_getElem_cons h, getD_of_lt fs k [] h, ← List.singleton_append, cnt_append]
  omega

theorem acc_take (j p : Int) (fs : List (List Int)) (k : Nat) (h : k < fs.length) : acc j p (fs.take (k + 1)) = bump j (fs.getD k []) (acc j p (fs.take k)) := acc_one _ _ _ _ _ (cnt_take j fs k h)

theorem acc_drop (j p : Int) (fs : List (List Int)) (k : Nat) (h : k < fs.length) : acc j p (fs.drop k) = bump j (fs.getD k []) (acc j p (fs.drop (k + 1))) := acc_one _ _ _ _ _ (cnt_drop j fs k h)

end Go.Proofs.Qxb6601558a
