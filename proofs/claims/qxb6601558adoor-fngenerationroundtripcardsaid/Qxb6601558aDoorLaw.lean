import Derived.Test.Qxb6601558aDoorUtoa
import Derived.Lib.SmallJoins
import Derived.OpenShut
namespace Go.Proofs.Qxb6601558aDoor
open Go.RowKit

theorem digits_zeros {l : List UInt8} (h : Digits l) (hl : l.length ≤ 20) : Digits (48 :: 48 :: 48 :: l) := by
  refine ⟨by simp, fun c hc => ?_, by rw [dval_zeros]; exact h.lim, by simp; omega⟩
  rcases List.mem_cons.1 hc with rfl | hc
  · decide
  · rcases List.mem_cons.1 hc with rfl | hc
    · decide
    · rcases List.mem_cons.1 hc with rfl | hc
      · decide
      · exact h.dig c hc

theorem digits_no_log {s : ByteArray} (h : Digits s.data.toList) : ((s.extract 0 4).toList == [108, 111, 103, 45]) = false := by
  rw [Lib.extract_toList]
  cases e : ((List.drop 0 s.data.toList).take (4 - 0) == [108, 111, 103, 45]) with
  | false => rfl
  | true =>
    exfalso
    have e' := eq_of_beq e
    have hm : (108 : UInt8) ∈ (List.drop 0 s.data.toList).take (4 - 0) := by rw [e']; simp
    have := h.dig _ (List.mem_of_mem_drop (List.mem_of_mem_take hm))
    have h2 := this.2
    exact absurd h2 (by decide)

set_option maxRecDepth 100000 in
set_option maxHeartbeats 1000000 in
theorem law (g : Nat) (x : Int) (hx : x = (g : Int)) (hg : g < 18446744073709551616) (w : World) :
    Calls Tryd.prog 3 #[.int .u64 x] w fun e w' => e = .returned (.bool true) ∧ Below w.heap.size w w' := by
  have HX : Hid (x = (g : Int)) := hx
  have HG : Hid (g < 18446744073709551616) := hg
  clear hx hg
  go_enter Tryd.func3, Tryd.ntmps3
  go_wp2_with fail
  refine (utoa g x HX.out HG.out w).mono ?_
  rintro e w1 ⟨l, rfl, hd, hv, hl, hb1⟩
  obtain ⟨S, hS⟩ : ∃ S : ByteArray, S = ⟨l.toArray⟩ := ⟨_, rfl⟩
  have hSd : S.data.toList = l := by rw [hS]
  have hSs : S.size = l.length := by rw [Lib.size_eq, hSd]
  rw [← hS]
  have HD : Hid (Digits l) := hd
  have HV : Hid (dval l = g) := hv
  have HL : Hid (l.length ≤ 20) := hl
  have HS : Hid (S.data.toList = l) := hSd
  have HB1 : Hid (Below w.heap.size w w1) := hb1
  have hsz : S.size ≤ 20 := by omega
  clear hd hv hl hSd hS hb1 hSs
  go_wp2_with fail
  refine (gen5_yes _ l (by rw [Joins.data_append, HS.out]; rfl) HD.out g HV.out w1).mono ?_
  rintro e w2 ⟨rfl, hb2⟩
  rw [← HX.out]
  have HB2 : Hid (Below w.heap.size w w2) := HB1.out.trans (hb2.mono HB1.out.size)
  clear hb2
  go_wp2_with fail
  refine (gen5_yes _ (48 :: 48 :: 48 :: l) (by rw [Joins.data_append, HS.out]; rfl) (digits_zeros HD.out HL.out) g (by rw [dval_zeros]; exact HV.out) w2).mono ?_
  rintro e w3 ⟨rfl, hb3⟩
  rw [← HX.out]
  have HB3 : Hid (Below w.heap.size w w3) := HB2.out.trans (hb3.mono HB2.out.size)
  clear hb3
  go_wp2_with fail
  refine (gen5_no S (digits_no_log (by rw [HS.out]; exact HD.out)) (by rw [HS.out]; exact HD.out) w3).mono ?_
  rintro e w4 ⟨D, rfl, hb4⟩
  have HB4 : Hid (Below w.heap.size w w4) := HB3.out.trans (hb4.mono HB3.out.size)
  clear hb4
  go_wp2
  go_ret
  exact ⟨rfl, HB4.out⟩

end Go.Proofs.Qxb6601558aDoor
