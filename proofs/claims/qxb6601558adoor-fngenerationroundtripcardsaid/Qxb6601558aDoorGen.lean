import Derived.Test.Qxb6601558aDoorParse
namespace Go.Proofs.Qxb6601558aDoor
open Go.RowKit

theorem parse8 (t : ByteArray) (hd : Digits t.data.toList) (D : Nat) (hD : dval t.data.toList = D) (w : World) :
    Calls Tryd.prog 8 #[.string t, .int .i64 10, .int .i64 64] w fun e w' => e = .returned (.tuple #[.int .u64 D, .nilIface]) ∧ Below w.heap.size w w' := by
  have HD : Hid (Digits t.data.toList) := hd
  have HV : Hid (dval t.data.toList = D) := hD
  clear hd hD
  have hb := below_bytes w 5 t
  go_enter Tryd.func8, Tryd.ntmps8
  go_wp2_with fail
  refine (parse10 t HD.out w).mono ?_
  rintro e w1 ⟨rfl, rfl⟩
  obtain ⟨W1, hW1⟩ : ∃ W1, W1 = Lib.bytesWorld w 5 t := ⟨_, rfl⟩
  rw [← hW1] at hb ⊢
  rw [HV.out]
  clear hW1
  go_wp2
  go_ret2
  exact ⟨rfl, hb⟩

theorem cut7_yes (s : ByteArray) (hs : 4 ≤ s.size) (hm : s.size ≤ 2097152) (hp : ((s.extract 0 4).toList == [108, 111, 103, 45]) = true) (w : World) :
    Calls Tryd.prog 7 #[.string s, .string ⟨#[108, 111, 103, 45]⟩] w fun e w' => e = .returned (.tuple #[.string (s.extract 4 s.size), .bool true]) ∧ w = w' := by
  have hp' : (!((s.extract 0 4).toList == [108, 111, 103, 45])) = false := by rw [hp]; rfl
  go_enter Tryd.func7, Tryd.ntmps7
  go_wp2
  go_ret2
  exact ⟨rfl, rfl⟩

theorem cut7_no (s : ByteArray) (hm : s.size ≤ 2097152) (hp : ((s.extract 0 4).toList == [108, 111, 103, 45]) = false) (w : World) :
    Calls Tryd.prog 7 #[.string s, .string ⟨#[108, 111, 103, 45]⟩] w fun e w' => e = .returned (.tuple #[.string s, .bool false]) ∧ w = w' := by
  by_cases hs : 4 ≤ s.size
  all_goals
    go_enter Tryd.func7, Tryd.ntmps7
    go_wp2
    go_ret2
    exact ⟨rfl, rfl⟩

theorem gen6_yes (s : ByteArray) (l : List UInt8) (hs : s.data.toList = 108 :: 111 :: 103 :: 45 :: l) (hd : Digits l) (D : Nat) (hD : dval l = D) (w : World) :
    Calls Tryd.prog 6 #[.string s] w fun e w' => e = .returned (.tuple #[.int .u64 D, .bool true]) ∧ Below w.heap.size w w' := by
  have hsz : s.size = l.length + 4 := by rw [Lib.size_eq, hs]; simp
  have hex : (s.extract 4 s.size).data.toList = l := by rw [Lib.extract_data, hs, hsz]; simp
  have hp : ((s.extract 0 4).toList == [108, 111, 103, 45]) = true := by rw [Lib.extract_toList, hs]; simp
  have HC := hid (cut7_yes s (by omega) (by have := hd.len; omega) hp w)
  obtain ⟨t, ht⟩ : ∃ t, t = s.extract 4 s.size := ⟨_, rfl⟩
  rw [← ht] at hex HC
  have HP := hid (parse8 t (by rw [hex]; exact hd) D (by rw [hex]; exact hD))
  clear hs hd hD hsz hex hp ht
  go_enter Tryd.func6, Tryd.ntmps6
  go_wp2_with fail
  refine HC.out.mono ?_
  rintro e w' ⟨rfl, rfl⟩
  go_wp2_with fail
  refine (HP.out w).mono ?_
  rintro e w1 ⟨rfl, hb⟩
  go_wp2
  go_quiet (fail)
  go_wp2
  go_ret2
  exact ⟨rfl, below_drewN hb _⟩

theorem gen6_no (s : ByteArray) (hp : ((s.extract 0 4).toList == [108, 111, 103, 45]) = false) (hd : Digits s.data.toList) (w : World) :
    Calls Tryd.prog 6 #[.string s] w fun e w' => e = .returned (.tuple #[.int .u64 (dval s.data.toList), .bool false]) ∧ Below w.heap.size w w' := by
  have hsz : s.size = s.data.toList.length := by rw [Lib.size_eq]
  have HC := hid (cut7_no s (by have := hd.len; omega) hp w)
  obtain ⟨D, hD⟩ : ∃ D, D = dval s.data.toList := ⟨_, rfl⟩
  have HP := hid (parse8 s hd D hD.symm)
  rw [← hD]
  clear hd hD hp hsz
  go_enter Tryd.func6, Tryd.ntmps6
  go_wp2_with fail
  refine HC.out.mono ?_
  rintro e w' ⟨rfl, rfl⟩
  go_wp2_with fail
  refine (HP.out w).mono ?_
  rintro e w1 ⟨rfl, hb⟩
  go_wp2
  go_quiet (fail)
  go_wp2
  go_ret2
  exact ⟨rfl, below_drewN hb _⟩

theorem gen5_yes (s : ByteArray) (l : List UInt8) (hs : s.data.toList = 108 :: 111 :: 103 :: 45 :: l) (hd : Digits l) (D : Nat) (hD : dval l = D) (w : World) :
    Calls Tryd.prog 5 #[.string s] w fun e w' => e = .returned (.tuple #[.int .u64 D, .bool true]) ∧ Below w.heap.size w w' := by
  have HP := hid (gen6_yes s l hs hd D hD w)
  clear hs hd hD
  go_enter Tryd.func5, Tryd.ntmps5
  go_wp2_with fail
  refine HP.out.mono ?_
  rintro e w1 ⟨rfl, hb⟩
  go_wp2
  go_ret2
  exact ⟨rfl, hb⟩

theorem gen5_no (s : ByteArray) (hp : ((s.extract 0 4).toList == [108, 111, 103, 45]) = false) (hd : Digits s.data.toList) (w : World) :
    Calls Tryd.prog 5 #[.string s] w fun e w' => ∃ D : Nat, e = .returned (.tuple #[.int .u64 D, .bool false]) ∧ Below w.heap.size w w' := by
  obtain ⟨D, hD⟩ : ∃ D, D = dval s.data.toList := ⟨_, rfl⟩
  have H := gen6_no s hp hd w
  rw [← hD] at H
  have HP := hid H
  clear hp hd hD H
  refine Calls.mono (R := fun e w' => e = .returned (.tuple #[.int .u64 D, .bool false]) ∧ Below w.heap.size w w') ?_ (fun _ _ h => ⟨D, h⟩)
  go_enter Tryd.func5, Tryd.ntmps5
  go_wp2_with fail
  refine HP.out.mono ?_
  rintro e w1 ⟨rfl, hb⟩
  go_wp2
  go_ret2
  exact ⟨rfl, hb⟩

end Go.Proofs.Qxb6601558aDoor
