import Derived.Test.Qxb6601558aDoorRows
import Derived.Test.Qxb6601558aDoorPlain
import Derived.WalkKit
import Derived.Deep.QuietTactic
import Derived.BigQuiet
import Derived.WalkLawsBesides
import Derived.WalkSpells
import Derived.Lib.ConvBytes
import Derived.Lib.Strings
import Derived.Lib.Walk
import Derived.Laws.Strings3
import Derived.Laws.Closers25
import Derived.Laws.Closers25b
import Derived.BigCall
import Derived.BigGuard
namespace Go.Proofs.Qxb6601558aDoor
open Go.RowKit

/-- A text of decimal digits, not empty, that a uint64 holds. -/
structure Digits (l : List UInt8) : Prop where
  ne : 0 < l.length
  dig : ∀ c ∈ l, 48 ≤ c.toNat ∧ c.toNat ≤ 57
  lim : dval l < 18446744073709551616
  len : l.length ≤ 1048576

theorem hid {p : Prop} (h : p) : Hid p := h

theorem below_bytes (w : World) (e : TypeId) (t : ByteArray) : Below w.heap.size w (Lib.bytesWorld w e t) :=
  ⟨rfl, rfl, rfl, by rw [Lib.bytesWorld_size]; omega, fun k hk => Lib.bytesWorld_at_old w e t k hk⟩

set_option maxRecDepth 100000 in
set_option maxHeartbeats 4000000 in
theorem parse10 (t : ByteArray) (hd : Digits t.data.toList) (w : World) :
    Calls Tryd.prog 10 #[.string t, .int .i64 10, .int .i64 64] w fun e w' => e = .returned (.tuple #[.int .u64 (dval t.data.toList), .nilIface]) ∧ w' = Lib.bytesWorld w 5 t := by
  have hsz : t.data.toList.length = t.size := by rw [Lib.size_eq]
  have hne : t.size ≠ 0 := by have := hd.ne; omega
  have hlim : t.size ≤ 1048576 := by have := hd.len; omega
  have hemp : t.toList.isEmpty = false := by
    rw [← decide_eq_emptyBytes]
    exact decide_eq_false (fun h => hne (by rw [h]; rfl))
  have hcv := Lib.run_convert_string_bytes (P := Tryd.prog) w 9 28 5 t (u := .string) Tryd.underlying9 Tryd.underlying28 Tryd.underlying5
  have hB : ∀ j, j < t.size → (Lib.bytesWorld w 5 t).cell? ⟨w.heap.size, j, none⟩ = some (.int .u8 (t.data.toList.getD j 0).toNat) := fun j hj => Lib.bytesWorld_cell w 5 t j hj
  obtain ⟨W1, hW1⟩ : ∃ W1, W1 = Lib.bytesWorld w 5 t := ⟨_, rfl⟩
  rw [← hW1] at hcv hB ⊢
  clear hW1
  obtain ⟨bs, hL⟩ : ∃ bs, bs = t.data.toList := ⟨_, rfl⟩
  rw [← hL] at hB hd hsz ⊢
  clear hL
  have HD : Hid (Digits bs) := hd
  have HSZ : Hid (bs.length = t.size) := hsz
  have HB : Hid (∀ j, j < t.size → W1.cell? ⟨w.heap.size, j, none⟩ = some (.int .u8 (bs.getD j 0).toNat)) := hB
  clear hd hsz hB
  have hmv : IntKind.u64.wrap (IntKind.u64.wrap 18446744073709551616 - 1) = 18446744073709551615 := by
    rw [IntKind.wrap_u64, IntKind.wrap_u64]
    decide
  go_enter Tryd.func10, Tryd.ntmps10
  go_wp2
  go_loop [12, 13, 101] (fun vu vn vi => ∃ (k : Nat) (a : Int), vu = .bool false ∧ vn = .int .u64 a ∧ vi = .int .i64 k ∧ k ≤ t.size ∧ Hid (a = (dval (bs.take k) : Int)))
    (fun _ _ vi => t.size - (intOf vi).toNat)
  case atStart => exact ⟨0, 0, rfl, rfl, rfl, by omega, rfl⟩
  case round =>
    obtain ⟨k, a, rfl, rfl, rfl, hk, hh⟩ := hrel
    by_cases hkn : k < t.size
    · have hkb : k < bs.length := by rw [HSZ.out]; exact hkn
      have hc := HB.out k hkn
      rw [List.getD_eq_getElem?_getD, List.getElem?_eq_getElem hkb, Option.getD_some] at hc
      have hdig := HD.out.dig _ (List.getElem_mem hkb)
      have hst := dval_take bs k hkb
      have hle := dval_take_le bs (k + 1)
      have hlt := HD.out.lim
      generalize bs[k]'hkb = c at hc hdig hst
      obtain ⟨hd0, hd1⟩ := hdig
      have hc256 : c.toNat < 256 := c.toNat_lt
      have ha := hh.out
      have a0 : 0 ≤ a := by omega
      have icut : a < 1844674407370955162 := by omega
      have iov : a * 10 + ((c.toNat : Int) - 48) < 18446744073709551616 := by omega
      have HN : Hid (a * 10 + ((c.toNat : Int) - 48) = (dval (bs.take (k + 1)) : Int)) := by rw [hst, ha]; show _ = _; omega
      clear ha hst hle hlt hkb hh
      go_wp2
      refine ⟨⟨k + 1, a * 10 + ((c.toNat : Int) - 48), rfl, (by first | rfl | (congr 1; omega)), (by first | rfl | (congr 1; omega)), by omega, HN⟩, by simp [intOf]; omega⟩
    · have hkk : k = t.size := by omega
      subst hkk
      have hT := hh.out
      rw [List.take_of_length_le (by rw [HSZ.out]; omega)] at hT
      subst hT
      go_wp2
      go_ret2
      exact ⟨rfl, rfl⟩

end Go.Proofs.Qxb6601558aDoor
