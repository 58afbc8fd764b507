/-
  THE LIBRARY's ParseUint AT BASE 8, 10, 16 AND 32 BITS, WHERE IT SUCCEEDS: Go's own text walked.
-/
import Derived.Test.Qxb6600148aDoorProg
import Derived.Test.Qxb6600148aDoorDig
import Derived.Lib.Strings
import Derived.Lib.Walk
import Derived.Lib.ConvBytes
import Derived.Lib.Hide
import Derived.Laws.Strings3
import Derived.Laws.Closers25
import Derived.Laws.Closers25b
import Derived.WalkKit
import Derived.BigCall
import Derived.BigGuard
namespace Go.Proofs.Qxb6600148aDoor
open Go.RowKit

/-- A hex letter with the bit 32 set is the small letter. -/
theorem low_letter (n : Nat) (h : (65 ≤ n ∧ n ≤ 70) ∨ (97 ≤ n ∧ n ≤ 102)) : bits .or .u8 (n : Int) 32 = ((if n < 91 then n + 32 else n : Nat) : Int) := by
  have hn : n = 65 ∨ n = 66 ∨ n = 67 ∨ n = 68 ∨ n = 69 ∨ n = 70 ∨ n = 97 ∨ n = 98 ∨ n = 99 ∨ n = 100 ∨ n = 101 ∨ n = 102 := by omega
  rcases hn with rfl | rfl | rfl | rfl | rfl | rfl | rfl | rfl | rfl | rfl | rfl | rfl <;> decide

theorem lower_any (c : Int) (w : World) : Calls Tryd.prog 19 #[.int .u8 c] w fun e w' => e = .returned (.int .u8 (bits .or .u8 c 32)) ∧ w' = w := by
  go_enter Tryd.func19, Tryd.ntmps19
  go_wp2
  go_ret
  exact ⟨rfl, rfl⟩

theorem lower_at (c q : Int) (w : World) (h : bits .or .u8 c 32 = q) : Calls Tryd.prog 19 #[.int .u8 c] w fun e w' => e = .returned (.int .u8 q) ∧ w' = w := by
  subst h; exact lower_any c w

set_option maxHeartbeats 3200000 in
set_option maxRecDepth 100000 in
/-- internal/strconv.ParseUint(t, 10, 32) where every byte is a digit and the number fits. -/
theorem parse10 (t : ByteArray) (hne : t.size ≠ 0) (hmax : t.size ≤ 16777216) (hok : Hid (∀ c ∈ t.data.toList, okc 10 c)) (hv : Hid (val 10 0 t.data.toList ≤ 4294967295)) (w : World) :
    Calls Tryd.prog 17 #[.string t, .int .i64 10, .int .i64 32] w fun e w' => e = .returned (.tuple #[.int .u64 ((val 10 0 t.data.toList : Nat) : Int), .nilIface]) ∧ w' = Lib.bytesWorld w 5 t := by
  have hemp : t.toList.isEmpty = false := by
    rw [← decide_eq_emptyBytes]
    exact decide_eq_false (fun h => hne (by rw [h]; rfl))
  have hcv := Lib.run_convert_string_bytes (P := Tryd.prog) w 9 32 5 t (u := .string) Tryd.underlying9 Tryd.underlying32 Tryd.underlying5
  have hB : ∀ j, j < t.size → (Lib.bytesWorld w 5 t).cell? ⟨w.heap.size, j, none⟩ = some (.int .u8 (t.data.toList.getD j 0).toNat) := fun j hj => Lib.bytesWorld_cell w 5 t j hj
  obtain ⟨W1, hW1⟩ : ∃ W1, W1 = Lib.bytesWorld w 5 t := ⟨_, rfl⟩
  rw [← hW1] at hcv hB ⊢
  clear hW1
  obtain ⟨bs, hL⟩ : ∃ bs, bs = t.data.toList := ⟨_, rfl⟩
  have hLn : bs.length = t.size := by rw [hL, Lib.size_eq]
  rw [← hL] at hB hok hv ⊢
  clear hL
  have hmv : IntKind.u64.wrap (IntKind.u64.wrap 4294967296 - 1) = 4294967295 := by
    rw [IntKind.wrap_u64, IntKind.wrap_u64]
    decide
  go_enter Tryd.func17, Tryd.ntmps17
  go_wp2
  go_loop [12, 13, 101] (fun vu vn vi => ∃ (k acc : Nat) (a : Int), vu = .bool false ∧ vn = .int .u64 a ∧ vi = .int .i64 k ∧ k ≤ t.size ∧ Hid (a = (acc : Int) ∧ acc ≤ 4294967295 ∧ val 10 0 bs = val 10 acc (bs.drop k)))
    (fun _ _ vi => t.size - (intOf vi).toNat)
  case atStart => exact ⟨0, 0, 0, rfl, rfl, rfl, by omega, rfl, by omega, rfl⟩
  case round =>
    obtain ⟨k, acc, a, rfl, rfl, rfl, hk, hh⟩ := hrel
    obtain ⟨ha, hacc, hdec⟩ := hh.out
    clear hh
    have a0 : 0 ≤ a := by omega
    have a1 : a ≤ 4294967295 := by omega
    by_cases hkn : k < t.size
    · have hc := hB k hkn
      have hdrop : bs.drop k = bs[k]'(by omega) :: bs.drop (k + 1) := List.drop_eq_getElem_cons (by omega)
      have hget : bs.getD k 0 = bs[k]'(by omega) := by simp [List.getD, List.getElem?_eq_getElem (show k < bs.length by omega)]
      have hoc := hok.out _ (List.getElem_mem (show k < bs.length by omega))
      rw [hdrop] at hdec
      rw [hget] at hc
      generalize bs[k]'(by omega) = c at hc hdec hoc
      have hc256 : c.toNat < 256 := c.toNat_lt
      clear hB hdrop hget
      have hnx := val_next 10 (by omega) acc c (bs.drop (k + 1))
      have hvv := hv.out
      rw [hdec] at hvv
      have hd : val 10 0 bs = val 10 (acc * 10 + dv c) (bs.drop (k + 1)) := hdec
      obtain ⟨hd0, hd1, hdd, hlt⟩ := okc_dec (by omega) hoc
      have iov : a * 10 + ((c.toNat : Int) - 48) ≤ 4294967295 := by omega
      have ilt : (c.toNat : Int) - 48 < 10 := by omega
      have HN : Hid (a * 10 + ((c.toNat : Int) - 48) = ((acc * 10 + dv c : Nat) : Int) ∧ acc * 10 + dv c ≤ 4294967295 ∧ val 10 0 bs = val 10 (acc * 10 + dv c) (bs.drop (k + 1))) := Lib.hid ⟨by omega, by omega, hd⟩
      clear hdec hvv hnx hd hdd hoc ha hacc hlt
      go_wp2
      refine ⟨⟨k + 1, acc * 10 + dv c, a * 10 + ((c.toNat : Int) - 48), rfl, (by first | rfl | (congr 1; omega)), (by first | rfl | (congr 1; omega)), by omega, HN⟩, by simp [intOf]; omega⟩
    · have hkk : k = t.size := by omega
      subst hkk
      have hF : val 10 acc (bs.drop t.size) = acc := by rw [List.drop_eq_nil_of_le (by omega)]; rfl
      rw [hF] at hdec
      subst ha
      have HF : Hid (val 10 0 bs = acc) := hdec
      clear hacc hF a0 a1 hdec
      go_wp2
      go_ret2
      exact ⟨by rw [HF.out]; rfl, rfl⟩

set_option maxHeartbeats 3200000 in
set_option maxRecDepth 100000 in
/-- internal/strconv.ParseUint(t, 8, 32) where every byte is a digit and the number fits. -/
theorem parse8 (t : ByteArray) (hne : t.size ≠ 0) (hmax : t.size ≤ 16777216) (hok : Hid (∀ c ∈ t.data.toList, okc 8 c)) (hv : Hid (val 8 0 t.data.toList ≤ 4294967295)) (w : World) :
    Calls Tryd.prog 17 #[.string t, .int .i64 8, .int .i64 32] w fun e w' => e = .returned (.tuple #[.int .u64 ((val 8 0 t.data.toList : Nat) : Int), .nilIface]) ∧ w' = Lib.bytesWorld w 5 t := by
  have hemp : t.toList.isEmpty = false := by
    rw [← decide_eq_emptyBytes]
    exact decide_eq_false (fun h => hne (by rw [h]; rfl))
  have hcv := Lib.run_convert_string_bytes (P := Tryd.prog) w 9 32 5 t (u := .string) Tryd.underlying9 Tryd.underlying32 Tryd.underlying5
  have hB : ∀ j, j < t.size → (Lib.bytesWorld w 5 t).cell? ⟨w.heap.size, j, none⟩ = some (.int .u8 (t.data.toList.getD j 0).toNat) := fun j hj => Lib.bytesWorld_cell w 5 t j hj
  obtain ⟨W1, hW1⟩ : ∃ W1, W1 = Lib.bytesWorld w 5 t := ⟨_, rfl⟩
  rw [← hW1] at hcv hB ⊢
  clear hW1
  obtain ⟨bs, hL⟩ : ∃ bs, bs = t.data.toList := ⟨_, rfl⟩
  have hLn : bs.length = t.size := by rw [hL, Lib.size_eq]
  rw [← hL] at hB hok hv ⊢
  clear hL
  have hmv : IntKind.u64.wrap (IntKind.u64.wrap 4294967296 - 1) = 4294967295 := by
    rw [IntKind.wrap_u64, IntKind.wrap_u64]
    decide
  go_enter Tryd.func17, Tryd.ntmps17
  go_wp2
  go_loop [12, 13, 101] (fun vu vn vi => ∃ (k acc : Nat) (a : Int), vu = .bool false ∧ vn = .int .u64 a ∧ vi = .int .i64 k ∧ k ≤ t.size ∧ Hid (a = (acc : Int) ∧ acc ≤ 4294967295 ∧ val 8 0 bs = val 8 acc (bs.drop k)))
    (fun _ _ vi => t.size - (intOf vi).toNat)
  case atStart => exact ⟨0, 0, 0, rfl, rfl, rfl, by omega, rfl, by omega, rfl⟩
  case round =>
    obtain ⟨k, acc, a, rfl, rfl, rfl, hk, hh⟩ := hrel
    obtain ⟨ha, hacc, hdec⟩ := hh.out
    clear hh
    have a0 : 0 ≤ a := by omega
    have a1 : a ≤ 4294967295 := by omega
    by_cases hkn : k < t.size
    · have hc := hB k hkn
      have hdrop : bs.drop k = bs[k]'(by omega) :: bs.drop (k + 1) := List.drop_eq_getElem_cons (by omega)
      have hget : bs.getD k 0 = bs[k]'(by omega) := by simp [List.getD, List.getElem?_eq_getElem (show k < bs.length by omega)]
      have hoc := hok.out _ (List.getElem_mem (show k < bs.length by omega))
      rw [hdrop] at hdec
      rw [hget] at hc
      generalize bs[k]'(by omega) = c at hc hdec hoc
      have hc256 : c.toNat < 256 := c.toNat_lt
      clear hB hdrop hget
      have hnx := val_next 8 (by omega) acc c (bs.drop (k + 1))
      have hvv := hv.out
      rw [hdec] at hvv
      have hd : val 8 0 bs = val 8 (acc * 8 + dv c) (bs.drop (k + 1)) := hdec
      obtain ⟨hd0, hd1, hdd, hlt⟩ := okc_dec (by omega) hoc
      have iov : a * 8 + ((c.toNat : Int) - 48) ≤ 4294967295 := by omega
      have ilt : (c.toNat : Int) - 48 < 8 := by omega
      have HN : Hid (a * 8 + ((c.toNat : Int) - 48) = ((acc * 8 + dv c : Nat) : Int) ∧ acc * 8 + dv c ≤ 4294967295 ∧ val 8 0 bs = val 8 (acc * 8 + dv c) (bs.drop (k + 1))) := Lib.hid ⟨by omega, by omega, hd⟩
      clear hdec hvv hnx hd hdd hoc ha hacc hlt
      go_wp2
      refine ⟨⟨k + 1, acc * 8 + dv c, a * 8 + ((c.toNat : Int) - 48), rfl, (by first | rfl | (congr 1; omega)), (by first | rfl | (congr 1; omega)), by omega, HN⟩, by simp [intOf]; omega⟩
    · have hkk : k = t.size := by omega
      subst hkk
      have hF : val 8 acc (bs.drop t.size) = acc := by rw [List.drop_eq_nil_of_le (by omega)]; rfl
      rw [hF] at hdec
      subst ha
      have HF : Hid (val 8 0 bs = acc) := hdec
      clear hacc hF a0 a1 hdec
      go_wp2
      go_ret2
      exact ⟨by rw [HF.out]; rfl, rfl⟩

set_option maxHeartbeats 3200000 in
set_option maxRecDepth 100000 in
/-- internal/strconv.ParseUint(t, 16, 32) where every byte is a digit and the number fits. -/
theorem parse16 (t : ByteArray) (hne : t.size ≠ 0) (hmax : t.size ≤ 16777216) (hok : Hid (∀ c ∈ t.data.toList, okc 16 c)) (hv : Hid (val 16 0 t.data.toList ≤ 4294967295)) (w : World) :
    Calls Tryd.prog 17 #[.string t, .int .i64 16, .int .i64 32] w fun e w' => e = .returned (.tuple #[.int .u64 ((val 16 0 t.data.toList : Nat) : Int), .nilIface]) ∧ w' = Lib.bytesWorld w 5 t := by
  have hemp : t.toList.isEmpty = false := by
    rw [← decide_eq_emptyBytes]
    exact decide_eq_false (fun h => hne (by rw [h]; rfl))
  have hcv := Lib.run_convert_string_bytes (P := Tryd.prog) w 9 32 5 t (u := .string) Tryd.underlying9 Tryd.underlying32 Tryd.underlying5
  have hB : ∀ j, j < t.size → (Lib.bytesWorld w 5 t).cell? ⟨w.heap.size, j, none⟩ = some (.int .u8 (t.data.toList.getD j 0).toNat) := fun j hj => Lib.bytesWorld_cell w 5 t j hj
  obtain ⟨W1, hW1⟩ : ∃ W1, W1 = Lib.bytesWorld w 5 t := ⟨_, rfl⟩
  rw [← hW1] at hcv hB ⊢
  clear hW1
  obtain ⟨bs, hL⟩ : ∃ bs, bs = t.data.toList := ⟨_, rfl⟩
  have hLn : bs.length = t.size := by rw [hL, Lib.size_eq]
  rw [← hL] at hB hok hv ⊢
  clear hL
  have hmv : IntKind.u64.wrap (IntKind.u64.wrap 4294967296 - 1) = 4294967295 := by
    rw [IntKind.wrap_u64, IntKind.wrap_u64]
    decide
  go_enter Tryd.func17, Tryd.ntmps17
  go_wp2
  go_loop [12, 13, 101] (fun vu vn vi => ∃ (k acc : Nat) (a : Int), vu = .bool false ∧ vn = .int .u64 a ∧ vi = .int .i64 k ∧ k ≤ t.size ∧ Hid (a = (acc : Int) ∧ acc ≤ 4294967295 ∧ val 16 0 bs = val 16 acc (bs.drop k)))
    (fun _ _ vi => t.size - (intOf vi).toNat)
  case atStart => exact ⟨0, 0, 0, rfl, rfl, rfl, by omega, rfl, by omega, rfl⟩
  case round =>
    obtain ⟨k, acc, a, rfl, rfl, rfl, hk, hh⟩ := hrel
    obtain ⟨ha, hacc, hdec⟩ := hh.out
    clear hh
    have a0 : 0 ≤ a := by omega
    have a1 : a ≤ 4294967295 := by omega
    by_cases hkn : k < t.size
    · have hc := hB k hkn
      have hdrop : bs.drop k = bs[k]'(by omega) :: bs.drop (k + 1) := List.drop_eq_getElem_cons (by omega)
      have hget : bs.getD k 0 = bs[k]'(by omega) := by simp [List.getD, List.getElem?_eq_getElem (show k < bs.length by omega)]
      have hoc := hok.out _ (List.getElem_mem (show k < bs.length by omega))
      rw [hdrop] at hdec
      rw [hget] at hc
      generalize bs[k]'(by omega) = c at hc hdec hoc
      have hc256 : c.toNat < 256 := c.toNat_lt
      clear hB hdrop hget
      have hnx := val_next 16 (by omega) acc c (bs.drop (k + 1))
      have hvv := hv.out
      rw [hdec] at hvv
      have hd : val 16 0 bs = val 16 (acc * 16 + dv c) (bs.drop (k + 1)) := hdec
      rcases okc_hex hoc with ⟨hd0, hd1, hdd⟩ | hlet
      · have iov : a * 16 + ((c.toNat : Int) - 48) ≤ 4294967295 := by omega
        have ilt : (c.toNat : Int) - 48 < 16 := by omega
        have HN : Hid (a * 16 + ((c.toNat : Int) - 48) = ((acc * 16 + dv c : Nat) : Int) ∧ acc * 16 + dv c ≤ 4294967295 ∧ val 16 0 bs = val 16 (acc * 16 + dv c) (bs.drop (k + 1))) := Lib.hid ⟨by omega, by omega, hd⟩
        clear hdec hvv hnx hd hdd hoc ha hacc
        go_wp2
        refine ⟨⟨k + 1, acc * 16 + dv c, a * 16 + ((c.toNat : Int) - 48), rfl, (by first | rfl | (congr 1; omega)), (by first | rfl | (congr 1; omega)), by omega, HN⟩, by simp [intOf]; omega⟩
      · obtain ⟨q, hq⟩ : ∃ q : Int, q = (dv c : Int) := ⟨_, rfl⟩
        have hlow : bits .or .u8 (c.toNat : Int) 32 = q + 87 := by
          rw [low_letter c.toNat (by omega)]
          split <;> omega
        have q0 : 10 ≤ q := by omega
        have q1 : q ≤ 15 := by omega
        have c1 : 65 ≤ (c.toNat : Int) := by omega
        have c2 : (c.toNat : Int) ≤ 102 := by omega
        have c3 : ((c.toNat : Int) == 95) = false := by rw [beq_eq_false_iff_ne]; omega
        have iov : a * 16 + q ≤ 4294967295 := by omega
        have HN : Hid (a * 16 + q = ((acc * 16 + dv c : Nat) : Int) ∧ acc * 16 + dv c ≤ 4294967295 ∧ val 16 0 bs = val 16 (acc * 16 + dv c) (bs.drop (k + 1))) := Lib.hid ⟨by omega, by omega, hd⟩
        have HL : Hid (bits .or .u8 (c.toNat : Int) 32 = q + 87) := hlow
        clear hdec hvv hnx hd hoc ha hacc hlet hq hlow
        go_wp2_with (go_at_call 19; refine (lower_at _ _ _ HL.out).mono ?_; rintro e w' ⟨rfl, rfl⟩)
        refine ⟨⟨k + 1, acc * 16 + dv c, a * 16 + q, rfl, (by first | rfl | (congr 1; omega)), (by first | rfl | (congr 1; omega)), by omega, HN⟩, by simp [intOf]; omega⟩
    · have hkk : k = t.size := by omega
      subst hkk
      have hF : val 16 acc (bs.drop t.size) = acc := by rw [List.drop_eq_nil_of_le (by omega)]; rfl
      rw [hF] at hdec
      subst ha
      have HF : Hid (val 16 0 bs = acc) := hdec
      clear hacc hF a0 a1 hdec
      go_wp2
      go_ret2
      exact ⟨by rw [HF.out]; rfl, rfl⟩

end Go.Proofs.Qxb6600148aDoor
