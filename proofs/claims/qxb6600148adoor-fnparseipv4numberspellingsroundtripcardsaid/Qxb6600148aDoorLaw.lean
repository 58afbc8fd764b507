/-
  THE LAW FnParseIPv4NumberSpellingsRoundTrip, walked.
-/
import Derived.Test.Qxb6600148aDoorNum
import Derived.Test.Qxb6600148aDoorSpell
namespace Go.Proofs.Qxb6600148aDoor
open Go.RowKit

theorem hex_text (x : UInt8) (zs ds : List UInt8) : ((ByteArray.mk #[48, x] ++ ByteArray.mk zs.toArray) ++ ByteArray.mk ds.toArray) = ByteArray.mk (48 :: x :: (zs ++ ds)).toArray := by
  apply ByteArray.ext
  simp [ByteArray.data_append]
theorem oct_text (zs ds : List UInt8) : ((ByteArray.mk #[48] ++ ByteArray.mk zs.toArray) ++ ByteArray.mk ds.toArray) = ByteArray.mk (48 :: (zs ++ ds)).toArray := by
  apply ByteArray.ext
  simp [ByteArray.data_append]

set_option maxHeartbeats 1600000 in
theorem law_any (v z : Nat) (up : Bool) (w : World) (hv : v ≤ 4294967295) (hz : z ≤ 255) :
    Calls Tryd.prog 3 #[.int .u32 (v : Int), .int .u8 (z : Int), .bool up] w fun e w' => e = .returned (.bool true) ∧ Below w.heap.size w w' := by
  obtain ⟨zs, hzs⟩ : ∃ zs : List UInt8, zs = List.replicate z 48 := ⟨_, rfl⟩
  have ZS := Lib.hid hzs
  have hzl : zs.length ≤ 255 := by rw [hzs]; simp; exact hz
  have K5 := fun w => Lib.hid (zeros_any z w (by omega))
  rw [← hzs] at K5
  clear hzs
  cases up
  · go_enter Tryd.func3, Tryd.ntmps3
    go_wp2_with fail
    refine (K5 _).out.mono ?_
    rintro e w1 ⟨rfl, hb1⟩
    go_wp2_with fail
    refine (spell_any v 10 false _ (by omega) (by omega) hv).mono ?_
    rintro e w2 ⟨d10, rfl, hb2, hs10⟩
    have l10 := hs10.len
    go_wp2_with fail
    refine (spell_any v 16 false _ (by omega) (by omega) hv).mono ?_
    rintro e w3 ⟨d16, rfl, hb3, hs16⟩
    have l16 := hs16.len
    go_wp2_with fail
    refine (spell_any v 8 false _ (by omega) (by omega) hv).mono ?_
    rintro e w4 ⟨d8, rfl, hb4, hs8⟩
    have l8 := hs8.len
    have R10 := Lib.hid (reads_dec v d10 w4 hs10 hv)
    have R16 : ∀ W, Hid (Calls Tryd.prog 7 #[.string ((ByteArray.mk #[48, 120] ++ ByteArray.mk zs.toArray) ++ ByteArray.mk d16.toArray), .int .u64 (v : Int)] W fun e w' => e = .returned (.bool true) ∧ Below W.heap.size W w') := fun W => by
      rw [hex_text, ZS.out]; exact reads_hex v z 120 (by decide) d16 W hs16 hv (by omega)
    have R8 : ∀ W, Hid (Calls Tryd.prog 7 #[.string ((ByteArray.mk #[48] ++ ByteArray.mk zs.toArray) ++ ByteArray.mk d8.toArray), .int .u64 (v : Int)] W fun e w' => e = .returned (.bool true) ∧ Below W.heap.size W w') := fun W => by
      rw [oct_text, ZS.out]; exact reads_oct v z d8 W hs8 hv (by omega)
    have B4 := Lib.hid (((hb1.trans (hb2.mono hb1.size)).trans (hb3.mono (Nat.le_trans hb1.size hb2.size))).trans (hb4.mono (Nat.le_trans (Nat.le_trans hb1.size hb2.size) hb3.size)))
    clear hb1 hb2 hb3 hb4 hs10 hs16 hs8 K5
    go_wp2_with fail
    refine R10.out.mono ?_
    rintro e w5 ⟨rfl, hb5⟩
    go_wp2_with fail
    refine (R16 _).out.mono ?_
    rintro e w6 ⟨rfl, hb6⟩
    go_wp2_with fail
    refine (R8 _).out.mono ?_
    rintro e w7 ⟨rfl, hb7⟩
    go_wp2
    go_ret
    exact ⟨rfl, ((B4.out.trans (hb5.mono B4.out.size)).trans (hb6.mono (Nat.le_trans B4.out.size hb5.size))).trans (hb7.mono (Nat.le_trans (Nat.le_trans B4.out.size hb5.size) hb6.size))⟩
  · go_enter Tryd.func3, Tryd.ntmps3
    go_wp2_with fail
    refine (K5 _).out.mono ?_
    rintro e w1 ⟨rfl, hb1⟩
    go_wp2_with fail
    refine (spell_any v 10 false _ (by omega) (by omega) hv).mono ?_
    rintro e w2 ⟨d10, rfl, hb2, hs10⟩
    have l10 := hs10.len
    go_wp2_with fail
    refine (spell_any v 16 true _ (by omega) (by omega) hv).mono ?_
    rintro e w3 ⟨d16, rfl, hb3, hs16⟩
    have l16 := hs16.len
    go_wp2_with fail
    refine (spell_any v 8 false _ (by omega) (by omega) hv).mono ?_
    rintro e w4 ⟨d8, rfl, hb4, hs8⟩
    have l8 := hs8.len
    have R10 := Lib.hid (reads_dec v d10 w4 hs10 hv)
    have R16 : ∀ W, Hid (Calls Tryd.prog 7 #[.string ((ByteArray.mk #[48, 88] ++ ByteArray.mk zs.toArray) ++ ByteArray.mk d16.toArray), .int .u64 (v : Int)] W fun e w' => e = .returned (.bool true) ∧ Below W.heap.size W w') := fun W => by
      rw [hex_text, ZS.out]; exact reads_hex v z 88 (by decide) d16 W hs16 hv (by omega)
    have R8 : ∀ W, Hid (Calls Tryd.prog 7 #[.string ((ByteArray.mk #[48] ++ ByteArray.mk zs.toArray) ++ ByteArray.mk d8.toArray), .int .u64 (v : Int)] W fun e w' => e = .returned (.bool true) ∧ Below W.heap.size W w') := fun W => by
      rw [oct_text, ZS.out]; exact reads_oct v z d8 W hs8 hv (by omega)
    have B4 := Lib.hid (((hb1.trans (hb2.mono hb1.size)).trans (hb3.mono (Nat.le_trans hb1.size hb2.size))).trans (hb4.mono (Nat.le_trans (Nat.le_trans hb1.size hb2.size) hb3.size)))
    clear hb1 hb2 hb3 hb4 hs10 hs16 hs8 K5
    go_wp2_with fail
    refine R10.out.mono ?_
    rintro e w5 ⟨rfl, hb5⟩
    go_wp2_with fail
    refine (R16 _).out.mono ?_
    rintro e w6 ⟨rfl, hb6⟩
    go_wp2_with fail
    refine (R8 _).out.mono ?_
    rintro e w7 ⟨rfl, hb7⟩
    go_wp2
    go_ret
    exact ⟨rfl, ((B4.out.trans (hb5.mono B4.out.size)).trans (hb6.mono (Nat.le_trans B4.out.size hb5.size))).trans (hb7.mono (Nat.le_trans (Nat.le_trans B4.out.size hb5.size) hb6.size))⟩
end Go.Proofs.Qxb6600148aDoor
