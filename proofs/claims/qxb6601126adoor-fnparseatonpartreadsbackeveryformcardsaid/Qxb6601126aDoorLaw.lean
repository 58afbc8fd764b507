/-
  THE LAW's WALK, a theorem a form.
-/
import Derived.Test.Qxb6601126aDoorAton
import Derived.Test.Qxb6601126aDoorSpell
import Derived.Laws.IdiomStrings
namespace Go.Proofs.Qxb6601126aDoor
open Go.RowKit

/-- Where zeros is out of its bounds. -/
theorem law_out (v form z : Int) (ux up : Bool) (w : World) (hz : z < 0 ∨ 65536 < z) :
    Calls Tryd.prog 3 #[.int .u32 v, .int .u8 form, .int .i64 z, .bool ux, .bool up] w fun e w' => e = .returned (.bool true) ∧ Below w.heap.size w w' := by
  rcases hz with hz | hz
  all_goals
    go_enter Tryd.func3, Tryd.ntmps3
    go_wp2
    go_ret
    exact ⟨rfl, Below.refl _ _⟩

/-- 'string(b)' of a row that is owned. -/
theorem conv_own {w : World} {base g cap n : Nat} {l : List UInt8} (h : w.ownsRow base 5 1 (.slice (some ⟨g, 0, none⟩) n cap) n (Lib.byteCells l)) (hn : l.length = n) :
    (convert 23 9 (.slice (some ⟨g, 0, none⟩) n cap)).run Tryd.prog w = .ok (.string ⟨l.toArray⟩) w := by
  subst hn
  exact run_convert_bytes_back (P := Tryd.prog) w 23 9 5 ⟨g, 0, none⟩ cap l Tryd.underlying23 Tryd.underlying5 Tryd.underlying9 (fun j hj => h.cells (g := g) rfl j _ (by simp [Lib.byteCells, hj]))

theorem below_of_grown {w w1 : World} {row : Option Nat} (h : w.grownBy w1 row) (hr : ∀ k, row = some k → w.heap.size ≤ k) : Below w.heap.size w w1 :=
  (Below.refl _ _).grown h (Nat.le_refl _) hr

set_option maxHeartbeats 1600000 in
theorem law_dec (v z : Nat) (ux up : Bool) (w : World) (hv : v ≤ 4294967295) (hz : z ≤ 65536) :
    Calls Tryd.prog 3 #[.int .u32 (v : Int), .int .u8 0, .int .i64 (z : Int), .bool ux, .bool up] w fun e w' => e = .returned (.bool true) ∧ Below w.heap.size w w' := by
  obtain ⟨i0, hi, hz0, hz1, hz2⟩ := info_parts info5
  go_enter Tryd.func3, Tryd.ntmps3
  go_wp2_with (at_make; refine wpList_make_own _ rfl _ _ 23 rfl w.heap.size 5 i0 (.int .u8 0) 1 Tryd.underlying23 hi hz0 hz1 _ _ _ (z + 40) rfl rfl (by omega) (by rw [hz2]; omega) (by unfold maxLen; omega) (Nat.le_refl _) ?_)
  intro w1 hown hgrow
  have hb1 := below_of_grown hgrow (fun k h => by cases h)
  go_wp2_with fail
  refine (digits_any w.heap.size w.heap.size 0 (z + 40) [] v 10 up w1 (by omega) (by omega) hv hown (by omega)).mono ?_
  rintro e w2 ⟨ds, rfl, hown2, hg2, hs⟩
  rw [Nat.zero_add, List.nil_append] at hown2
  have hcv := conv_own hown2 rfl
  have hb2 : Below w.heap.size w w2 := hb1.trans ((Below.refl _ _).grown hg2 hb1.size (fun k h => by cases h; exact Nat.le_refl _))
  go_wp2_with (go_at_call 6; refine (aton_dec v ds _ hs hv).mono ?_; rintro e w3 ⟨rfl, hb3⟩)
  go_ret
  exact ⟨rfl, hb2.trans (hb3.mono hb2.size)⟩

/-- The row that the law itself has made holds the bytes l. -/
structure Row (w wr : World) (cap n : Nat) (l : List UInt8) : Prop where
  own : wr.ownsRow w.heap.size 5 1 (.slice (some ⟨w.heap.size, 0, none⟩) n cap) n (Lib.byteCells l)
  below : Below w.heap.size w wr
  len : l.length = n

theorem Row.next {w wr w1 : World} {cap n : Nat} {l : List UInt8} {o : Obj} (h : Row w wr cap n l) (c : UInt8)
    (own' : w1.ownsRow w.heap.size 5 1 (.slice (some ⟨w.heap.size, 0, none⟩) (n + 1) cap) (n + 1) (Lib.byteCells l ++ [.int .u8 (c.toNat : Int)])) (hg : (wr.alloc o).grownBy w1 (some w.heap.size)) :
    Row w w1 cap (n + 1) (l ++ [c]) := by
  refine ⟨by rw [Lib.byteCells_append]; exact own', (h.below.alloc h.below.size _).grown hg (by have := h.below.size; simp; omega) (fun k e => by cases e; exact Nat.le_refl _), by rw [List.length_append, h.len]; rfl⟩

theorem one48 : ∀ u ∈ [Value.int .u8 48], u.oneCell' = true := by intro u hu; simp at hu; subst hu; rfl

theorem oct_next {k : Nat} {l : List UInt8} (h : l = 48 :: List.replicate k 48) : l ++ [48] = 48 :: List.replicate (k + 1) 48 := by
  rw [h, List.replicate_succ']; rfl

set_option maxHeartbeats 1600000 in
theorem law_oct (v z : Nat) (ux up : Bool) (w : World) (hv : v ≤ 4294967295) (hz : z ≤ 65536) :
    Calls Tryd.prog 3 #[.int .u32 (v : Int), .int .u8 1, .int .i64 (z : Int), .bool ux, .bool up] w fun e w' => e = .returned (.bool true) ∧ Below w.heap.size w w' := by
  obtain ⟨i0, hi, hz0, hz1, hz2⟩ := info_parts info5
  go_enter Tryd.func3, Tryd.ntmps3
  go_wp2_with (at_make; refine wpList_make_own _ rfl _ _ 23 rfl w.heap.size 5 i0 (.int .u8 0) 1 Tryd.underlying23 hi hz0 hz1 _ _ _ (z + 40) rfl rfl (by omega) (by rw [hz2]; omega) (by unfold maxLen; omega) (Nat.le_refl _) ?_)
  intro w1 hown hgrow
  have R1 : Row w w1 (z + 40) 0 [] := ⟨hown, below_of_grown hgrow (fun k h => by cases h), rfl⟩
  clear hgrow
  go_wp2_with (at_builtin; refine wpList_append_fits _ rfl _ _ 23 rfl w.heap.size 5 i0 1 Tryd.underlying23 hi hz1 w.heap.size 0 (z + 40) _ rfl (hown.alloc _) ⟨w1.heap.size, 0, none⟩ 1 1 [.int .u8 48] rfl rfl (cell_one_new _ _ _) one48 (by omega) ?_)
  intro w2 hown2 hgrow2
  have R2 := R1.next 48 hown2 hgrow2
  clear hown hown2 hgrow2 R1
  go_wp2
  go_loopw [11, 12] (fun vb vi wr => ∃ (k n : Nat) (l : List UInt8), k ≤ z ∧ vi = .int .i64 (k : Int) ∧ vb = .slice (some ⟨w.heap.size, 0, none⟩) n (z + 40) ∧ Row w wr (z + 40) n l ∧ Hid (l = 48 :: List.replicate k 48)) (fun _ vi _ => z - (intOf vi).toNat)
  case atStart => exact ⟨0, 1, [48], Nat.zero_le _, rfl, rfl, R2, rfl⟩
  case round =>
    obtain ⟨k, n, l, hk, rfl, rfl, R, HL⟩ := hrel
    have hn : n ≤ z + 1 := by rw [← R.len, HL.out]; simp; omega
    by_cases hlt : k < z
    · have hown := R.own
      have HR : Hid (Row w wr (z + 40) n l) := R
      have hn1 : n ≤ z := by rw [← R.len, HL.out]; simp; omega
      clear R R2
      go_wp2_with (at_builtin; refine wpList_append_fits _ rfl _ _ 23 rfl w.heap.size 5 i0 1 Tryd.underlying23 hi hz1 w.heap.size n (z + 40) _ rfl (hown.alloc _) ⟨wr.heap.size, 0, none⟩ 1 1 [.int .u8 48] rfl rfl (cell_one_new _ _ _) one48 (by omega) ?_)
      intro w3 hown3 hgrow3
      have R3 := HR.out.next 48 hown3 hgrow3
      clear hown hown3 hgrow3
      go_wp2
      go_roundw
      case rel => exact ⟨k + 1, n + 1, l ++ [48], by omega, by go_num, rfl, R3, oct_next HL.out⟩
      case measure => simp [intOf]; omega
    · go_wp2_with fail
      refine (digits_any w.heap.size w.heap.size n (z + 40) _ v 8 up _ (by omega) (by omega) hv R.own (by omega)).mono ?_
      rintro e w3 ⟨ds, rfl, hown3, hg3, hs⟩
      rw [← Lib.byteCells_append] at hown3
      have hkz : k = z := by omega
      have e : l ++ ds = 48 :: (List.replicate z 48 ++ ds) := by rw [HL.out, hkz]; rfl
      have hcv := conv_own hown3 (by rw [List.length_append, R.len])
      rw [e] at hcv
      have hb3 : Below w.heap.size w w3 := R.below.trans ((Below.refl _ _).grown hg3 R.below.size (fun k h => by cases h; exact Nat.le_refl _))
      clear hown3 hg3 HL e hkz R R2
      go_wp2_with (go_at_call 6; refine (aton_oct v z ds _ hs hv hz).mono ?_; rintro e w4 ⟨rfl, hb4⟩)
      go_ret
      exact ⟨rfl, hb3.trans (hb4.mono hb3.size)⟩

theorem hex_next {k : Nat} {x : UInt8} {l : List UInt8} (h : l = 48 :: x :: List.replicate k 48) : l ++ [48] = 48 :: x :: List.replicate (k + 1) 48 := by
  rw [h, List.replicate_succ']; rfl

theorem one88 : ∀ u ∈ [Value.int .u8 88], u.oneCell' = true := by intro u hu; simp at hu; subst hu; rfl

set_option maxHeartbeats 1600000 in
theorem law_hexX (v z : Nat) (form : Int) (up : Bool) (w : World) (hv : v ≤ 4294967295) (hz : z ≤ 65536) (hf0 : (form == 0) = false) (hf1 : (form == 1) = false) :
    Calls Tryd.prog 3 #[.int .u32 (v : Int), .int .u8 form, .int .i64 (z : Int), .bool true, .bool up] w fun e w' => e = .returned (.bool true) ∧ Below w.heap.size w w' := by
  obtain ⟨i0, hi, hz0, hz1, hz2⟩ := info_parts info5
  go_enter Tryd.func3, Tryd.ntmps3
  go_wp2_with (at_make; refine wpList_make_own _ rfl _ _ 23 rfl w.heap.size 5 i0 (.int .u8 0) 1 Tryd.underlying23 hi hz0 hz1 _ _ _ (z + 40) rfl rfl (by omega) (by rw [hz2]; omega) (by unfold maxLen; omega) (Nat.le_refl _) ?_)
  intro w1 hown hgrow
  have R1 : Row w w1 (z + 40) 0 [] := ⟨hown, below_of_grown hgrow (fun k h => by cases h), rfl⟩
  clear hgrow
  go_wp2_with (at_builtin; refine wpList_append_fits _ rfl _ _ 23 rfl w.heap.size 5 i0 1 Tryd.underlying23 hi hz1 w.heap.size 0 (z + 40) _ rfl (hown.alloc _) ⟨w1.heap.size, 0, none⟩ 1 1 [.int .u8 48] rfl rfl (cell_one_new _ _ _) one48 (by omega) ?_)
  intro w2 hown2 hgrow2
  have R2 := R1.next 48 hown2 hgrow2
  clear hown hown2 hgrow2 R1
  have hown := R2.own
  go_wp2_with (at_builtin; refine wpList_append_fits _ rfl _ _ 23 rfl w.heap.size 5 i0 1 Tryd.underlying23 hi hz1 w.heap.size 1 (z + 40) _ rfl (hown.alloc _) ⟨w2.heap.size, 0, none⟩ 1 1 [.int .u8 88] rfl rfl (cell_one_new _ _ _) one88 (by omega) ?_)
  intro w5 hown5 hgrow5
  have R5 := R2.next 88 hown5 hgrow5
  clear hown hown5 hgrow5 R2
  go_wp2
  go_loopw [11, 13] (fun vb vi wr => ∃ (k n : Nat) (l : List UInt8), k ≤ z ∧ vi = .int .i64 (k : Int) ∧ vb = .slice (some ⟨w.heap.size, 0, none⟩) n (z + 40) ∧ Row w wr (z + 40) n l ∧ Hid (l = 48 :: 88 :: List.replicate k 48)) (fun _ vi _ => z - (intOf vi).toNat)
  case atStart => exact ⟨0, 2, [48, 88], Nat.zero_le _, rfl, rfl, R5, rfl⟩
  case round =>
    obtain ⟨k, n, l, hk, rfl, rfl, R, HL⟩ := hrel
    have hn : n ≤ z + 2 := by rw [← R.len, HL.out]; simp; omega
    by_cases hlt : k < z
    · have hown := R.own
      have HR : Hid (Row w wr (z + 40) n l) := R
      have hn1 : n ≤ z + 1 := by rw [← R.len, HL.out]; simp; omega
      clear R R5
      go_wp2_with (at_builtin; refine wpList_append_fits _ rfl _ _ 23 rfl w.heap.size 5 i0 1 Tryd.underlying23 hi hz1 w.heap.size n (z + 40) _ rfl (hown.alloc _) ⟨wr.heap.size, 0, none⟩ 1 1 [.int .u8 48] rfl rfl (cell_one_new _ _ _) one48 (by omega) ?_)
      intro w3 hown3 hgrow3
      have R3 := HR.out.next 48 hown3 hgrow3
      clear hown hown3 hgrow3
      go_wp2
      go_roundw
      case rel => exact ⟨k + 1, n + 1, l ++ [48], by omega, by go_num, rfl, R3, hex_next HL.out⟩
      case measure => simp [intOf]; omega
    · go_wp2_with fail
      refine (digits_any w.heap.size w.heap.size n (z + 40) _ v 16 up _ (by omega) (by omega) hv R.own (by omega)).mono ?_
      rintro e w3 ⟨ds, rfl, hown3, hg3, hs⟩
      rw [← Lib.byteCells_append] at hown3
      have hkz : k = z := by omega
      have e : l ++ ds = 48 :: 88 :: (List.replicate z 48 ++ ds) := by rw [HL.out, hkz]; rfl
      have hcv := conv_own hown3 (by rw [List.length_append, R.len])
      rw [e] at hcv
      have hb3 : Below w.heap.size w w3 := R.below.trans ((Below.refl _ _).grown hg3 R.below.size (fun k h => by cases h; exact Nat.le_refl _))
      clear hown3 hg3 HL e hkz R R5
      go_wp2_with (go_at_call 6; refine (aton_hex v z 88 (by decide) ds _ hs hv hz).mono ?_; rintro e w4 ⟨rfl, hb4⟩)
      go_ret
      exact ⟨rfl, hb3.trans (hb4.mono hb3.size)⟩

theorem one120 : ∀ u ∈ [Value.int .u8 120], u.oneCell' = true := by intro u hu; simp at hu; subst hu; rfl

set_option maxHeartbeats 1600000 in
theorem law_hexx (v z : Nat) (form : Int) (up : Bool) (w : World) (hv : v ≤ 4294967295) (hz : z ≤ 65536) (hf0 : (form == 0) = false) (hf1 : (form == 1) = false) :
    Calls Tryd.prog 3 #[.int .u32 (v : Int), .int .u8 form, .int .i64 (z : Int), .bool false, .bool up] w fun e w' => e = .returned (.bool true) ∧ Below w.heap.size w w' := by
  obtain ⟨i0, hi, hz0, hz1, hz2⟩ := info_parts info5
  go_enter Tryd.func3, Tryd.ntmps3
  go_wp2_with (at_make; refine wpList_make_own _ rfl _ _ 23 rfl w.heap.size 5 i0 (.int .u8 0) 1 Tryd.underlying23 hi hz0 hz1 _ _ _ (z + 40) rfl rfl (by omega) (by rw [hz2]; omega) (by unfold maxLen; omega) (Nat.le_refl _) ?_)
  intro w1 hown hgrow
  have R1 : Row w w1 (z + 40) 0 [] := ⟨hown, below_of_grown hgrow (fun k h => by cases h), rfl⟩
  clear hgrow
  go_wp2_with (at_builtin; refine wpList_append_fits _ rfl _ _ 23 rfl w.heap.size 5 i0 1 Tryd.underlying23 hi hz1 w.heap.size 0 (z + 40) _ rfl (hown.alloc _) ⟨w1.heap.size, 0, none⟩ 1 1 [.int .u8 48] rfl rfl (cell_one_new _ _ _) one48 (by omega) ?_)
  intro w2 hown2 hgrow2
  have R2 := R1.next 48 hown2 hgrow2
  clear hown hown2 hgrow2 R1
  have hown := R2.own
  go_wp2_with (at_builtin; refine wpList_append_fits _ rfl _ _ 23 rfl w.heap.size 5 i0 1 Tryd.underlying23 hi hz1 w.heap.size 1 (z + 40) _ rfl (hown.alloc _) ⟨w2.heap.size, 0, none⟩ 1 1 [.int .u8 120] rfl rfl (cell_one_new _ _ _) one120 (by omega) ?_)
  intro w5 hown5 hgrow5
  have R5 := R2.next 120 hown5 hgrow5
  clear hown hown5 hgrow5 R2
  go_wp2
  go_loopw [11, 13] (fun vb vi wr => ∃ (k n : Nat) (l : List UInt8), k ≤ z ∧ vi = .int .i64 (k : Int) ∧ vb = .slice (some ⟨w.heap.size, 0, none⟩) n (z + 40) ∧ Row w wr (z + 40) n l ∧ Hid (l = 48 :: 120 :: List.replicate k 48)) (fun _ vi _ => z - (intOf vi).toNat)
  case atStart => exact ⟨0, 2, [48, 120], Nat.zero_le _, rfl, rfl, R5, rfl⟩
  case round =>
    obtain ⟨k, n, l, hk, rfl, rfl, R, HL⟩ := hrel
    have hn : n ≤ z + 2 := by rw [← R.len, HL.out]; simp; omega
    by_cases hlt : k < z
    · have hown := R.own
      have HR : Hid (Row w wr (z + 40) n l) := R
      have hn1 : n ≤ z + 1 := by rw [← R.len, HL.out]; simp; omega
      clear R R5
      go_wp2_with (at_builtin; refine wpList_append_fits _ rfl _ _ 23 rfl w.heap.size 5 i0 1 Tryd.underlying23 hi hz1 w.heap.size n (z + 40) _ rfl (hown.alloc _) ⟨wr.heap.size, 0, none⟩ 1 1 [.int .u8 48] rfl rfl (cell_one_new _ _ _) one48 (by omega) ?_)
      intro w3 hown3 hgrow3
      have R3 := HR.out.next 48 hown3 hgrow3
      clear hown hown3 hgrow3
      go_wp2
      go_roundw
      case rel => exact ⟨k + 1, n + 1, l ++ [48], by omega, by go_num, rfl, R3, hex_next HL.out⟩
      case measure => simp [intOf]; omega
    · go_wp2_with fail
      refine (digits_any w.heap.size w.heap.size n (z + 40) _ v 16 up _ (by omega) (by omega) hv R.own (by omega)).mono ?_
      rintro e w3 ⟨ds, rfl, hown3, hg3, hs⟩
      rw [← Lib.byteCells_append] at hown3
      have hkz : k = z := by omega
      have e : l ++ ds = 48 :: 120 :: (List.replicate z 48 ++ ds) := by rw [HL.out, hkz]; rfl
      have hcv := conv_own hown3 (by rw [List.length_append, R.len])
      rw [e] at hcv
      have hb3 : Below w.heap.size w w3 := R.below.trans ((Below.refl _ _).grown hg3 R.below.size (fun k h => by cases h; exact Nat.le_refl _))
      clear hown3 hg3 HL e hkz R R5
      go_wp2_with (go_at_call 6; refine (aton_hex v z 120 (by decide) ds _ hs hv hz).mono ?_; rintro e w4 ⟨rfl, hb4⟩)
      go_ret
      exact ⟨rfl, hb3.trans (hb4.mono hb3.size)⟩

/-- THE LAW: true, whatever the input. -/
theorem law_any (v form z : Int) (ux up : Bool) (w : World) (hv0 : 0 ≤ v) (hv1 : v ≤ 4294967295) :
    Calls Tryd.prog 3 #[.int .u32 v, .int .u8 form, .int .i64 z, .bool ux, .bool up] w fun e w' => e = .returned (.bool true) ∧ Below w.heap.size w w' := by
  by_cases hz : z < 0 ∨ 65536 < z
  · exact law_out v form z ux up w hz
  · obtain ⟨zn, rfl⟩ : ∃ n : Nat, z = (n : Int) := ⟨z.toNat, by omega⟩
    obtain ⟨vn, rfl⟩ : ∃ n : Nat, v = (n : Int) := ⟨v.toNat, by omega⟩
    by_cases h0 : form = 0
    · subst h0; exact law_dec vn zn ux up w (by omega) (by omega)
    · by_cases h1 : form = 1
      · subst h1; exact law_oct vn zn ux up w (by omega) (by omega)
      · have f0 : (form == 0) = false := by rw [beq_eq_false_iff_ne]; exact h0
        have f1 : (form == 1) = false := by rw [beq_eq_false_iff_ne]; exact h1
        cases ux
        · exact law_hexx vn zn form up w (by omega) (by omega) f0 f1
        · exact law_hexX vn zn form up w (by omega) (by omega) f0 f1
end Go.Proofs.Qxb6601126aDoor
