/-
  zzb1DigitChar, zzb1Spell, zzb1Zeros.
-/
import Derived.Test.Qxb6600148aDoorProg
import Derived.Test.Qxb6600148aDoorDig
import Derived.WalkKit
import Derived.WalkSmall
import Derived.WalkSpells
import Derived.Lib.Hide
import Derived.Lib.UnsafeStr
import Derived.Laws.IdiomStrings
namespace Go.Proofs.Qxb6600148aDoor
open Go.RowKit

theorem ret_int {k : IntKind} {a b : Int} (h : a = b) : Ending.returned (.int k a) = .returned (.int k b) := by rw [h]

/-- zzb1DigitChar. -/
theorem digitChar_any (r : Nat) (up : Bool) (w : World) (hr : r < 16) :
    Calls Tryd.prog 12 #[.int .u64 (r : Int), .bool up] w fun e w' => e = .returned (.int .u8 ((chr up r).toNat : Int)) ∧ w' = w := by
  by_cases h10 : r < 10
  · have HC := Lib.hid (chr_lo up r h10)
    go_enter Tryd.func12, Tryd.ntmps12
    go_wp2
    go_ret
    exact ⟨by rw [HC.out]; rfl, rfl⟩
  · cases up
    · have HC := Lib.hid (chr_dn r h10 hr)
      go_enter Tryd.func12, Tryd.ntmps12
      go_wp2
      go_ret
      exact ⟨ret_int (by have := HC.out; omega), rfl⟩
    · have HC := Lib.hid (chr_up r h10 hr)
      go_enter Tryd.func12, Tryd.ntmps12
      go_wp2
      go_ret
      exact ⟨ret_int (by have := HC.out; omega), rfl⟩

/-- The scratch array buf in block B: N bytes, from i on the bytes ds. -/
structure Tmp (N : Nat) (w : World) (B i : Nat) (ds : List UInt8) : Prop where
  len : i + ds.length = N
  held : ∀ j, j < N → ∃ v, w.cell? ⟨B, j, none⟩ = some v
  free : ∀ j, j < N → w.frozen? ⟨B, j, none⟩ = false
  cell : ∀ j (h : j < ds.length), w.cell? ⟨B, i + j, none⟩ = some (.int .u8 (ds[j].toNat : Int))

theorem Tmp.put {N : Nat} {w : World} {B i : Nat} {ds : List UInt8} (h : Tmp N w B (i + 1) ds) (c : UInt8) : Tmp N (w.setCell ⟨B, i, none⟩ (.int .u8 (c.toNat : Int))) B i (c :: ds) := by
  have hl := h.len
  obtain ⟨v, hv⟩ := h.held i (by omega)
  refine ⟨by rw [List.length_cons]; omega, fun j hj => ?_, fun j hj => by rw [World.frozen?_setCell]; exact h.free j hj, fun j hj => ?_⟩
  · by_cases e : i = j
    · subst e; exact ⟨_, World.cell?_setCell_same _ _ _ hv⟩
    · rw [World.cell?_setCell_other _ _ _ _ (fun e' => e (by injection e'))]; exact h.held j hj
  · cases j with
    | zero => exact World.cell?_setCell_same _ _ _ hv
    | succ j =>
      rw [World.cell?_setCell_other _ _ _ _ (fun e' => by simp at e')]
      have := h.cell j (by simpa using hj)
      rw [show i + (j + 1) = i + 1 + j by omega]
      exact this

theorem arr33 : Tryd.prog.arrayLen 33 = 64 := by kernel_rfl
theorem elem33 : Tryd.prog.elem 33 = 5 := by kernel_rfl
theorem size5 (W : World) : (sizeOf 5).run Tryd.prog W = .ok 1 W := by kernel_rfl
/-- 'buf[i:]' of an array of 64 bytes. -/
theorem slice33 (g i n : Nat) (hi : i < 64) (hn : i + n = 64) (W : World) :
    (Instr.sliceAt 33 (.pointer (some ⟨g, 0, none⟩)) (some (.int .i64 (i : Int))) none none).run Tryd.prog W = .ok (.slice (some ⟨g, i, none⟩) n n) W := by
  rw [run_sliceAt_array_l W 33 ⟨g, 0, none⟩ Tryd.underlying33 .i64 (i : Int) (by omega) (by rw [arr33]; omega), elem33, size5]
  have e : ¬ (64 = i) := by omega
  have e2 : 64 - i = n := by omega
  simp [slicedAt, arr33, Addr.add, Result.andThen, e, e2]
  intro h; exact h.symm
/-- 'string(b)' where b's cells are the bytes l. -/
theorem conv_cells {W : World} {g i n : Nat} {l : List UInt8} (hn : l.length = n) (hc : ∀ j (h : j < l.length), W.cell? ⟨g, i + j, none⟩ = some (.int .u8 (l[j].toNat : Int))) :
    (convert 32 9 (.slice (some ⟨g, i, none⟩) n n)).run Tryd.prog W = .ok (.string ⟨l.toArray⟩) W := by
  subst hn
  exact run_convert_bytes_back (P := Tryd.prog) W 32 9 5 ⟨g, i, none⟩ l.length l Tryd.underlying32 Tryd.underlying5 Tryd.underlying9 (fun j hj => by rw [Addr.add_lit]; exact hc j hj)

theorem spells_zero (b : Nat) (hb : 1 ≤ b) : Spells b 0 [48] := by
  refine ⟨by simp, fun c hc => ?_, ?_, by simp, by simp⟩
  · rw [List.mem_singleton.1 hc]; exact ⟨Or.inl (by decide), hb⟩
  · show 0 * b + dv 48 = 0; rw [Nat.zero_mul]; decide

set_option maxHeartbeats 1600000 in
theorem spell_any (v b : Nat) (up : Bool) (w : World) (hb0 : 8 ≤ b) (hb1 : b ≤ 16) (hv : v ≤ 4294967295) :
    Calls Tryd.prog 6 #[.int .u64 (v : Int), .int .u64 (b : Int), .bool up] w fun e w' =>
      ∃ ds, e = .returned (.string ⟨ds.toArray⟩) ∧ Below w.heap.size w w' ∧ Spells b v ds := by
  by_cases hv0 : v = 0
  · subst hv0
    go_enter Tryd.func6, Tryd.ntmps6
    go_wp2
    go_ret
    exact ⟨[48], rfl, Below.refl _ _, spells_zero b (by omega)⟩
  · have z0 : ((v : Int) == 0) = false := by rw [beq_eq_false_iff_ne]; omega
    go_enter Tryd.func6, Tryd.ntmps6
    go_wp2
    go_loopw [0, 8] (fun vu vi wr => ∃ (u i : Nat) (ds : List UInt8), vu = .int .u64 (u : Int) ∧ vi = .int .i64 (i : Int) ∧ Tmp 64 wr w.heap.size i ds ∧ Below w.heap.size w wr ∧ Hid ((u ≠ 0 ∧ Half b v u ds) ∨ (u = 0 ∧ Spells b v ds))) (fun vu _ _ => (intOf vu).toNat)
    case atStart =>
      refine ⟨v, 64, [], rfl, rfl, ⟨rfl, fun j hj => ?_, fun j hj => ?_, fun j hj => absurd hj (Nat.not_lt_zero j)⟩, (Below.refl _ _).alloc (Nat.le_refl _) _, Or.inl ⟨hv0, Half.start b v hv⟩⟩
      · rw [World.cell?_alloc_at _ _ _ _ rfl]
        exact ⟨_, Array.getElem?_eq_getElem (by simpa using hj)⟩
      · simp
    case round =>
      obtain ⟨u, i, ds, rfl, rfl, hT, hnx, HS⟩ := hrel
      clear z0 hv0
      by_cases hu : u = 0
      · obtain ⟨_, hSp⟩ := HS.out.resolve_left (fun h => h.1 hu)
        have hne : ds.length ≠ 0 := fun h => hSp.ne (List.eq_nil_of_length_eq_zero h)
        have hi : i < 64 := by have := hT.len; omega
        have hl : i + ds.length = 64 := hT.len
        have HSp := Lib.hid hSp
        have HT := Lib.hid hT
        have HX := Lib.hid hnx
        have hu0 : ¬ (0 : Int) < (u : Int) := by omega
        have hsl := slice33 w.heap.size i ds.length hi hl
        have hcv := conv_cells (n := ds.length) rfl (fun j hj => hT.cell j hj)
        clear hSp hT hnx HS hu
        go_wp2
        go_ret
        exact ⟨ds, rfl, HX.out, HSp.out⟩
      · obtain ⟨_, hH⟩ := HS.out.resolve_right (fun h => hu h.1)
        have hl := hH.len
        have hu1 := hH.le
        obtain ⟨m, rfl⟩ : ∃ m, i = m + 1 := ⟨i - 1, by have := hT.len; omega⟩
        have hm : m + 1 + ds.length = 64 := hT.len
        obtain ⟨old, hc⟩ := hT.held m (by omega)
        have hf := hT.free m (by omega)
        obtain ⟨q, hq⟩ : ∃ q, q = u / b := ⟨_, rfl⟩
        obtain ⟨r, hr⟩ : ∃ r, r = u % b := ⟨_, rfl⟩
        have hrb : r < b := by rw [hr]; exact Nat.mod_lt _ (by omega)
        have hqu : q < u := by rw [hq]; exact Nat.div_lt_self (Nat.pos_of_ne_zero hu) (by omega)
        have e1 : IntKind.u64.wrap ((u : Int) / (b : Int)) = (q : Int) := by
          rw [show (u : Int) / (b : Int) = (q : Int) by rw [hq]; exact (Int.natCast_ediv u b).symm, IntKind.wrap_u64]; omega
        have e2 : (u : Int) % (b : Int) = (r : Int) := by rw [hr]; exact (Int.natCast_emod u b).symm
        have HT := Lib.hid hT
        have HX := Lib.hid hnx
        have HN : Hid ((q ≠ 0 ∧ Half b v q (chr up r :: ds)) ∨ (q = 0 ∧ Spells b v (chr up r :: ds))) := by
          by_cases hz : q = 0
          · exact Or.inr ⟨hz, by rw [hr]; exact hH.done up hb0 hb1 (by rw [← hq]; exact hz)⟩
          · exact Or.inl ⟨hz, by rw [hr, hq]; exact hH.step up hb0 hb1 (by rw [← hq]; exact hz)⟩
        have hu0 : (0 : Int) < (u : Int) := by omega
        clear hH hT hq hr hnx HS hu
        go_wp2_with (go_at_call 12; refine (digitChar_any r up _ (by omega)).mono ?_; rintro e w' ⟨rfl, rfl⟩)
        go_roundw
        case rel => exact ⟨q, m, chr up r :: ds, rfl, rfl, HT.out.put _, HX.out.setCell (Nat.le_refl _) _, HN⟩
        case measure => simp [intOf]; omega

theorem info5 : (Tryd.prog.info? 5).map (fun i => (i.zero, i.size, i.bytes)) = some (some (.int .u8 0), 1, 1) := by kernel_rfl

/-- Block g of w holds n cells that may be written; the first k are the byte 48. -/
structure Fill (w : World) (g n k : Nat) : Prop where
  held : ∀ j, j < n → ∃ v, w.cell? ⟨g, j, none⟩ = some v
  free : ∀ j, j < n → w.frozen? ⟨g, j, none⟩ = false
  cell : ∀ j, j < k → w.cell? ⟨g, j, none⟩ = some (.int .u8 48)

theorem Fill.put {w : World} {g n k : Nat} (h : Fill w g n k) (hk : k < n) : Fill (w.setCell ⟨g, k, none⟩ (.int .u8 48)) g n (k + 1) := by
  obtain ⟨v, hv⟩ := h.held k hk
  refine ⟨fun j hj => ?_, fun j hj => by rw [World.frozen?_setCell]; exact h.free j hj, fun j hj => ?_⟩
  · by_cases e : k = j
    · subst e; exact ⟨_, World.cell?_setCell_same _ _ _ hv⟩
    · rw [World.cell?_setCell_other _ _ _ _ (fun e' => e (by injection e'))]; exact h.held j hj
  · by_cases e : k = j
    · subst e; exact World.cell?_setCell_same _ _ _ hv
    · rw [World.cell?_setCell_other _ _ _ _ (fun e' => e (by injection e'))]; exact h.cell j (by omega)
theorem Fill.made {w : World} {base e g n : Nat} {xs : List Value} (h : w.ownsRow base e 1 (.slice (some ⟨g, 0, none⟩) n n) n xs) : Fill w g n 0 := by
  refine ⟨fun j hj => ?_, fun j _ => h.frozenAt j, fun j hj => absurd hj (Nat.not_lt_zero j)⟩
  have hl : xs.length = n := by have := h.1; omega
  rw [h.cellAt j (by omega)]
  exact ⟨_, List.getElem?_eq_getElem (by omega)⟩

set_option maxHeartbeats 1000000 in
/-- zzb1Zeros: n zeros. -/
theorem zeros_any (n : Nat) (w : World) (hn : n ≤ 1000) :
    Calls Tryd.prog 5 #[.int .i64 (n : Int)] w fun e w' => e = .returned (.string ⟨(List.replicate n 48).toArray⟩) ∧ Below w.heap.size w w' := by
  obtain ⟨i0, hi, hz0, hz1, hz2⟩ := info_parts info5
  obtain ⟨zl, hzl⟩ : ∃ zl : List UInt8, zl = List.replicate n 48 := ⟨_, rfl⟩
  have ZL := Lib.hid hzl
  rw [← hzl]
  clear hzl
  go_enter Tryd.func5, Tryd.ntmps5
  go_wp2_with (at_make; refine wpList_make_full _ rfl _ _ 32 rfl w.heap.size 5 i0 (.int .u8 0) 1 Tryd.underlying32 hi hz0 hz1 _ _ _ _ n rfl rfl rfl rfl (by rw [hz2]; omega) (by unfold maxLen; omega) (Nat.le_refl _) ?_)
  intro w1 hown hgrow
  have hF : Fill w1 w.heap.size n 0 := Fill.made hown
  have hb1 : Below w.heap.size w w1 := (Below.refl _ _).grown hgrow (Nat.le_refl _) (fun k h => by cases h)
  clear hown hgrow
  go_wp2
  go_loopw [4] (fun vi wr => ∃ k : Nat, k ≤ n ∧ vi = .int .i64 (k : Int) ∧ Fill wr w.heap.size n k ∧ Below w.heap.size w wr) (fun vi _ => n - (intOf vi).toNat)
  case atStart => exact ⟨0, Nat.zero_le _, rfl, hF, hb1⟩
  case round =>
    obtain ⟨k, hkn, rfl, hFl, hnx⟩ := hrel
    clear hF hb1
    have HF := Lib.hid hFl
    have HX := Lib.hid hnx
    by_cases hlt : k < n
    · obtain ⟨old, hold⟩ := hFl.held k hlt
      have hfree := hFl.free k hlt
      clear hFl hnx
      go_wp2
      go_roundw
      case rel => exact ⟨k + 1, by omega, by go_num, HF.out.put hlt, HX.out.setCell (Nat.le_refl _) _⟩
      case measure => simp [intOf]; omega
    · have hcv := conv_cells (W := wr) (g := w.heap.size) (i := 0) (n := n) (l := zl) (by rw [ZL.out]; simp) (fun j hj => by
        have hj' : j < n := by rw [ZL.out] at hj; simpa using hj
        have e : zl[j] = 48 := List.eq_of_mem_replicate (n := n) (by rw [← ZL.out]; exact List.getElem_mem hj)
        rw [Nat.zero_add, e]
        exact hFl.cell j (by omega))
      clear hFl hnx
      go_wp2
      go_ret
      exact ⟨rfl, HX.out⟩
end Go.Proofs.Qxb6600148aDoor
