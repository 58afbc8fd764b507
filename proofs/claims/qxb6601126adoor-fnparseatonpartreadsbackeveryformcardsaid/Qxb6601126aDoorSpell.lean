/-
  atonAppendDigits: the digits of v in base 8, 10 or 16, appended.
-/
import Derived.Test.Qxb6601126aDoorProg
import Derived.Test.Qxb6601126aDoorDig
import Derived.WalkKit
import Derived.WalkSmall
import Derived.WalkSpells
import Derived.Lib.Hide
import Derived.Lib.UnsafeStr
namespace Go.Proofs.Qxb6601126aDoor
open Go.RowKit

/-- The scratch array tmp in block B: 32 bytes, from i on the bytes ds. -/
structure Tmp (w : World) (B i : Nat) (ds : List UInt8) : Prop where
  len : i + ds.length = 32
  held : ∀ j, j < 32 → ∃ v, w.cell? ⟨B, j, none⟩ = some v
  free : ∀ j, j < 32 → w.frozen? ⟨B, j, none⟩ = false
  cell : ∀ j (h : j < ds.length), w.cell? ⟨B, i + j, none⟩ = some (.int .u8 (ds[j].toNat : Int))

theorem Tmp.put {w : World} {B i : Nat} {ds : List UInt8} (h : Tmp w B (i + 1) ds) (c : UInt8) : Tmp (w.setCell ⟨B, i, none⟩ (.int .u8 (c.toNat : Int))) B i (c :: ds) := by
  have hl := h.len
  obtain ⟨v, hv⟩ := h.held i (by omega)
  refine ⟨by rw [List.length_cons]; omega, fun j hj => ?_, fun j hj => by rw [World.frozen?_setCell]; exact h.free j hj, fun j hj => ?_⟩
  · by_cases e : i = j
    · subst e; exact ⟨_, World.cell?_setCell_same _ _ _ hv⟩
    · rw [World.cell?_setCell_other _ _ _ _ (fun e' => e (by injection e'))]; exact h.held j hj
  · cases j with
    | zero => exact World.cell?_setCell_same _ _ _ hv
    | succ j =>
      rw [World.cell?_setCell_other _ _ _ _ (fun e' => by simp at e')]
      have := h.cell j (by simpa using hj)
      rw [show i + (j + 1) = i + 1 + j by omega]
      exact this

/-- THE SECOND LOOP's RELATION: k of the bytes dd are appended. -/
structure App (w wr : World) (base g n cap B m : Nat) (xs : List Value) (dd : List UInt8) (k : Nat) : Prop where
  own : wr.ownsRow base 5 1 (.slice (some ⟨g, 0, none⟩) (n + k) cap) (n + k) (xs ++ Lib.byteCells (dd.take k))
  cell : ∀ j (h : j < dd.length), wr.cell? ⟨B, m + j, none⟩ = some (.int .u8 (dd[j].toNat : Int))
  grown : w.grownBy wr (some g)

theorem App.next {w wr w1 : World} {base g n cap B m k : Nat} {xs : List Value} {dd : List UInt8} {o : Obj} (h : App w wr base g n cap B m xs dd k) (hk : k < dd.length) (hB : B ≠ g)
    (own' : w1.ownsRow base 5 1 (.slice (some ⟨g, 0, none⟩) (n + k + 1) cap) (n + k + 1) (xs ++ (Lib.byteCells (dd.take k) ++ [.int .u8 (dd[k].toNat : Int)]))) (hg : (wr.alloc o).grownBy w1 (some g)) :
    App w w1 base g n cap B m xs dd (k + 1) := by
  refine ⟨?_, fun j hj => ?_, ?_⟩
  · have e : xs ++ Lib.byteCells (dd.take (k + 1)) = xs ++ (Lib.byteCells (dd.take k) ++ [.int .u8 (dd[k].toNat : Int)]) := by
      rw [List.take_succ_eq_append_getElem hk, Lib.byteCells_append]; rfl
    rw [e]; exact own'
  · have h1 := h.cell j hj
    have hlt : B < wr.heap.size := World.block_lt_of_cell? wr _ h1
    have h2 : (wr.alloc o).cell? ⟨B, m + j, none⟩ = some (.int .u8 (dd[j].toNat : Int)) := by
      rw [World.cell?_alloc_lt _ _ ⟨B, m + j, none⟩ hlt]; exact h1
    exact hg.cell h2 (fun e => hB (Option.some.inj e))
  · have ga := h.grown
    have gb := World.grownBy_alloc wr o (some g)
    refine ⟨hg.os.trans (gb.os.trans ga.os), hg.tape.trans (gb.tape.trans ga.tape), hg.output.trans (gb.output.trans ga.output), Nat.le_trans ga.size (Nat.le_trans gb.size hg.size), fun j hj hne => ?_⟩
    have h1 : j < wr.heap.size := Nat.lt_of_lt_of_le hj ga.size
    rw [hg.block j (Nat.lt_of_lt_of_le h1 gb.size) hne, gb.block j h1 hne, ga.block j hj hne]

/-- Where the second loop begins. -/
theorem App.start {w W : World} {base g n cap m : Nat} {xs : List Value} {dd : List UInt8} (hown : w.ownsRow base 5 1 (.slice (some ⟨g, 0, none⟩) n cap) n xs) (hT : Tmp W w.heap.size m dd) (hb : Below w.heap.size w W) :
    App w W base g n cap w.heap.size m xs dd 0 := by
  have hg : ∀ row, w.grownBy W row := fun row => ⟨hb.os, hb.tape, hb.output, hb.size, fun k hk _ => hb.block k hk⟩
  refine ⟨?_, fun j hj => hT.cell j hj, hg _⟩
  have := hown.kept (hg none) (Or.inr (by simp [Value.ownBlock]))
  simpa [Lib.byteCells] using this

theorem info5 : (Tryd.prog.info? 5).map (fun i => (i.zero, i.size, i.bytes)) = some (some (.int .u8 0), 1, 1) := by kernel_rfl

set_option maxHeartbeats 1600000 in
theorem digits_any (base g n cap : Nat) (xs : List Value) (v b : Nat) (up : Bool) (w : World) (hb0 : 8 ≤ b) (hb1 : b ≤ 16) (hv : v ≤ 4294967295)
    (hown : w.ownsRow base 5 1 (.slice (some ⟨g, 0, none⟩) n cap) n xs) (hroom : n + 32 ≤ cap) :
    Calls Tryd.prog 5 #[.slice (some ⟨g, 0, none⟩) n cap, .int .u64 (v : Int), .int .u64 (b : Int), .bool up] w fun e w' =>
      ∃ ds, e = .returned (.slice (some ⟨g, 0, none⟩) (n + ds.length) cap) ∧ w'.ownsRow base 5 1 (.slice (some ⟨g, 0, none⟩) (n + ds.length) cap) (n + ds.length) (xs ++ Lib.byteCells ds) ∧ w.grownBy w' (some g) ∧ Spells b v ds := by
  obtain ⟨i0, hi, hz0, hz1, hz2⟩ := info_parts info5
  have HO : Hid (w.ownsRow base 5 1 (.slice (some ⟨g, 0, none⟩) n cap) n xs) := hown
  have hgB : g < w.heap.size := (hown.lt g rfl).2
  clear hown
  go_enter Tryd.func5, Tryd.ntmps5
  go_wp2
  go_loopw [1, 10] (fun vu vi wr => ∃ (u i : Nat) (ds : List UInt8), vu = .int .u64 (u : Int) ∧ vi = .int .i64 (i : Int) ∧ Half b v u ds ∧ Tmp wr w.heap.size i ds ∧ Below w.heap.size w wr) (fun vu _ _ => (intOf vu).toNat)
  case atStart =>
    refine ⟨v, 32, [], rfl, rfl, Half.start b v hv, ⟨rfl, fun j hj => ?_, fun j hj => ?_, fun j hj => absurd hj (Nat.not_lt_zero j)⟩, (Below.refl _ _).alloc (Nat.le_refl _) _⟩
    · rw [World.cell?_alloc_at _ _ _ _ rfl]
      exact ⟨_, Array.getElem?_eq_getElem (by simpa using hj)⟩
    · simp
  case round =>
    obtain ⟨u, i, ds, rfl, rfl, hH, hT, hnx⟩ := hrel
    have hl := hH.len
    have hu := hH.le
    obtain ⟨m, rfl⟩ : ∃ m, i = m + 1 := ⟨i - 1, by have := hT.len; omega⟩
    have hm : m + 1 + ds.length = 32 := hT.len
    obtain ⟨old, hc⟩ := hT.held m (by omega)
    have hf := hT.free m (by omega)
    obtain ⟨q, hq⟩ : ∃ q, q = u / b := ⟨_, rfl⟩
    obtain ⟨r, hr⟩ : ∃ r, r = u % b := ⟨_, rfl⟩
    have hrb : r < b := by rw [hr]; exact Nat.mod_lt _ (by omega)
    have hqu : q ≤ u := by rw [hq]; exact Nat.div_le_self _ _
    have hql : q ≠ 0 → q < u := by
      intro h
      rw [hq] at h ⊢
      exact Nat.div_lt_self (Nat.pos_of_ne_zero (fun e => h (by rw [e, Nat.zero_div]))) (by omega)
    have e1 : IntKind.u64.wrap ((u : Int) / (b : Int)) = (q : Int) := by
      rw [show (u : Int) / (b : Int) = (q : Int) by rw [hq]; exact (Int.natCast_ediv u b).symm, IntKind.wrap_u64]; omega
    have e2 : (u : Int) % (b : Int) = (r : Int) := by rw [hr]; exact (Int.natCast_emod u b).symm
    have HT : Hid (Tmp wr w.heap.size (m + 1) ds) := hT
    have HH : Hid (∀ up, (q ≠ 0 → Half b v q (chr up r :: ds)) ∧ (q = 0 → Spells b v (chr up r :: ds))) := fun up => by
      rw [hq, hr]; exact ⟨fun h => hH.step up hb0 hb1 h, fun h => hH.done up hb0 hb1 h⟩
    have HX : Hid (Below w.heap.size w wr) := hnx
    have hB1 : w.heap.size < wr.heap.size := World.block_lt_of_cell? wr _ hc
    clear hH hT hq hr hnx
    -- the three kinds of digit, by the character's number
    have hx : (r < 10 ∧ ∀ up, ((chr up r).toNat : Int) = 48 + (r : Int)) ∨ (10 ≤ r ∧ up = true ∧ ((chr true r).toNat : Int) = 65 + (r : Int) - 10) ∨ (10 ≤ r ∧ up = false ∧ ((chr false r).toNat : Int) = 97 + (r : Int) - 10) := by
      by_cases h1 : r < 10
      · left; refine ⟨h1, fun up => ?_⟩; have := chr_lo up r h1; omega
      · right
        cases up
        · right; have := chr_dn r h1 (by omega); exact ⟨by omega, rfl, by omega⟩
        · left; have := chr_up r h1 (by omega); exact ⟨by omega, rfl, by omega⟩
    by_cases hz : q = 0
    · have z1 : ((q : Int) == 0) = true := by subst hz; rfl
      have HZ : Hid (q = 0) := hz
      clear hz hql
      rcases hx with ⟨h10, hch⟩ | ⟨h10, rfl, hch⟩ | ⟨h10, rfl, hch⟩
      · have HC : Hid (((chr up r).toNat : Int) = 48 + (r : Int)) := hch up
        obtain ⟨dd, hdd⟩ : ∃ dd, dd = chr up r :: ds := ⟨_, rfl⟩
        have hdl : dd.length = ds.length + 1 := by rw [hdd]; rfl
        have HA : Hid (App w (wr.setCell ⟨w.heap.size, m, none⟩ (.int .u8 (48 + (r : Int)))) base g n cap w.heap.size m xs dd 0 ∧ Spells b v dd) :=
          ⟨App.start HO.out (by rw [← HC.out, hdd]; exact HT.out.put _) (HX.out.setCell (Nat.le_refl _) _), by rw [hdd]; exact (HH.out up).2 HZ.out⟩
        clear hch hdd HC HT HH HX HZ
        go_wp2
        obtain ⟨W, hW⟩ : ∃ W, W = wr.setCell ⟨w.heap.size, m, none⟩ (.int .u8 (48 + (r : Int))) := ⟨_, rfl⟩
        rw [← hW] at HA ⊢
        clear hW hc hf hB1 e1 e2 z1
        generalize ((m + 1 : Nat) : Int) = y1
        generalize (u : Int) % (b : Int) = y2
        generalize decide ((r : Int) < 10) = y3
        go_loopw [0, 12] (fun vb vj w2 => ∃ k : Nat, k ≤ dd.length ∧ vj = .int .i64 ((m + k : Nat) : Int) ∧ vb = .slice (some ⟨g, 0, none⟩) (n + k) cap ∧ App w w2 base g n cap w.heap.size m xs dd k) (fun _ vj _ => 32 - (intOf vj).toNat)
        case atStart => exact ⟨0, Nat.zero_le _, rfl, rfl, HA.out.1⟩
        case round =>
          obtain ⟨k, hk, rfl, rfl, hA⟩ := hrel
          obtain ⟨p, hp⟩ : ∃ p, p = m + k := ⟨_, rfl⟩
          rw [← hp]
          have HP : Hid (p = m + k) := hp
          by_cases hlt : k < dd.length
          · have hc := hA.cell k hlt
            rw [← hp] at hc
            have hp1 : p < 32 := by omega
            have hw : w.heap.size ≤ wr.heap.size := hA.grown.size
            have hbase : base ≤ wr.heap.size := Nat.le_trans (HO.out.lt g rfl).1 (Nat.le_trans (Nat.le_of_lt hgB) hw)
            have HK : Hid (k < dd.length) := hlt
            have hown := hA.own
            have hnk : n + k + 1 ≤ cap := by omega
            clear hp
            go_wp2_with (at_builtin; refine wpList_append_fits _ rfl _ _ 23 rfl base 5 i0 1 Tryd.underlying23 hi hz1 g (n + k) cap _ rfl (hown.alloc _) ⟨wr.heap.size, 0, none⟩ 1 1 [.int .u8 (dd[k].toNat : Int)] rfl rfl (cell_one_new _ _ _) (by intro u' hu'; simp at hu'; subst hu'; rfl) (by omega) ?_)
            intro w1 hown1 hgrow1
            have R := hA.next hlt (by omega) hown1 hgrow1
            clear hown1 hgrow1 hown hc hA
            go_wp2
            go_roundw
            case rel => first | exact ⟨k + 1, by omega, by have := HP.out; go_num, rfl, R⟩ | exact ⟨_, _, _, _, _, _, _, _, _, _, _, _, ⟨k + 1, by omega, by have := HP.out; go_num, rfl, R⟩, rfl⟩
            case measure => simp [intOf]; omega
          · have hp1 : ¬ p < 32 := by omega
            have hkd : k = dd.length := by omega
            have HE : Hid (App w wr base g n cap w.heap.size m xs dd dd.length) := by rw [← hkd]; exact hA
            clear hp hlt hA
            go_wp2
            go_ret
            exact ⟨dd, by first | rfl | (rw [hkd]; rfl), by have := HE.out.own; rwa [List.take_length] at this, HE.out.grown, HA.out.2⟩
      · have HC : Hid (((chr true r).toNat : Int) = 65 + (r : Int) - 10) := hch
        obtain ⟨dd, hdd⟩ : ∃ dd, dd = chr true r :: ds := ⟨_, rfl⟩
        have hdl : dd.length = ds.length + 1 := by rw [hdd]; rfl
        have HA : Hid (App w (wr.setCell ⟨w.heap.size, m, none⟩ (.int .u8 (65 + (r : Int) - 10))) base g n cap w.heap.size m xs dd 0 ∧ Spells b v dd) :=
          ⟨App.start HO.out (by rw [← HC.out, hdd]; exact HT.out.put _) (HX.out.setCell (Nat.le_refl _) _), by rw [hdd]; exact (HH.out true).2 HZ.out⟩
        clear hch hdd HC HT HH HX HZ
        go_wp2
        obtain ⟨W, hW⟩ : ∃ W, W = wr.setCell ⟨w.heap.size, m, none⟩ (.int .u8 (65 + (r : Int) - 10)) := ⟨_, rfl⟩
        rw [← hW] at HA ⊢
        clear hW hc hf hB1 e1 e2 z1
        generalize ((m + 1 : Nat) : Int) = y1
        generalize (u : Int) % (b : Int) = y2
        generalize decide ((r : Int) < 10) = y3
        go_loopw [0, 12] (fun vb vj w2 => ∃ k : Nat, k ≤ dd.length ∧ vj = .int .i64 ((m + k : Nat) : Int) ∧ vb = .slice (some ⟨g, 0, none⟩) (n + k) cap ∧ App w w2 base g n cap w.heap.size m xs dd k) (fun _ vj _ => 32 - (intOf vj).toNat)
        case atStart => exact ⟨0, Nat.zero_le _, rfl, rfl, HA.out.1⟩
        case round =>
          obtain ⟨k, hk, rfl, rfl, hA⟩ := hrel
          obtain ⟨p, hp⟩ : ∃ p, p = m + k := ⟨_, rfl⟩
          rw [← hp]
          have HP : Hid (p = m + k) := hp
          by_cases hlt : k < dd.length
          · have hc := hA.cell k hlt
            rw [← hp] at hc
            have hp1 : p < 32 := by omega
            have hw : w.heap.size ≤ wr.heap.size := hA.grown.size
            have hbase : base ≤ wr.heap.size := Nat.le_trans (HO.out.lt g rfl).1 (Nat.le_trans (Nat.le_of_lt hgB) hw)
            have HK : Hid (k < dd.length) := hlt
            have hown := hA.own
            have hnk : n + k + 1 ≤ cap := by omega
            clear hp
            go_wp2_with (at_builtin; refine wpList_append_fits _ rfl _ _ 23 rfl base 5 i0 1 Tryd.underlying23 hi hz1 g (n + k) cap _ rfl (hown.alloc _) ⟨wr.heap.size, 0, none⟩ 1 1 [.int .u8 (dd[k].toNat : Int)] rfl rfl (cell_one_new _ _ _) (by intro u' hu'; simp at hu'; subst hu'; rfl) (by omega) ?_)
            intro w1 hown1 hgrow1
            have R := hA.next hlt (by omega) hown1 hgrow1
            clear hown1 hgrow1 hown hc hA
            go_wp2
            go_roundw
            case rel => first | exact ⟨k + 1, by omega, by have := HP.out; go_num, rfl, R⟩ | exact ⟨_, _, _, _, _, _, _, _, _, _, _, _, ⟨k + 1, by omega, by have := HP.out; go_num, rfl, R⟩, rfl⟩
            case measure => simp [intOf]; omega
          · have hp1 : ¬ p < 32 := by omega
            have hkd : k = dd.length := by omega
            have HE : Hid (App w wr base g n cap w.heap.size m xs dd dd.length) := by rw [← hkd]; exact hA
            clear hp hlt hA
            go_wp2
            go_ret
            exact ⟨dd, by first | rfl | (rw [hkd]; rfl), by have := HE.out.own; rwa [List.take_length] at this, HE.out.grown, HA.out.2⟩
      · have HC : Hid (((chr false r).toNat : Int) = 97 + (r : Int) - 10) := hch
        obtain ⟨dd, hdd⟩ : ∃ dd, dd = chr false r :: ds := ⟨_, rfl⟩
        have hdl : dd.length = ds.length + 1 := by rw [hdd]; rfl
        have HA : Hid (App w (wr.setCell ⟨w.heap.size, m, none⟩ (.int .u8 (97 + (r : Int) - 10))) base g n cap w.heap.size m xs dd 0 ∧ Spells b v dd) :=
          ⟨App.start HO.out (by rw [← HC.out, hdd]; exact HT.out.put _) (HX.out.setCell (Nat.le_refl _) _), by rw [hdd]; exact (HH.out false).2 HZ.out⟩
        clear hch hdd HC HT HH HX HZ
        go_wp2
        obtain ⟨W, hW⟩ : ∃ W, W = wr.setCell ⟨w.heap.size, m, none⟩ (.int .u8 (97 + (r : Int) - 10)) := ⟨_, rfl⟩
        rw [← hW] at HA ⊢
        clear hW hc hf hB1 e1 e2 z1
        generalize ((m + 1 : Nat) : Int) = y1
        generalize (u : Int) % (b : Int) = y2
        generalize decide ((r : Int) < 10) = y3
        go_loopw [0, 12] (fun vb vj w2 => ∃ k : Nat, k ≤ dd.length ∧ vj = .int .i64 ((m + k : Nat) : Int) ∧ vb = .slice (some ⟨g, 0, none⟩) (n + k) cap ∧ App w w2 base g n cap w.heap.size m xs dd k) (fun _ vj _ => 32 - (intOf vj).toNat)
        case atStart => exact ⟨0, Nat.zero_le _, rfl, rfl, HA.out.1⟩
        case round =>
          obtain ⟨k, hk, rfl, rfl, hA⟩ := hrel
          obtain ⟨p, hp⟩ : ∃ p, p = m + k := ⟨_, rfl⟩
          rw [← hp]
          have HP : Hid (p = m + k) := hp
          by_cases hlt : k < dd.length
          · have hc := hA.cell k hlt
            rw [← hp] at hc
            have hp1 : p < 32 := by omega
            have hw : w.heap.size ≤ wr.heap.size := hA.grown.size
            have hbase : base ≤ wr.heap.size := Nat.le_trans (HO.out.lt g rfl).1 (Nat.le_trans (Nat.le_of_lt hgB) hw)
            have HK : Hid (k < dd.length) := hlt
            have hown := hA.own
            have hnk : n + k + 1 ≤ cap := by omega
            clear hp
            go_wp2_with (at_builtin; refine wpList_append_fits _ rfl _ _ 23 rfl base 5 i0 1 Tryd.underlying23 hi hz1 g (n + k) cap _ rfl (hown.alloc _) ⟨wr.heap.size, 0, none⟩ 1 1 [.int .u8 (dd[k].toNat : Int)] rfl rfl (cell_one_new _ _ _) (by intro u' hu'; simp at hu'; subst hu'; rfl) (by omega) ?_)
            intro w1 hown1 hgrow1
            have R := hA.next hlt (by omega) hown1 hgrow1
            clear hown1 hgrow1 hown hc hA
            go_wp2
            go_roundw
            case rel => first | exact ⟨k + 1, by omega, by have := HP.out; go_num, rfl, R⟩ | exact ⟨_, _, _, _, _, _, _, _, _, _, _, _, ⟨k + 1, by omega, by have := HP.out; go_num, rfl, R⟩, rfl⟩
            case measure => simp [intOf]; omega
          · have hp1 : ¬ p < 32 := by omega
            have hkd : k = dd.length := by omega
            have HE : Hid (App w wr base g n cap w.heap.size m xs dd dd.length) := by rw [← hkd]; exact hA
            clear hp hlt hA
            go_wp2
            go_ret
            exact ⟨dd, by first | rfl | (rw [hkd]; rfl), by have := HE.out.own; rwa [List.take_length] at this, HE.out.grown, HA.out.2⟩
    · have z1 : ((q : Int) == 0) = false := by rw [beq_eq_false_iff_ne]; omega
      have HZ : Hid (q ≠ 0 ∧ q < u) := ⟨hz, hql hz⟩
      clear hz hql
      rcases hx with ⟨h10, hch⟩ | ⟨h10, rfl, hch⟩ | ⟨h10, rfl, hch⟩
      · have HC : Hid (((chr up r).toNat : Int) = 48 + (r : Int)) := hch up
        clear hch
        go_wp2
        go_roundw
        case rel => exact ⟨q, m, chr up r :: ds, rfl, rfl, (HH.out up).1 HZ.out.1, by rw [← HC.out]; exact HT.out.put _, HX.out.setCell (Nat.le_refl _) _⟩
        case measure => have := HZ.out.2; simp [intOf]; omega
      · have HC : Hid (((chr true r).toNat : Int) = 65 + (r : Int) - 10) := hch
        clear hch
        go_wp2
        go_roundw
        case rel => exact ⟨q, m, chr true r :: ds, rfl, rfl, (HH.out true).1 HZ.out.1, by rw [← HC.out]; exact HT.out.put _, HX.out.setCell (Nat.le_refl _) _⟩
        case measure => have := HZ.out.2; simp [intOf]; omega
      · have HC : Hid (((chr false r).toNat : Int) = 97 + (r : Int) - 10) := hch
        clear hch
        go_wp2
        go_roundw
        case rel => exact ⟨q, m, chr false r :: ds, rfl, rfl, (HH.out false).1 HZ.out.1, by rw [← HC.out]; exact HT.out.put _, HX.out.setCell (Nat.le_refl _) _⟩
        case measure => have := HZ.out.2; simp [intOf]; omega
end Go.Proofs.Qxb6601126aDoor
