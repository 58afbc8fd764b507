/-
  THE LAW FnReasonFirstInTree, walked: its body.
-/
import Derived.Test.Qxb6002357aDoorReasonTree
namespace Go.Proofs.Qxb6002357aDoor
open Go.RowKit

theorem info5 : (Tryd.prog.info? 5).map (fun i => (i.zero, i.size, i.bytes)) = some (some (.int .u8 0), 1, 1) := by kernel_rfl
theorem info9 : (Tryd.prog.info? 9).map (fun i => (i.zero, i.size, i.bytes)) = some (some (.string ⟨#[]⟩), 1, 16) := by kernel_rfl

set_option maxHeartbeats 4000000 in
set_option maxRecDepth 100000 in
theorem law_tree_in (a0 a1 : Option Addr) (l0 c0 l1 c1 : Nat) (ks : List Int) (ts : List ByteArray) (w : World) (h0 : l0 ≤ 64) (h1 : l1 ≤ 64)
    (hK : InK w a0 l0 ks) (hT : InT w a1 l1 ts) (hs : ∀ i, (ts.getD i ⟨#[]⟩).size ≤ maxLen) (kb : ∀ i, 0 ≤ ks.getD i 0 ∧ ks.getD i 0 ≤ 255)
    (hg : w.cell? ⟨0, 0, none⟩ = some (.iface 54 (.agg #[.pointer (some ⟨1, 25, none⟩)]))) :
    Calls Tryd.prog 4 #[.slice a0 l0 c0, .slice a1 l1 c1] w fun e w' => e = .returned (.bool true) ∧ Below w.heap.size w w' := by
  have HZ := Lib.hid (zz8_any a0 a1 l0 c0 l1 c1 ts w (by unfold maxLen; omega) (by unfold maxLen; omega) hT hs)
  have HK := Lib.hid hK
  have HT := Lib.hid hT
  have KB := Lib.hid kb
  have HG := Lib.hid hg
  clear hK hT hs kb hg
  obtain ⟨ib, hib, hib0, hib1, hib2⟩ := info_parts info5
  obtain ⟨is, his, his0, his1, his2⟩ := info_parts info9
  have nk := fun (w : World) (a : Option Addr) (n c : Nat) => run_neq_slice_nil_any (P := Tryd.prog) w 27 5 a n c 0 0 Tryd.underlying27
  have nt := fun (w : World) (a : Option Addr) (n c : Nat) => run_neq_slice_nil_any (P := Tryd.prog) w 28 9 a n c 0 0 Tryd.underlying28
  go_enter Tryd.func4, Tryd.ntmps4
  go_wp2_with (go_at_call 8; refine HZ.out.mono ?_; rintro e w' ⟨⟨b, rfl, hb⟩, rfl⟩; cases b)
  · go_ret
    exact ⟨rfl, Below.refl _ _⟩
  have HB := Lib.hid (hb (by trivial))
  clear hb
  go_loop [5, 6] (fun vz vi => ∃ (z k : Nat), z ≤ 1048576 ∧ k ≤ l1 ∧ vz = .int .i64 (z : Int) ∧ vi = .int .i64 (k : Int)) (fun _ vi => l1 - (intOf vi).toNat)
  case atStart => exact ⟨l0 + 16 * l1, 0, by omega, Nat.zero_le _, by go_num, rfl⟩
  case round =>
    obtain ⟨z, k, hz, hk, rfl, rfl⟩ := hrel
    by_cases hlt : k < l1
    · obtain ⟨b, off, rfl, hc⟩ := HT.out.resolve_left (by omega)
      have hck := hc k hlt
      have hsk := HB.out k hlt
      clear hc
      generalize ts.getD k ⟨#[]⟩ = s at hck hsk
      go_wp2
      · go_ret
        exact ⟨rfl, Below.refl _ _⟩
      · go_round
        case rel => exact ⟨z + s.size, k + 1, by omega, by omega, by go_num, by go_num⟩
        case measure => simp [intOf]; omega
    · go_upto_if 50 with (fail)
      clear hk hz hlt
      go_cut [7] from 16 (fun v7 wc => ∃ ak, v7 = .slice ak l0 l0 ∧ Own w'.heap.size wc ak l0 (fun i => .int .u8 (ks.getD i 0)) ∧ Below w'.heap.size w' wc)
      case first =>
        cases a0 with
        | none =>
          have e0 : l0 = 0 := by
            rcases HK.out with e | ⟨b, off, e, _⟩
            · exact e
            · cases e
          have E0 := Lib.hid e0
          clear e0
          go_wp2
          go_meet
          case rel => exact ⟨none, by rw [E0.out], Or.inl E0.out, Below.refl _ _⟩
        | some x =>
          go_wp2_with (at_make; refine wpList_make_full _ rfl _ _ 27 rfl w'.heap.size 5 ib (.int .u8 0) 1 Tryd.underlying27 hib hib0 hib1 _ _ _ _ l0 rfl rfl rfl rfl (by rw [hib2]; omega) (by unfold maxLen; omega) (Nat.le_refl _) ?_)
          intro w1 hown hgrow
          have hF : Fill w1 w'.heap.size l0 0 (fun i => .int .u8 (ks.getD i 0)) := Fill.made _ hown
          have hb1 : Below w'.heap.size w' w1 := (Below.refl _ _).grown hgrow (Nat.le_refl _) (fun k h => by cases h)
          clear hown hgrow
          go_wp2
          go_loopw [8] (fun vi wr => ∃ j : Nat, j ≤ l0 ∧ vi = .int .i64 (j : Int) ∧ Fill wr w'.heap.size l0 j (fun i => .int .u8 (ks.getD i 0)) ∧ Below w'.heap.size w' wr) (fun vi _ => l0 - (intOf vi).toNat)
          case atStart => exact ⟨0, Nat.zero_le _, rfl, hF, hb1⟩
          case round =>
            obtain ⟨j, hj, rfl, hFl, hnx⟩ := hrel
            clear hF hb1
            have HFl := Lib.hid hFl
            have HX := Lib.hid hnx
            by_cases hlt : j < l0
            · obtain ⟨b, off, hx, hc⟩ := HK.out.resolve_left (by omega)
              obtain rfl := Option.some.inj hx
              have k0 := hc j hlt
              have ckk : wr.cell? ⟨b, off + j, none⟩ = some (.int .u8 (ks.getD j 0)) := by rw [hnx.cell (World.block_lt_of_cell? w' _ k0)]; exact k0
              obtain ⟨old, hold⟩ := hFl.held j hlt
              have hfree := hFl.free j hlt
              clear hnx hFl k0 hc hx
              go_wp2
              go_roundw
              case rel => exact ⟨j + 1, by omega, by go_num, HFl.out.put hlt, HX.out.setCell (Nat.le_refl _) _⟩
              case measure => simp [intOf]; omega
            · clear hFl hnx
              go_wp2
              go_meet
              case rel => exact ⟨_, rfl, Or.inr ⟨_, rfl, Nat.le_refl _, fun i hi => HFl.out.cell i (by omega)⟩, HX.out⟩
      case rest =>
        obtain ⟨ak, rfl, hOK, hbk⟩ := hcut
        obtain ⟨wk, ewk⟩ : ∃ x, x = wc := ⟨wc, rfl⟩
        subst ewk
        go_upto_if 69 with (fail)
        have HOK := Lib.hid hOK
        have HBK := Lib.hid hbk
        clear hOK hbk
        go_cut [9] from 16 (fun v9 wd => ∃ at9, v9 = .slice at9 l1 l1 ∧ Own wk.heap.size wd at9 l1 (fun i => .string (ts.getD i ⟨#[]⟩)) ∧ Below wk.heap.size wk wd)
        case first =>
          cases a1 with
          | none =>
            have e1 : l1 = 0 := by
              rcases HT.out with e | ⟨b, off, e, _⟩
              · exact e
              · cases e
            have E1 := Lib.hid e1
            clear e1
            go_wp2
            go_meet
            case rel => exact ⟨none, by rw [E1.out], Or.inl E1.out, Below.refl _ _⟩
          | some x =>
            go_wp2_with (at_make; refine wpList_make_full _ rfl _ _ 28 rfl wk.heap.size 9 is (.string ⟨#[]⟩) 1 Tryd.underlying28 his his0 his1 _ _ _ _ l1 rfl rfl rfl rfl (by rw [his2]; omega) (by unfold maxLen; omega) (Nat.le_refl _) ?_)
            intro w1 hown hgrow
            have hF : Fill w1 wk.heap.size l1 0 (fun i => .string (ts.getD i ⟨#[]⟩)) := Fill.made _ hown
            have hb1 : Below wk.heap.size wk w1 := (Below.refl _ _).grown hgrow (Nat.le_refl _) (fun k h => by cases h)
            clear hown hgrow
            go_wp2
            go_loopw [10] (fun vi wr => ∃ j : Nat, j ≤ l1 ∧ vi = .int .i64 (j : Int) ∧ Fill wr wk.heap.size l1 j (fun i => .string (ts.getD i ⟨#[]⟩)) ∧ Below wk.heap.size wk wr) (fun vi _ => l1 - (intOf vi).toNat)
            case atStart => exact ⟨0, Nat.zero_le _, rfl, hF, hb1⟩
            case round =>
              obtain ⟨j, hj, rfl, hFl, hnx⟩ := hrel
              clear hF hb1
              have HFl := Lib.hid hFl
              have HX := Lib.hid hnx
              by_cases hlt : j < l1
              · obtain ⟨b, off, hx, hc⟩ := HT.out.resolve_left (by omega)
                obtain rfl := Option.some.inj hx
                have k0 := hc j hlt
                have hbl := World.block_lt_of_cell? w' _ k0
                have hle := HBK.out.size
                have ckk : wr.cell? ⟨b, off + j, none⟩ = some (.string (ts.getD j ⟨#[]⟩)) := by rw [hnx.cell (Nat.lt_of_lt_of_le hbl hle), HBK.out.cell hbl]; exact k0
                obtain ⟨old, hold⟩ := hFl.held j hlt
                have hfree := hFl.free j hlt
                clear hnx hFl k0 hc hx hbl hle
                go_wp2
                go_roundw
                case rel => exact ⟨j + 1, by omega, by go_num, HFl.out.put hlt, HX.out.setCell (Nat.le_refl _) _⟩
                case measure => simp [intOf]; omega
              · clear hFl hnx
                go_wp2
                go_meet
                case rel => exact ⟨_, rfl, Or.inr ⟨_, rfl, Nat.le_refl _, fun i hi => HFl.out.cell i (by omega)⟩, HX.out⟩
        case rest =>
          obtain ⟨at9, rfl, hOT, hbt⟩ := hcut
          obtain ⟨wt, ewt⟩ : ∃ x, x = wc := ⟨wc, rfl⟩
          subst ewt
          have hb2 : Below w'.heap.size w' wt := HBK.out.trans (hbt.mono HBK.out.size)
          have hOK2 : Own w'.heap.size wt ak l0 (fun i => .int .u8 (ks.getD i 0)) := by
            rcases HOK.out with e | ⟨g, e, hB, hc⟩
            · exact Or.inl e
            · exact Or.inr ⟨g, e, hB, fun i hi => by rw [hbt.cell (World.block_lt_of_cell? wk _ (hc i hi))]; exact hc i hi⟩
          have hg2 : wt.cell? ⟨0, 0, none⟩ = some (.iface 54 (.agg #[.pointer (some ⟨1, 25, none⟩)])) := by rw [hb2.cell (World.block_lt_of_cell? w' _ HG.out)]; exact HG.out
          have RT := Lib.hid (fun n h s hn hk ht hS => reason_tree w'.heap.size wk.heap.size ak at9 l0 l1 n ks ts h s wt hn hk ht hOK2 hOT KB.out hS hg2)
          have HK2 := Lib.hid hOK2
          have HT2 := Lib.hid hOT
          have HB2 := Lib.hid hb2
          clear hOK2 hOT hb2 hbt hg2 HOK HBK HG HK HT nk nt hib hib0 hib1 hib2 his his0 his1 his2 HZ HB
          go_upto_if 92 with (fail)
          go_cut [11] from 16 (fun v11 wx => ∃ n : Nat, v11 = .int .i64 (n : Int) ∧ n ≤ l0 ∧ n ≤ l1 ∧ wt = wx)
          case first =>
            by_cases hlt : l1 < l0
            · go_wp2
              go_meet
              case rel => exact ⟨l1, rfl, by omega, by omega, rfl⟩
            · go_wp2
              go_meet
              case rel => exact ⟨l0, rfl, by omega, by omega, rfl⟩
          case rest =>
            obtain ⟨n, rfl, hn0, hn1, rfl⟩ := hcut
            obtain ⟨h, s, hS⟩ := Sel.ex (hitAt ks) (fun i => ts.getD i ⟨#[]⟩) n
            have KEY := Lib.hid (RT.out n h s (by omega) hn0 hn1 hS)
            have HS := Lib.hid hS
            clear hS RT
            go_wp2
            go_loop [12, 13] (fun vw vi => ∃ i : Nat, i ≤ n ∧ vi = .int .i64 (i : Int) ∧ vw = .string ⟨#[]⟩ ∧ Hid (∀ j, j < i → hitAt ks j = false)) (fun _ vi => n - (intOf vi).toNat)
            case atStart => exact ⟨0, Nat.zero_le _, rfl, rfl, fun j hj => absurd hj (Nat.not_lt_zero j)⟩
            case round =>
              obtain ⟨i, hin, rfl, rfl, HN⟩ := hrel
              by_cases hi : i < n
              · obtain ⟨gk, rfl, _, ck⟩ := HK2.out.resolve_left (by omega)
                obtain ⟨gt, rfl, _, ct⟩ := HT2.out.resolve_left (by omega)
                have c0 : wt.cell? ⟨gk, i, none⟩ = some (.int .u8 (ks.getD i 0)) := ck i (by omega)
                have c1 : wt.cell? ⟨gt, i, none⟩ = some (.string (ts.getD i ⟨#[]⟩)) := ct i (by omega)
                have hi0 : i < l0 := by omega
                have hi1 : i < l1 := by omega
                have kb := KB.out i
                obtain ⟨kd, hkd⟩ : ∃ kd, kd = ks.getD i 0 := ⟨_, rfl⟩
                rw [← hkd] at c0 kb
                obtain ⟨m, em⟩ : ∃ m, kd % 4 = m := ⟨_, rfl⟩
                have mb : 0 ≤ m ∧ m ≤ 3 := by omega
                by_cases hm0 : m = 0
                · have HM : Hid (hitAt ks i = true) := by show hitOf (ks.getD i 0 % 4) = true; rw [← hkd, em, hm0]; rfl
                  have m0 : (m == 0) = true := by subst hm0; rfl
                  have m2 : (m == 2) = false := by subst hm0; rfl
                  obtain ⟨s1, hs1⟩ : ∃ s1, s1 = ts.getD i ⟨#[]⟩ := ⟨_, rfl⟩
                  rw [← hs1] at c1
                  have EQ : Hid (h = true ∧ s = s1) := by rw [hs1]; exact HS.out.hitAt hi HM.out HN.out
                  clear hm0 hkd hs1 ck ct
                  go_wp2_with (go_at_call 6; refine KEY.out.mono ?_; rintro e w3 ⟨rfl, hb3⟩)
                  go_ret
                  obtain ⟨eh, es⟩ := EQ.out
                  subst eh es
                  exact ⟨ret_true (by simp [pick]), HB2.out.trans (hb3.mono HB2.out.size)⟩
                · by_cases hm2 : m = 2
                  · have HM : Hid (hitAt ks i = true) := by show hitOf (ks.getD i 0 % 4) = true; rw [← hkd, em, hm2]; rfl
                    have m0 : (m == 0) = false := by subst hm2; rfl
                    have m2 : (m == 2) = true := by subst hm2; rfl
                    obtain ⟨s1, hs1⟩ : ∃ s1, s1 = ts.getD i ⟨#[]⟩ := ⟨_, rfl⟩
                    rw [← hs1] at c1
                    have EQ : Hid (h = true ∧ s = s1) := by rw [hs1]; exact HS.out.hitAt hi HM.out HN.out
                    clear hm2 hkd hs1 ck ct
                    go_wp2_with (go_at_call 6; refine KEY.out.mono ?_; rintro e w3 ⟨rfl, hb3⟩)
                    go_ret
                    obtain ⟨eh, es⟩ := EQ.out
                    subst eh es
                    exact ⟨ret_true (by simp [pick]), HB2.out.trans (hb3.mono HB2.out.size)⟩
                  · have HM : Hid (hitAt ks i = false) := by
                      show hitOf (ks.getD i 0 % 4) = false
                      rw [← hkd, em]; simp [hitOf, hm0, hm2]
                    have m0 : (m == 0) = false := by rw [beq_eq_false_iff_ne]; exact hm0
                    have m2 : (m == 2) = false := by rw [beq_eq_false_iff_ne]; exact hm2
                    clear hm0 hm2 hkd ck ct c1
                    go_wp2
                    go_round
                    case rel => exact ⟨i + 1, by omega, by go_num, rfl, fun j hj => by
                      by_cases e : j = i
                      · subst e; exact HM.out
                      · exact HN.out j (by omega)⟩
                    case measure => simp [intOf]; omega
              · have EQ : Hid (h = false) := HS.out.noHit (fun j hj => HN.out j (by omega))
                go_wp2_with (go_at_call 6; refine KEY.out.mono ?_; rintro e w3 ⟨rfl, hb3⟩)
                go_ret
                have eh := EQ.out
                subst eh
                exact ⟨ret_true (by simp [pick]), HB2.out.trans (hb3.mono HB2.out.size)⟩

/-- THE LAW: true, whatever the input. -/
theorem law_tree (a0 a1 : Option Addr) (l0 c0 l1 c1 : Nat) (ks : List Int) (ts : List ByteArray) (w : World) (m0 : l0 ≤ maxLen) (m1 : l1 ≤ maxLen)
    (hK : InK w a0 l0 ks) (hT : InT w a1 l1 ts) (hs : ∀ i, (ts.getD i ⟨#[]⟩).size ≤ maxLen) (kb : ∀ i, 0 ≤ ks.getD i 0 ∧ ks.getD i 0 ≤ 255)
    (hg : w.cell? ⟨0, 0, none⟩ = some (.iface 54 (.agg #[.pointer (some ⟨1, 25, none⟩)]))) :
    Calls Tryd.prog 4 #[.slice a0 l0 c0, .slice a1 l1 c1] w fun e w' => e = .returned (.bool true) ∧ Below w.heap.size w w' := by
  by_cases h0 : l0 ≤ 64
  · by_cases h1 : l1 ≤ 64
    · exact law_tree_in a0 a1 l0 c0 l1 c1 ks ts w h0 h1 hK hT hs kb hg
    · have HZ := Lib.hid (zz8_any a0 a1 l0 c0 l1 c1 ts w m0 m1 hT hs)
      clear hK hT hs kb hg m0
      unfold maxLen at m1
      go_enter Tryd.func4, Tryd.ntmps4
      go_wp2_with (go_at_call 8; refine HZ.out.mono ?_; rintro e w' ⟨⟨b, rfl, hb⟩, rfl⟩; cases b)
      all_goals
        go_ret
        exact ⟨rfl, Below.refl _ _⟩
  · have HZ := Lib.hid (zz8_any a0 a1 l0 c0 l1 c1 ts w m0 m1 hT hs)
    clear hK hT hs kb hg m1
    unfold maxLen at m0
    have h0' : (64 : Int) < (l0 : Int) := by omega
    go_enter Tryd.func4, Tryd.ntmps4
    go_wp2_with (go_at_call 8; refine HZ.out.mono ?_; rintro e w' ⟨⟨b, rfl, hb⟩, rfl⟩; cases b)
    all_goals
      go_ret
      exact ⟨rfl, Below.refl _ _⟩
end Go.Proofs.Qxb6002357aDoor
