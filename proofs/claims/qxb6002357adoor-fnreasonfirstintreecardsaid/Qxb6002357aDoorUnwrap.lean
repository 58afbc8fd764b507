/-
  (zzTree).Unwrap, walked.
-/
import Derived.Test.Qxb6002357aDoorFill
import Derived.WalkSpells
namespace Go.Proofs.Qxb6002357aDoor
open Go.RowKit

theorem info25 : (Tryd.prog.info? 25).map (fun i => (i.zero, i.size, i.bytes)) = some (some .nilIface, 1, 16) := by kernel_rfl

/-- Child i of a tree. -/
def child (ks : List Int) (ts : List ByteArray) (i : Nat) : Value := childOf (ks.getD i 0 % 4) (ts.getD i ⟨#[]⟩)

/-- The world behind the box of the receiver. -/
abbrev boxT (vk vt : Value) (n : Nat) (w : World) : World := w.alloc (.cells #[vk, vt, .int .i64 (n : Int)] 31)

set_option maxHeartbeats 4000000 in
theorem unwrap_tree (ks : List Int) (ts : List ByteArray) (gk gt lk lt n : Nat) (w : World) (hn : n ≤ 1000) (hk : n ≤ lk) (ht : n ≤ lt)
    (ck : ∀ i, i < n → w.cell? ⟨gk, i, none⟩ = some (.int .u8 (ks.getD i 0))) (ct : ∀ i, i < n → w.cell? ⟨gt, i, none⟩ = some (.string (ts.getD i ⟨#[]⟩))) (kb : ∀ i, 0 ≤ ks.getD i 0 ∧ ks.getD i 0 ≤ 255) :
    Calls Tryd.prog 36 #[.agg #[.slice (some ⟨gk, 0, none⟩) lk lk, .slice (some ⟨gt, 0, none⟩) lt lt, .int .i64 (n : Int)]] w fun e w' =>
      ∃ g, e = .returned (.slice (some ⟨g, 0, none⟩) n n) ∧ (∀ i, i < n → w'.cell? ⟨g, i, none⟩ = some (child ks ts i)) ∧ Below w.heap.size w w' := by
  obtain ⟨i0, hi, hz0, hz1, hz2⟩ := info_parts info25
  have CK := Lib.hid ck
  have CT := Lib.hid ct
  have KB := Lib.hid kb
  clear ck ct kb
  go_enter Tryd.func36, Tryd.ntmps36
  go_wp2_with (at_make; refine wpList_make_full _ rfl _ _ 65 rfl (w.heap.size + 1) 25 i0 .nilIface 1 Tryd.underlying65 hi hz0 hz1 _ _ _ _ n rfl rfl rfl rfl (by rw [hz2]; omega) (by unfold maxLen; omega) (by simp) ?_)
  intro w1 hown hgrow
  have hb1 : Below (w.heap.size + 1) (boxT (.slice (some ⟨gk, 0, none⟩) lk lk) (.slice (some ⟨gt, 0, none⟩) lt lt) n w) w1 := (Below.refl _ _).grown hgrow (by simp) (fun k h => by cases h)
  have hF : Fill w1 (w.heap.size + 1) n 0 (child ks ts) := Fill.made _ (by simpa using hown)
  clear hown hgrow
  go_wp2
  go_loopw [4] (fun vi wr => ∃ k : Nat, k ≤ n ∧ vi = .int .i64 (k : Int) ∧ Fill wr (w.heap.size + 1) n k (child ks ts) ∧ Below (w.heap.size + 1) (boxT (.slice (some ⟨gk, 0, none⟩) lk lk) (.slice (some ⟨gt, 0, none⟩) lt lt) n w) wr) (fun vi _ => n - (intOf vi).toNat)
  case atStart => exact ⟨0, Nat.zero_le _, rfl, hF, hb1⟩
  case round =>
    obtain ⟨k, hkn, rfl, hFl, hnx⟩ := hrel
    clear hF hb1
    have c0 : wr.cell? ⟨w.heap.size, 0, none⟩ = some (.slice (some ⟨gk, 0, none⟩) lk lk) := by rw [hnx.cell (by simp)]; simp
    have c1 : wr.cell? ⟨w.heap.size, 1, none⟩ = some (.slice (some ⟨gt, 0, none⟩) lt lt) := by rw [hnx.cell (by simp)]; simp
    have c2 : wr.cell? ⟨w.heap.size, 2, none⟩ = some (.int .i64 (n : Int)) := by rw [hnx.cell (by simp)]; simp
    have HFl := Lib.hid hFl
    have HX := Lib.hid hnx
    by_cases hlt : k < n
    · have k0 := CK.out k hlt
      have t0 := CT.out k hlt
      have hgk := World.block_lt_of_cell? w _ k0
      have hgt := World.block_lt_of_cell? w _ t0
      have ckk : wr.cell? ⟨gk, k, none⟩ = some (.int .u8 (ks.getD k 0)) := by rw [hnx.cell (by simp at hgk ⊢; omega), World.cell?_alloc_lt _ _ _ hgk]; exact k0
      have ctt : wr.cell? ⟨gt, k, none⟩ = some (.string (ts.getD k ⟨#[]⟩)) := by rw [hnx.cell (by simp at hgt ⊢; omega), World.cell?_alloc_lt _ _ _ hgt]; exact t0
      obtain ⟨old, hold⟩ := hFl.held k hlt
      have hfree := hFl.free k hlt
      obtain ⟨kd, hkd⟩ : ∃ kd, kd = ks.getD k 0 := ⟨_, rfl⟩
      have kb := KB.out k
      rw [← hkd] at ckk kb
      obtain ⟨m, hm⟩ : ∃ m, m = kd % 4 := ⟨_, rfl⟩
      have em : kd % 4 = m := hm.symm
      have HM : Hid (ks.getD k 0 % 4 = m) := by rw [← hkd]; exact em
      have m4 : m = 0 ∨ m = 1 ∨ m = 2 ∨ m = 3 := by omega
      clear hnx hFl k0 t0 hm hkd
      rcases m4 with rfl | rfl | rfl | rfl
      · have eC : child ks ts k = .iface 32 (.string (ts.getD k ⟨#[]⟩)) := by
          unfold child; rw [HM.out]; rfl
        have EC := Lib.hid eC
        clear eC
        generalize ts.getD k ⟨#[]⟩ = s at ctt EC
        go_wp2_with (go_at_call 10; refine (zzReason_any _ _).mono ?_; rintro e w' ⟨rfl, rfl⟩)
        go_roundw
        case rel => exact ⟨k + 1, by omega, by go_num, by have := HFl.out.put hlt; rw [EC.out] at this; exact this, HX.out.setCell (by simp) _⟩
        case measure => simp [intOf]; omega
      · have eC : child ks ts k = .iface 37 (.agg #[]) := by
          unfold child; rw [HM.out]; rfl
        have EC := Lib.hid eC
        clear eC
        generalize ts.getD k ⟨#[]⟩ = s at ctt EC
        go_wp2
        go_roundw
        case rel => exact ⟨k + 1, by omega, by go_num, by have := HFl.out.put hlt; rw [EC.out] at this; exact this, HX.out.setCell (by simp) _⟩
        case measure => simp [intOf]; omega
      · have eC : child ks ts k = .iface 39 (.agg #[.int .i64 2, .string (ts.getD k ⟨#[]⟩), .bool true]) := by
          unfold child; rw [HM.out]; rfl
        have EC := Lib.hid eC
        clear eC
        generalize ts.getD k ⟨#[]⟩ = s at ctt EC
        go_wp2
        go_roundw
        case rel => exact ⟨k + 1, by omega, by go_num, by have := HFl.out.put hlt; rw [EC.out] at this; exact this, HX.out.setCell (by simp) _⟩
        case measure => simp [intOf]; omega
      · have eC : child ks ts k = .iface 39 (.agg #[.int .i64 2, .string (ts.getD k ⟨#[]⟩), .bool false]) := by
          unfold child; rw [HM.out]; rfl
        have EC := Lib.hid eC
        clear eC
        generalize ts.getD k ⟨#[]⟩ = s at ctt EC
        go_wp2
        go_roundw
        case rel => exact ⟨k + 1, by omega, by go_num, by have := HFl.out.put hlt; rw [EC.out] at this; exact this, HX.out.setCell (by simp) _⟩
        case measure => simp [intOf]; omega
    · clear hFl hnx
      go_wp2
      go_ret
      exact ⟨_, rfl, fun i hi => HFl.out.cell i (by omega), ((Below.refl _ _).alloc (Nat.le_refl _) _).trans (HX.out.mono (by omega))⟩
end Go.Proofs.Qxb6002357aDoor
