/-
  Reason AT A TREE.
-/
import Derived.Test.Qxb6002357aDoorTree
namespace Go.Proofs.Qxb6002357aDoor
open Go.RowKit

/-- A copy of the call's own, of l cells f 0, f 1, ..: in a block from B on, or empty. -/
def Own (B : Nat) (w : World) (a : Option Addr) (l : Nat) (f : Nat → Value) : Prop :=
  l = 0 ∨ ∃ g, a = some ⟨g, 0, none⟩ ∧ B ≤ g ∧ ∀ i, i < l → w.cell? ⟨g, i, none⟩ = some (f i)

set_option maxHeartbeats 1000000 in
/-- (zzTree).Unwrap of a tree without children. -/
theorem unwrap_zero (ak at9 : Option Addr) (lk ck lt ct : Nat) (w : World) :
    Calls Tryd.prog 36 #[.agg #[.slice ak lk ck, .slice at9 lt ct, .int .i64 0]] w fun e w' => ∃ g, e = .returned (.slice (some ⟨g, 0, none⟩) 0 0) ∧ Below w.heap.size w w' := by
  obtain ⟨i0, hi, hz0, hz1, hz2⟩ := info_parts info25
  go_enter Tryd.func36, Tryd.ntmps36
  go_wp2_with (at_make; refine wpList_make_full _ rfl _ _ 65 rfl (w.heap.size + 1) 25 i0 .nilIface 1 Tryd.underlying65 hi hz0 hz1 _ _ _ _ 0 rfl rfl rfl rfl (by rw [hz2]; omega) (by unfold maxLen; omega) (by simp) ?_)
  intro w1 hown hgrow
  have hb1 : Below (w.heap.size + 1) (w.alloc (.cells #[.slice ak lk ck, .slice at9 lt ct, .int .i64 0] 31)) w1 := (Below.refl _ _).grown hgrow (by simp) (fun k h => by cases h)
  have c2 : w1.cell? ⟨w.heap.size, 2, none⟩ = some (.int .i64 0) := by rw [hb1.cell (by simp)]; simp
  clear hown hgrow
  go_wp2
  refine wp_loop_rounds 1 ?_
  rw [rounds_succ]
  go_wp2
  go_ret
  exact ⟨_, rfl, ((Below.refl _ _).alloc (Nat.le_refl _) _).trans (hb1.mono (by omega))⟩

theorem nil31 (v : Value) (w : World) : (binOp .eql 25 (.iface 31 v) .nilIface).run Tryd.prog w = .ok (.bool false) w := by kernel_rfl
theorem guard31 (x y : Operand) (v : Value) (w : World) : (eqGuard .eql 25 x y (.iface 31 v) .nilIface).run Tryd.prog w = .ok () w := by kernel_rfl
theorem notNil31 (v : Value) : NotNil (.iface 31 v) := ⟨nil31 v, fun x y w => guard31 x y v w⟩

/-- Does child j bear a reason? -/
def hitAt (ks : List Int) (j : Nat) : Bool := hitOf (ks.getD j 0 % 4)

/-- Reason at a tree of n children: the text of the first that bears a reason, or none. -/
theorem reason_tree (B B' : Nat) (ak at9 : Option Addr) (l0 l1 n : Nat) (ks : List Int) (ts : List ByteArray) (h : Bool) (s : ByteArray) (w : World) (hn : n ≤ 1000) (hk : n ≤ l0) (ht : n ≤ l1)
    (hOK : Own B w ak l0 (fun i => .int .u8 (ks.getD i 0))) (hOT : Own B' w at9 l1 (fun i => .string (ts.getD i ⟨#[]⟩))) (kb : ∀ i, 0 ≤ ks.getD i 0 ∧ ks.getD i 0 ≤ 255)
    (hS : Sel (hitAt ks) (fun i => ts.getD i ⟨#[]⟩) n h s) (hg : w.cell? ⟨0, 0, none⟩ = some (.iface 54 (.agg #[.pointer (some ⟨1, 25, none⟩)]))) :
    Calls Tryd.prog 6 #[.iface 31 (.agg #[.slice ak l0 l0, .slice at9 l1 l1, .int .i64 (n : Int)])] w fun e w' => e = .returned (.string (pick h s)) ∧ Below w.heap.size w w' := by
  refine reason_of _ h s w (notNil31 _) hg ?_
  intro a W hb ha htc hf
  have hbw : Below w.heap.size w W := ((Below.refl _ _).alloc (Nat.le_refl _) _).trans (hb.mono (by simp))
  refine as_tree _ n (child ks ts) (hitAt ks) (fun i => ts.getD i ⟨#[]⟩) h s a _ _ W hn hS (fun i _ => childOf_cv _ _) ?_ ha htc hf
  intro W2 hb2
  have hb3 : Below w.heap.size w W2 := hbw.trans (hb2.mono hbw.size)
  by_cases hz : n = 0
  · subst hz
    exact (unwrap_zero ak at9 l0 l0 l1 l1 W2).mono fun e w' ⟨g, he, hw⟩ => ⟨g, he, fun i hi => absurd hi (Nat.not_lt_zero i), hw⟩
  · obtain ⟨gk, rfl, _, ck⟩ := hOK.resolve_left (by omega)
    obtain ⟨gt, rfl, _, ct⟩ := hOT.resolve_left (by omega)
    exact unwrap_tree ks ts gk gt l0 l1 n W2 hn hk ht
      (fun i hi => by rw [hb3.cell (World.block_lt_of_cell? w _ (ck i (by omega)))]; exact ck i (by omega))
      (fun i hi => by rw [hb3.cell (World.block_lt_of_cell? w _ (ct i (by omega)))]; exact ct i (by omega)) kb
end Go.Proofs.Qxb6002357aDoor
