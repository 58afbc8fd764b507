/-
  errors.as AT A TREE.
-/
import Derived.Test.Qxb6002357aDoorUnwrap
namespace Go.Proofs.Qxb6002357aDoor
open Go.RowKit Go.Extern.Stop Go.Stop Go.Extern

/-- What Unwrap of the tree V answers, in whatever world that grew out of w. -/
def UnAt (V : Value) (n : Nat) (chld : Nat → Value) (w : World) : Prop :=
  ∀ W, Below w.heap.size w W → Calls Tryd.prog 36 #[V] W fun e w' => ∃ g, e = .returned (.slice (some ⟨g, 0, none⟩) n n) ∧ (∀ i, i < n → w'.cell? ⟨g, i, none⟩ = some (chld i)) ∧ Below W.heap.size W w'

set_option maxHeartbeats 4000000 in
theorem as_tree (V : Value) (n : Nat) (chld : Nat → Value) (hit : Nat → Bool) (txt : Nat → ByteArray) (h : Bool) (s : ByteArray) (a t : Addr) (old : Value) (w : World) (hn : n ≤ 1000)
    (hS : Hid (Sel hit txt n h s)) (hch : Hid (∀ i, i < n → ∃ d, d ≤ 3 ∧ chld i = cv d (txt i) (hit i))) (hU : Hid (UnAt V n chld w))
    (ha : w.cell? a = some (.pointer (some t))) (ht : w.cell? t = some old) (hf : w.frozen? t = false) :
    Calls Tryd.prog 14 #[.iface 31 V, .iface 34 (.pointer (some t)), .agg #[.pointer (some ⟨1, 34, none⟩), .pointer (some a), .int .u64 150], .iface 54 (.agg #[.pointer (some ⟨1, 32, none⟩)])] w fun e w' =>
      e = .returned (.bool h) ∧ AsEnd h s t w w' := by
  have hal := World.block_lt_of_cell? w _ ha
  have htl := World.block_lt_of_cell? w _ ht
  have HA := Lib.hid ha
  have HT := Lib.hid ht
  have HF := Lib.hid hf
  clear ha ht hf
  have h15 := ext15
  have h45 := ext45
  have mA := methodAssignableTo
  have tO := typeOf31
  have aS := assignable31
  have n1 := noAs31
  have n2 := noUn31
  have n3 := hasMany31
  have mU := methodUnwrap31
  go_enter Tryd.func14, Tryd.ntmps14
  go_wp2
  refine wp_loop_rounds 1 ?_
  rw [rounds_succ]
  go_wp2_with fail
  have hb0 : Below w.heap.size w (boxed a w) := (Below.refl _ _).alloc (Nat.le_refl _) _
  refine (hU.out _ hb0).mono ?_
  rintro e w2 ⟨g, rfl, hcs, hb2⟩
  have hb2' : Below (w.heap.size + 1) (boxed a w) w2 := hb2.mono (by simp)
  have hsz2 : w.heap.size + 1 ≤ w2.heap.size := by have := hb2'.size; simpa using this
  have HC := Lib.hid hcs
  have HX2 := Lib.hid hb2'
  clear hcs hb2 hb2' h15 h45 mA tO aS n1 n2 n3 mU
  go_wp2
  go_loopw [50] (fun vj wr => ∃ j : Nat, j ≤ n ∧ vj = .int .i64 (j : Int) ∧ Hid (∀ i, i < j → hit i = false) ∧ Below w2.heap.size w2 wr) (fun vj _ => n - (intOf vj).toNat)
  case atStart => exact ⟨0, Nat.zero_le _, rfl, fun i hi => absurd hi (Nat.not_lt_zero i), Below.refl _ _⟩
  case round =>
    obtain ⟨j, hj, rfl, hno, hnx⟩ := hrel
    have hB : Below (w.heap.size + 1) (boxed a w) wr := HX2.out.trans (hnx.mono hsz2)
    have hszr : w.heap.size + 1 ≤ wr.heap.size := by have := hB.size; simpa using this
    have c0 : wr.cell? ⟨w.heap.size, 0, none⟩ = some (.pointer (some ⟨1, 34, none⟩)) := by rw [hB.cell (by simp)]; simp
    have c1 : wr.cell? ⟨w.heap.size, 1, none⟩ = some (.pointer (some a)) := by rw [hB.cell (by simp)]; simp
    have c2 : wr.cell? ⟨w.heap.size, 2, none⟩ = some (.int .u64 150) := by rw [hB.cell (by simp)]; simp
    have HX := Lib.hid hnx
    have HB := Lib.hid hB
    clear hnx hB
    by_cases hlt : j < n
    · obtain ⟨d, hd, hcv⟩ := hch.out j hlt
      have c := HC.out j hlt
      rw [hcv] at c
      have cj : wr.cell? ⟨g, j, none⟩ = some (cv d (txt j) (hit j)) := by rw [HX.out.cell (World.block_lt_of_cell? w2 _ c)]; exact c
      have ba : wr.cell? a = some (.pointer (some t)) := by rw [HB.out.cell (by omega), World.cell?_alloc_lt _ _ a hal]; exact HA.out
      have bt : wr.cell? t = some old := by rw [HB.out.cell (by omega), World.cell?_alloc_lt _ _ t htl]; exact HT.out
      have bf : wr.frozen? t = false := by rw [HB.out.frozen (by omega), World.frozen?_alloc_old _ _ t (Nat.ne_of_lt htl)]; exact HF.out
      have KEY := Lib.hid (as_chain d (txt j) (hit j) a t old wr (by omega) ba bt bf)
      clear c hcv ba bt bf
      rcases hh : hit j with _ | _
      · rw [hh] at cj KEY
        have nn := nilCv d (txt j) false
        have ng := guardCv d (txt j) false
        have HH := Lib.hid hh
        clear hh
        go_wp2_with fail
        refine KEY.out.mono ?_
        rintro e w3 ⟨rfl, he⟩
        go_wp2
        go_roundw
        case rel => exact ⟨j + 1, by omega, by go_num, fun i hi => by
          by_cases e : i = j
          · subst e; exact HH.out
          · exact hno.out i (by omega), HX.out.trans (Below.mono he HX.out.size)⟩
        case measure => simp [intOf]; omega
      · rw [hh] at cj KEY
        have nn := nilCv d (txt j) true
        have ng := guardCv d (txt j) true
        have HH := Lib.hid hh
        clear hh
        go_wp2_with fail
        refine KEY.out.mono ?_
        rintro e w3 ⟨rfl, he⟩
        go_wp2
        go_ret
        obtain ⟨e1, e2⟩ := hS.out.hitAt hlt HH.out hno.out
        subst e1 e2
        exact ⟨rfl, AsEnd.up he (hb0.trans (HB.out.mono (by omega)))⟩
    · have e1 := hS.out.noHit (fun i hi => hno.out i (by omega))
      have E1 := Lib.hid e1
      clear e1
      go_wp2
      go_ret
      have e1 := E1.out
      subst e1
      exact ⟨rfl, hb0.trans (HB.out.mono (by omega))⟩
end Go.Proofs.Qxb6002357aDoor
