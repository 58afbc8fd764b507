/-
  THE LAW FnReasonFoundThroughAnyChain, walked.
-/
import Derived.Test.Qxb6002357aDoorReason
namespace Go.Proofs.Qxb6002357aDoor
open Go.RowKit

theorem zz5_any (s : ByteArray) (d : Int) (h : Bool) (w : World) :
    Calls Tryd.prog 5 #[.string s, .int .u8 d, .bool h] w fun e w' => (∃ b, e = .returned (.bool b)) ∧ w' = w := by
  go_enter Tryd.func5, Tryd.ntmps5
  go_wp2
  all_goals
    go_ret
    exact ⟨⟨_, rfl⟩, rfl⟩

/-- zzChain. -/
theorem zzChain_any (d : Nat) (s : ByteArray) (h : Bool) (w : World) (hd : d ≤ 1000) :
    Calls Tryd.prog 7 #[.int .i64 (d : Int), .string s, .bool h] w fun e w' => e = .returned (cv d s h) ∧ w' = w := by
  cases d with
  | zero =>
    cases h
    · go_enter Tryd.func7, Tryd.ntmps7
      go_wp2
      go_ret
      exact ⟨rfl, rfl⟩
    · go_enter Tryd.func7, Tryd.ntmps7
      go_wp2_with (go_at_call 10; refine (zzReason_any _ _).mono ?_; rintro e w' ⟨rfl, rfl⟩)
      go_ret
      exact ⟨rfl, rfl⟩
  | succ k =>
    go_enter Tryd.func7, Tryd.ntmps7
    go_wp2
    go_ret
    exact ⟨rfl, rfl⟩

theorem notNil_cv (d : Nat) (s : ByteArray) (h : Bool) : NotNil (cv d s h) := ⟨nilCv d s h, fun x y w => guardCv d s h x y w⟩

/-- Reason at a chain. -/
theorem reason_chain (d : Nat) (s : ByteArray) (h : Bool) (w : World) (hd : d ≤ 1000) (hg : w.cell? ⟨0, 0, none⟩ = some (.iface 54 (.agg #[.pointer (some ⟨1, 25, none⟩)]))) :
    Calls Tryd.prog 6 #[cv d s h] w fun e w' => e = .returned (.string (pick h s)) ∧ Below w.heap.size w w' :=
  reason_of (cv d s h) h s w (notNil_cv d s h) hg (fun a W _ ha ht hf => as_chain d s h a _ _ W hd ha ht hf)

theorem ret_true {b : Bool} (h : b = true) : Ending.returned (.bool b) = .returned (.bool true) := by rw [h]

theorem law_chain (s : ByteArray) (d : Nat) (h : Bool) (w : World) (hg : w.cell? ⟨0, 0, none⟩ = some (.iface 54 (.agg #[.pointer (some ⟨1, 25, none⟩)]))) :
    Calls Tryd.prog 3 #[.string s, .int .u8 (d : Int), .bool h] w fun e w' => e = .returned (.bool true) ∧ Below w.heap.size w w' := by
  by_cases h0 : s.size ≤ 65536
  · by_cases h1 : d ≤ 64
    · have hgl := World.block_lt_of_cell? w _ hg
      have HG := Lib.hid hg
      clear hg
      cases h
      all_goals
        go_enter Tryd.func3, Tryd.ntmps3
        go_wp2_with (go_at_call 5; refine (zz5_any _ _ _ _).mono ?_; rintro e w' ⟨⟨b, rfl⟩, rfl⟩; cases b)
        · go_ret
          exact ⟨rfl, Below.refl _ _⟩
        · refine (reason_nil _).mono ?_
          rintro e w1 ⟨rfl, hb1⟩
          go_wp2_with fail
          refine (zzChain_any d s _ _ (by omega)).mono ?_
          rintro e w' ⟨rfl, rfl⟩
          go_wp2_with fail
          refine (reason_chain d s _ _ (by omega) (by rw [hb1.cell hgl]; exact HG.out)).mono ?_
          rintro e w2 ⟨rfl, hb2⟩
          go_wp2
          go_ret
          exact ⟨ret_true (by simp [pick]), hb1.trans (hb2.mono hb1.size)⟩
    · go_enter Tryd.func3, Tryd.ntmps3
      go_wp2_with (go_at_call 5; refine (zz5_any _ _ _ _).mono ?_; rintro e w' ⟨⟨b, rfl⟩, rfl⟩; cases b)
      all_goals
        go_ret
        exact ⟨rfl, Below.refl _ _⟩
  · go_enter Tryd.func3, Tryd.ntmps3
    go_wp2_with (go_at_call 5; refine (zz5_any _ _ _ _).mono ?_; rintro e w' ⟨⟨b, rfl⟩, rfl⟩; cases b)
    all_goals
      go_ret
      exact ⟨rfl, Below.refl _ _⟩
end Go.Proofs.Qxb6002357aDoor
