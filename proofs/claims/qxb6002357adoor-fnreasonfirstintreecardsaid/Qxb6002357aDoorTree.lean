/-
  THE LAW FnReasonFirstInTree, walked.
-/
import Derived.Test.Qxb6002357aDoorAsTree
import Derived.Test.Qxb6002357aDoorChain
import Derived.Deep.DeepCutAuto
namespace Go.Proofs.Qxb6002357aDoor
open Go.RowKit

/-- The texts that came in: none, or a row of strings. -/
def InT (w : World) (a : Option Addr) (l : Nat) (ts : List ByteArray) : Prop :=
  l = 0 ∨ ∃ b off, a = some ⟨b, off, none⟩ ∧ ∀ i, i < l → w.cell? ⟨b, off + i, none⟩ = some (.string (ts.getD i ⟨#[]⟩))
/-- The kinds that came in: none, or a row of bytes. -/
def InK (w : World) (a : Option Addr) (l : Nat) (ks : List Int) : Prop :=
  l = 0 ∨ ∃ b off, a = some ⟨b, off, none⟩ ∧ ∀ i, i < l → w.cell? ⟨b, off + i, none⟩ = some (.int .u8 (ks.getD i 0))

/-- A bool; where it is true no text is longer than 1<<20 bytes. -/
def Zz (e : Ending) (l : Nat) (ts : List ByteArray) : Prop := ∃ b, e = .returned (.bool b) ∧ (b = true → ∀ i, i < l → (ts.getD i ⟨#[]⟩).size ≤ 1048576)
theorem Zz.no {l : Nat} {ts : List ByteArray} : Zz (.returned (.bool false)) l ts := ⟨false, rfl, fun h => by cases h⟩

set_option maxHeartbeats 1000000 in
theorem zz8_any (a0 a1 : Option Addr) (l0 c0 l1 c1 : Nat) (ts : List ByteArray) (w : World) (h0 : l0 ≤ maxLen) (h1 : l1 ≤ maxLen) (hT : InT w a1 l1 ts) (hs : ∀ i, (ts.getD i ⟨#[]⟩).size ≤ maxLen) :
    Calls Tryd.prog 8 #[.slice a0 l0 c0, .slice a1 l1 c1] w fun e w' => Zz e l1 ts ∧ w' = w := by
  unfold maxLen at h0 h1 hs
  have HS := Lib.hid hs
  have HT := Lib.hid hT
  clear hs hT
  go_enter Tryd.func8, Tryd.ntmps8
  go_wp2
  · go_ret
    exact ⟨Zz.no, rfl⟩
  · go_ret
    exact ⟨Zz.no, rfl⟩
  · go_ret
    exact ⟨Zz.no, rfl⟩
  · go_loop [5, 6] (fun vz vi => ∃ (z k : Nat), z ≤ 1048576 ∧ k ≤ l1 ∧ vz = .int .i64 (z : Int) ∧ vi = .int .i64 (k : Int) ∧ Hid (∀ i, i < k → (ts.getD i ⟨#[]⟩).size ≤ 1048576)) (fun _ vi => l1 - (intOf vi).toNat)
    case atStart => exact ⟨l0 + l1, 0, by omega, Nat.zero_le _, by go_num, rfl, fun i hi => absurd hi (Nat.not_lt_zero i)⟩
    case round =>
      obtain ⟨z, k, hz, hk, rfl, rfl, HL⟩ := hrel
      by_cases hlt : k < l1
      · obtain ⟨b, off, rfl, hc⟩ := HT.out.resolve_left (by omega)
        have hck := hc k hlt
        have hsk := HS.out k
        clear hc
        obtain ⟨s, hsd⟩ : ∃ s, s = ts.getD k ⟨#[]⟩ := ⟨_, rfl⟩
        rw [← hsd] at hck hsk
        have HD := Lib.hid hsd
        clear hsd
        go_wp2
        · go_ret
          exact ⟨Zz.no, rfl⟩
        · go_ret
          exact ⟨Zz.no, rfl⟩
        · go_round
          case rel => exact ⟨z + s.size, k + 1, by omega, by omega, by go_num, by go_num, fun i hi => by
            by_cases e : i = k
            · subst e; rw [← HD.out]; omega
            · exact HL.out i (by omega)⟩
          case measure => simp [intOf]; omega
      · go_wp2
        go_ret
        exact ⟨⟨true, rfl, fun _ i hi => HL.out i (by omega)⟩, rfl⟩
end Go.Proofs.Qxb6002357aDoor
