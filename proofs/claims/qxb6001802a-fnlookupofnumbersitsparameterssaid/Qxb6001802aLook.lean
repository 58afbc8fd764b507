/-
  THE SHARED WALKS OF SEAT b6001802a: lookupOf, its exported alias, the three bounds on the total length, hasSuffix, hasDollar, onlyIndex.
-/
import Derived.Test.Qxb6001802aProg
import Derived.WalkKit
namespace Go.Proofs.Qxb6001802a

def tA : List UInt8 := [10, 83, 69, 76, 69, 67, 84, 32, 101, 120, 112, 105, 114, 101, 115, 95, 97, 116, 32, 62, 32, 115, 116, 97, 116, 101, 109, 101, 110, 116, 95, 116, 105, 109, 101, 115, 116, 97, 109, 112, 40, 41, 44, 32, 99, 111, 97, 108, 101, 115, 99, 101, 40, 108, 101, 97, 115, 101, 95, 117, 110, 116, 105, 108, 32, 62, 32, 115, 116, 97, 116, 101, 109, 101, 110, 116, 95, 116, 105, 109, 101, 115, 116, 97, 109, 112, 40, 41, 44, 32, 102, 97, 108, 115, 101, 41, 44, 10, 9, 102, 105, 110, 103, 101, 114, 112, 114, 105, 110, 116, 44, 32, 115, 116, 97, 116, 117, 115, 44, 32]
def tB : List UInt8 := [44, 32, 98, 111, 100, 121, 44, 32]
def tC : List UInt8 := [44, 32]
def tD : List UInt8 := [10, 70, 82, 79, 77, 32, 111, 110, 99, 101, 103, 117, 97, 114, 100, 95, 107, 101, 121, 115, 32, 87, 72, 69, 82, 69, 32]
def tK : List UInt8 := [97, 99, 99, 111, 117, 110, 116, 32, 61, 32, 36, 49, 32, 65, 78, 68, 32, 107, 101, 121, 32, 61, 32, 36, 50, 32, 65, 78, 68, 32, 107, 101, 121, 95, 115, 111, 117, 114, 99, 101, 32, 73, 78, 32, 40, 45, 49, 44, 32, 36, 51, 41]

/-- What lookupOf computes. -/
def lookS (h n o : ByteArray) : ByteArray := ((((((⟨tA.toArray⟩ ++ h) ++ ⟨tB.toArray⟩) ++ n) ++ ⟨tC.toArray⟩) ++ o) ++ ⟨tD.toArray⟩) ++ ⟨tK.toArray⟩

set_option maxHeartbeats 400000 in
theorem lookupOf_any (h n o : ByteArray) (w : World) (hh : h.size ≤ 262144) (hn : n.size ≤ 262144) (ho : o.size ≤ 262144) :
    Calls Try.prog 13 #[.string h, .string n, .string o] w fun e w' => e = .returned (.string (lookS h n o)) ∧ w' = w := by
  go_enter Try.func13, Try.ntmps13
  go_wp2
  go_ret
  exact ⟨rfl, rfl⟩

theorem ZZlookupOf_any (h n o : ByteArray) (w : World) (hh : h.size ≤ 262144) (hn : n.size ≤ 262144) (ho : o.size ≤ 262144) :
    Calls Try.prog 7 #[.string h, .string n, .string o] w fun e w' => e = .returned (.string (lookS h n o)) ∧ w' = w := by
  go_enter Try.func7, Try.ntmps7
  go_wp2_with (go_at_call 13; refine (lookupOf_any _ _ _ _ hh hn ho).mono ?_; rintro e w' ⟨rfl, rfl⟩)
  go_ret
  exact ⟨rfl, rfl⟩

set_option maxHeartbeats 400000 in
theorem zz6_any (h n o : ByteArray) (w : World) :
    Calls Try.prog 6 #[.string h, .string n, .string o] w fun e w' => (∃ b, e = .returned (.bool b)) ∧ w' = w := by
  go_enter Try.func6, Try.ntmps6
  go_wp2
  all_goals
    go_ret
    exact ⟨⟨_, rfl⟩, rfl⟩

set_option maxHeartbeats 400000 in
theorem zz9_any (h n o : ByteArray) (w : World) :
    Calls Try.prog 9 #[.string h, .string n, .string o] w fun e w' => (∃ b, e = .returned (.bool b)) ∧ w' = w := by
  go_enter Try.func9, Try.ntmps9
  go_wp2
  all_goals
    go_ret
    exact ⟨⟨_, rfl⟩, rfl⟩

set_option maxHeartbeats 400000 in
theorem zz11_any (h n o : ByteArray) (w : World) :
    Calls Try.prog 11 #[.string h, .string n, .string o] w fun e w' => (∃ b, e = .returned (.bool b)) ∧ w' = w := by
  go_enter Try.func11, Try.ntmps11
  go_wp2
  all_goals
    go_ret
    exact ⟨⟨_, rfl⟩, rfl⟩

set_option maxHeartbeats 400000 in
theorem hasSuffix_any (s t : ByteArray) (w : World) (hs : s.size ≤ 16777216) (ht : t.size ≤ s.size) :
    Calls Try.prog 12 #[.string s, .string t] w fun e w' => e = .returned (.bool ((s.extract (s.size - t.size) s.size).toList == t.toList)) ∧ w' = w := by
  go_enter Try.func12, Try.ntmps12
  go_wp2
  go_ret
  exact ⟨rfl, rfl⟩

/-! ### The plain text of lookupOf's answer -/
theorem lookS_data (h n o : ByteArray) : (lookS h n o).data.toList = tA ++ (h.data.toList ++ (tB ++ (n.data.toList ++ (tC ++ (o.data.toList ++ (tD ++ tK)))))) := by
  simp [lookS, ByteArray.data_append]

theorem lookS_size (h n o : ByteArray) : (lookS h n o).size = h.size + n.size + o.size + 209 := by
  have e := congrArg List.length (lookS_data h n o)
  simp only [List.length_append, Array.length_toList] at e
  have ea : tA.length = 120 := by decide
  have eb : tB.length = 8 := by decide
  have ec : tC.length = 2 := by decide
  have ed : tD.length = 27 := by decide
  have ek : tK.length = 52 := by decide
  rw [ea, eb, ec, ed, ek] at e
  show (lookS h n o).data.size = h.data.size + n.data.size + o.data.size + 209
  omega
end Go.Proofs.Qxb6001802a
