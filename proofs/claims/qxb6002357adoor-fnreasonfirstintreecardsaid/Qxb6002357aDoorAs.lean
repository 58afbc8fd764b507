/-
  errors.as OVER THE CHAINS OF THE LAWS.
-/
import Derived.Test.Qxb6002357aDoorFacts
import Derived.Deep.LoopGhost
namespace Go.Proofs.Qxb6002357aDoor
open Go.RowKit Go.Extern.Stop Go.Stop Go.Extern

/-- The error at the head of a chain of d wrappings, over a reason of text s (h) or over a leaf. -/
def cv (d : Nat) (s : ByteArray) (h : Bool) : Value :=
  match d, h with
  | 0, true => .iface 32 (.string s)
  | 0, false => .iface 37 (.agg #[])
  | k + 1, h => .iface 39 (.agg #[.int .i64 (k : Int), .string s, .bool h])

theorem nil32 (v : Value) (w : World) : (binOp .eql 25 (.iface 32 v) .nilIface).run Tryd.prog w = .ok (.bool false) w := by kernel_rfl
theorem nil37 (v : Value) (w : World) : (binOp .eql 25 (.iface 37 v) .nilIface).run Tryd.prog w = .ok (.bool false) w := by kernel_rfl
theorem nil39 (v : Value) (w : World) : (binOp .eql 25 (.iface 39 v) .nilIface).run Tryd.prog w = .ok (.bool false) w := by kernel_rfl
/-- No link is nil. -/
theorem nilCv (d : Nat) (s : ByteArray) (h : Bool) (w : World) : (binOp .eql 25 (cv d s h) .nilIface).run Tryd.prog w = .ok (.bool false) w := by
  cases d with
  | zero => cases h; exact nil37 _ _; exact nil32 _ _
  | succ k => exact nil39 _ _

theorem guard32 (x y : Operand) (v : Value) (w : World) : (eqGuard .eql 25 x y (.iface 32 v) .nilIface).run Tryd.prog w = .ok () w := by kernel_rfl
theorem guard37 (x y : Operand) (v : Value) (w : World) : (eqGuard .eql 25 x y (.iface 37 v) .nilIface).run Tryd.prog w = .ok () w := by kernel_rfl
theorem guard39 (x y : Operand) (v : Value) (w : World) : (eqGuard .eql 25 x y (.iface 39 v) .nilIface).run Tryd.prog w = .ok () w := by kernel_rfl
theorem guardCv (d : Nat) (s : ByteArray) (h : Bool) (x y : Operand) (w : World) : (eqGuard .eql 25 x y (cv d s h) .nilIface).run Tryd.prog w = .ok () w := by
  cases d with
  | zero => cases h; exact guard37 _ _ _ _; exact guard32 _ _ _ _
  | succ k => exact guard39 _ _ _ _

theorem zzReason_any (s : ByteArray) (w : World) : Calls Tryd.prog 10 #[.string s] w fun e w' => e = .returned (.iface 32 (.string s)) ∧ w' = w := by
  go_enter Tryd.func10, Tryd.ntmps10
  go_wp2
  go_ret
  exact ⟨rfl, rfl⟩

/-- (zzWrap).Unwrap: the next link. -/
theorem unwrap_any (k : Nat) (s : ByteArray) (h : Bool) (w : World) (hk : k ≤ 1000000) :
    Calls Tryd.prog 40 #[.agg #[.int .i64 (k : Int), .string s, .bool h]] w fun e w' => e = .returned (cv k s h) ∧ Below w.heap.size w w' := by
  cases k with
  | zero =>
    cases h
    · go_enter Tryd.func40, Tryd.ntmps40
      go_wp2
      go_ret
      exact ⟨rfl, (Below.refl _ _).alloc (Nat.le_refl _) _⟩
    · go_enter Tryd.func40, Tryd.ntmps40
      go_wp2_with (go_at_call 10; refine (zzReason_any _ _).mono ?_; rintro e w' ⟨rfl, rfl⟩)
      go_ret
      exact ⟨rfl, (Below.refl _ _).alloc (Nat.le_refl _) _⟩
  | succ k =>
    go_enter Tryd.func40, Tryd.ntmps40
    go_wp2
    go_ret
    exact ⟨rfl, (Below.refl _ _).alloc (Nat.le_refl _) _⟩

theorem below_set {B : Nat} {w W : World} (h : Below B w W) (t : Addr) (v : Value) : Below B (w.setCell t v) (W.setCell t v) :=
  ⟨h.os, h.tape, h.output, by simpa [World.setCell] using h.size, fun k hk => by
    simp only [World.setCell, Array.getElem?_modify]
    rw [h.block k hk]⟩

/-- What errors.as leaves: the target set (h), or nothing old turned. -/
def AsEnd (h : Bool) (s : ByteArray) (t : Addr) (w w' : World) : Prop := Below w.heap.size (if h = true then w.setCell t (.string s) else w) w'

/-- The world behind the box of errors.as's parameter. -/
abbrev boxed (a : Addr) (w : World) : World := w.alloc (.cells #[.pointer (some ⟨1, 34, none⟩), .pointer (some a), .int .u64 150] 43)

set_option maxHeartbeats 4000000 in
/-- errors.as at a chain. -/
theorem as_chain (d : Nat) (s : ByteArray) (h : Bool) (a t : Addr) (old : Value) (w : World) (hd : d ≤ 1000) (ha : w.cell? a = some (.pointer (some t))) (ht : w.cell? t = some old) (hf : w.frozen? t = false) :
    Calls Tryd.prog 14 #[cv d s h, .iface 34 (.pointer (some t)), .agg #[.pointer (some ⟨1, 34, none⟩), .pointer (some a), .int .u64 150], .iface 54 (.agg #[.pointer (some ⟨1, 32, none⟩)])] w fun e w' =>
      e = .returned (.bool h) ∧ AsEnd h s t w w' := by
  have hal := World.block_lt_of_cell? w _ ha
  have htl := World.block_lt_of_cell? w _ ht
  have HA : Hid (w.cell? a = some (.pointer (some t))) := ha
  have HT : Hid (w.cell? t = some old) := ht
  have HF : Hid (w.frozen? t = false) := hf
  clear ha ht hf
  go_enter Tryd.func14, Tryd.ntmps14
  go_wp2
  go_loopg [0] d (fun g e wr => e = cv g s h ∧ g ≤ d ∧ Below (w.heap.size + 1) (boxed a w) wr)
  case atStart => exact ⟨rfl, Nat.le_refl _, Below.refl _ _⟩
  case round =>
    obtain ⟨rfl, hg, hnx⟩ := hrel
    have hsz : w.heap.size + 1 ≤ wr.heap.size := by have := hnx.size; simpa using this
    have ba : wr.cell? a = some (.pointer (some t)) := by rw [hnx.cell (by omega), World.cell?_alloc_lt _ _ a hal]; exact HA.out
    have bt : wr.cell? t = some old := by rw [hnx.cell (by omega), World.cell?_alloc_lt _ _ t htl]; exact HT.out
    have bf : wr.frozen? t = false := by rw [hnx.frozen (by omega), World.frozen?_alloc_old _ _ t (Nat.ne_of_lt htl)]; exact HF.out
    have c0 : wr.cell? ⟨w.heap.size, 0, none⟩ = some (.pointer (some ⟨1, 34, none⟩)) := by rw [hnx.cell (by simp)]; simp
    have c1 : wr.cell? ⟨w.heap.size, 1, none⟩ = some (.pointer (some a)) := by rw [hnx.cell (by simp)]; simp
    have c2 : wr.cell? ⟨w.heap.size, 2, none⟩ = some (.int .u64 150) := by rw [hnx.cell (by simp)]; simp
    have h15 := ext15
    have h45 := ext45
    have mA := methodAssignableTo
    cases gk with
    | zero =>
      cases h
      · have tO := typeOf37
        have aS := assignable37
        have n1 := noAs37
        have n2 := noUn37
        have n3 := noMany37
        clear ba bt bf c0 c1 c2
        rw [show cv 0 s false = .iface 37 (.agg #[]) from rfl]
        go_wp2
        go_ret
        exact ⟨rfl, ((Below.refl _ _).alloc (Nat.le_refl _) _).trans (hnx.mono (by omega))⟩
      · have tO := typeOf32
        have aS := assignable32
        have h16 := ext16
        have h11 := ext11
        have h17 := ext17
        have vO := valueOf32
        have el := elemV34 a t wr ba
        have st := set32 t ⟨wr.heap.size, 0, none⟩ s old (wr.alloc (.cells #[.string s] 32))
          (by rw [World.cell?_alloc_at _ _ _ _ rfl]; rfl)
          (by rw [World.cell?_alloc_lt _ _ t (by omega)]; exact bt)
          (by rw [World.frozen?_alloc_old _ _ t (by omega)]; exact bf)
        rw [show cv 0 s true = .iface 32 (.string s) from rfl]
        go_wp2
        go_ret
        exact ⟨rfl, below_set ((((Below.refl _ _).alloc (Nat.le_refl _) _).trans (hnx.mono (by omega))).alloc (by omega) _) t _⟩
    | succ k =>
      have tO := typeOf39
      have aS := assignable39
      have n1 := noAs39
      have n2 := hasUn39
      have mU := methodUnwrap39
      have nn := nilCv k s h
      have ng := guardCv k s h
      clear ba bt bf c0 c1 c2
      rw [show cv (k + 1) s h = .iface 39 (.agg #[.int .i64 (k : Int), .string s, .bool h]) from rfl]
      go_wp2_with (go_at_call 40; refine (unwrap_any k s h _ (by omega)).mono ?_; rintro e w' ⟨rfl, hb⟩)
      go_roundg k
      case measure => omega
      case rel => exact ⟨rfl, by omega, hnx.trans (hb.mono (by omega))⟩
end Go.Proofs.Qxb6002357aDoor
