/-
  errors.As AND Reason, OVER WHATEVER errors.as ANSWERS.
-/
import Derived.Test.Qxb6002357aDoorAs
import Derived.Lib.Hide
namespace Go.Proofs.Qxb6002357aDoor
open Go.RowKit Go.Extern.Stop Go.Stop Go.Extern

/-- errors.as at the error E and the target t, called in whatever world that grew out of w: it answers h, and where h it sets t to s. -/
def AsAt (E : Value) (h : Bool) (s : ByteArray) (t : Addr) (old : Value) (w : World) : Prop :=
  ∀ (a : Addr) (W : World), Below w.heap.size w W → W.cell? a = some (.pointer (some t)) → W.cell? t = some old → W.frozen? t = false →
    Calls Tryd.prog 14 #[E, .iface 34 (.pointer (some t)), .agg #[.pointer (some ⟨1, 34, none⟩), .pointer (some a), .int .u64 150], .iface 54 (.agg #[.pointer (some ⟨1, 32, none⟩)])] W fun e w' => e = .returned (.bool h) ∧ AsEnd h s t W w'

/-- E is not nil. -/
def NotNil (E : Value) : Prop := (∀ w, (binOp .eql 25 E .nilIface).run Tryd.prog w = .ok (.bool false) w) ∧ ∀ x y w, (eqGuard .eql 25 x y E .nilIface).run Tryd.prog w = .ok () w

theorem AsEnd.up {h : Bool} {s : ByteArray} {t : Addr} {w W w' : World} (he : AsEnd h s t W w') (hb : Below w.heap.size w W) : AsEnd h s t w w' := by
  unfold AsEnd at he ⊢
  cases h
  · exact hb.trans (Below.mono he hb.size)
  · exact (below_set hb t _).trans (Below.mono he hb.size)
theorem AsEnd.cell_hit {s : ByteArray} {t : Addr} {w w' : World} (he : AsEnd true s t w w') (ht : ∃ u, w.cell? t = some u) : w'.cell? t = some (.string s) := by
  obtain ⟨u, hu⟩ := ht
  have hb : Below w.heap.size (w.setCell t (.string s)) w' := he
  rw [hb.cell (World.block_lt_of_cell? w _ hu)]
  exact World.cell?_setCell_same _ _ _ hu

set_option maxHeartbeats 4000000 in
theorem As_of (E : Value) (h : Bool) (s : ByteArray) (t : Addr) (old : Value) (w : World) (hE : NotNil E) (hg : w.cell? ⟨0, 0, none⟩ = some (.iface 54 (.agg #[.pointer (some ⟨1, 25, none⟩)])))
    (ht : w.cell? t = some old) (hf : w.frozen? t = false) (has : Hid (AsAt E h s t old w)) :
    Calls Tryd.prog 9 #[E, .iface 34 (.pointer (some t))] w fun e w' => e = .returned (.bool h) ∧ AsEnd h s t w w' := by
  obtain ⟨nn, ng⟩ := hE
  have hgl := World.block_lt_of_cell? w _ hg
  have htl := World.block_lt_of_cell? w _ ht
  have hg2 : ((w.alloc (.cells #[.pointer (some t)] 34)).alloc (.cells #[.pointer (some ⟨1, 34, none⟩), .pointer (some ⟨w.heap.size, 0, none⟩), .int .u64 150] 43)).cell? ⟨0, 0, none⟩ = some (.iface 54 (.agg #[.pointer (some ⟨1, 25, none⟩)])) := by
    rw [World.cell?_alloc_lt _ _ ⟨0, 0, none⟩ (by simp), World.cell?_alloc_lt _ _ ⟨0, 0, none⟩ hgl]; exact hg
  have h11 := ext11
  have h12 := ext12
  have h13 := ext13
  have h32 := ext32
  have h47 := ext47
  have h48 := ext48
  have vO := valueOf34
  have ty := type34
  have mK := methodKind
  have mE := methodElem
  have mI := methodImplements
  have k34 := kind34
  have k32 := kind32
  have e34 := elem34
  have i32 := implements32
  have n13 := isNil34 ⟨w.heap.size, 0, none⟩ t ((w.alloc (.cells #[.pointer (some t)] 34)).alloc (.cells #[.pointer (some ⟨1, 34, none⟩), .pointer (some ⟨w.heap.size, 0, none⟩), .int .u64 150] 43)) (by simp)
  go_enter Tryd.func9, Tryd.ntmps9
  go_wp2_with fail
  have hbW : Below w.heap.size w ((w.alloc (.cells #[.pointer (some t)] 34)).alloc (.cells #[.pointer (some ⟨1, 34, none⟩), .pointer (some ⟨w.heap.size, 0, none⟩), .int .u64 150] 43)) := ((Below.refl _ _).alloc (Nat.le_refl _) _).alloc (by simp) _
  refine (has.out ⟨w.heap.size, 0, none⟩ _ hbW (by simp) (by rw [hbW.cell htl]; exact ht) (by rw [hbW.frozen htl]; exact hf)).mono ?_
  rintro e w' ⟨rfl, he⟩
  have he2 : AsEnd h s t w w' := he.up hbW
  clear he hg2 hg ht hf nn ng h11 h12 h13 h32 h47 h48 vO ty mK mE mI k34 k32 e34 i32 n13
  go_wp2
  go_ret
  exact ⟨rfl, he2⟩

/-- The text that Reason gives. -/
def pick (h : Bool) (s : ByteArray) : ByteArray := if h = true then s else ⟨#[]⟩

/-- errors.As(nil, ..), Reason(nil). -/
theorem reason_nil (w : World) : Calls Tryd.prog 6 #[.nilIface] w fun e w' => e = .returned (.string ⟨#[]⟩) ∧ Below w.heap.size w w' := by
  go_enter Tryd.func6, Tryd.ntmps6
  go_wp2_with (go_at_call 9; refine (as_nil _ _).mono ?_; rintro e w' ⟨rfl, rfl⟩)
  go_ret
  exact ⟨rfl, (Below.refl _ _).alloc (Nat.le_refl _) _⟩

theorem reason_of (E : Value) (h : Bool) (s : ByteArray) (w : World) (hE : NotNil E) (hg : w.cell? ⟨0, 0, none⟩ = some (.iface 54 (.agg #[.pointer (some ⟨1, 25, none⟩)])))
    (has : Hid (AsAt E h s ⟨w.heap.size, 0, none⟩ (.string ⟨#[]⟩) (w.alloc (.cells #[.string ⟨#[]⟩] 32)))) :
    Calls Tryd.prog 6 #[E] w fun e w' => e = .returned (.string (pick h s)) ∧ Below w.heap.size w w' := by
  have hgl := World.block_lt_of_cell? w _ hg
  have key := As_of E h s ⟨w.heap.size, 0, none⟩ (.string ⟨#[]⟩) (w.alloc (.cells #[.string ⟨#[]⟩] 32)) hE (by rw [World.cell?_alloc_lt _ _ ⟨0, 0, none⟩ hgl]; exact hg) (by simp) (by simp) has
  have HK := Lib.hid key
  clear key hE has hg
  cases h
  · go_enter Tryd.func6, Tryd.ntmps6
    go_wp2_with (go_at_call 9; refine HK.out.mono ?_; rintro e w' ⟨rfl, he⟩)
    go_ret
    exact ⟨rfl, ((Below.refl _ _).alloc (Nat.le_refl _) _).trans (Below.mono he (by simp))⟩
  · go_enter Tryd.func6, Tryd.ntmps6
    go_wp2_with (go_at_call 9; refine HK.out.mono ?_; rintro e w' ⟨rfl, he⟩; have hc : w'.cell? ⟨w.heap.size, 0, none⟩ = some (.string s) := he.cell_hit (by simp))
    go_ret
    exact ⟨rfl, (((Below.refl _ _).alloc (Nat.le_refl _) _).setCell (Nat.le_refl _) _).trans (Below.mono he (by simp))⟩
end Go.Proofs.Qxb6002357aDoor
