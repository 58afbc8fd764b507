/-
  SMALL NOTIONS OF THE TREE's LAW: a row that is filled from its head; which child is chosen.
-/
import Derived.Test.Qxb6002357aDoorReason
namespace Go.Proofs.Qxb6002357aDoor
open Go.RowKit

/-- Block g of w holds n cells that may be written; the first k are f 0, f 1, .. -/
structure Fill (w : World) (g n k : Nat) (f : Nat → Value) : Prop where
  held : ∀ j, j < n → ∃ v, w.cell? ⟨g, j, none⟩ = some v
  free : ∀ j, j < n → w.frozen? ⟨g, j, none⟩ = false
  cell : ∀ j, j < k → w.cell? ⟨g, j, none⟩ = some (f j)

theorem Fill.put {w : World} {g n k : Nat} {f : Nat → Value} (h : Fill w g n k f) (hk : k < n) : Fill (w.setCell ⟨g, k, none⟩ (f k)) g n (k + 1) f := by
  obtain ⟨v, hv⟩ := h.held k hk
  refine ⟨fun j hj => ?_, fun j hj => by rw [World.frozen?_setCell]; exact h.free j hj, fun j hj => ?_⟩
  · by_cases e : k = j
    · subst e; exact ⟨_, World.cell?_setCell_same _ _ _ hv⟩
    · rw [World.cell?_setCell_other _ _ _ _ (fun e' => e (by injection e'))]; exact h.held j hj
  · by_cases e : k = j
    · subst e; exact World.cell?_setCell_same _ _ _ hv
    · rw [World.cell?_setCell_other _ _ _ _ (fun e' => e (by injection e'))]; exact h.cell j (by omega)

/-- A row that 'make' has just laid. -/
theorem Fill.made {w : World} {base e g n : Nat} {xs : List Value} (f : Nat → Value) (h : w.ownsRow base e 1 (.slice (some ⟨g, 0, none⟩) n n) n xs) : Fill w g n 0 f := by
  refine ⟨fun j hj => ?_, fun j _ => h.frozenAt j, fun j hj => absurd hj (Nat.not_lt_zero j)⟩
  have hl : xs.length = n := by have := h.1; omega
  rw [h.cellAt j (by omega)]
  exact ⟨_, List.getElem?_eq_getElem (by omega)⟩

/-- Of another world in which the block is the same. -/
theorem Fill.same {w W : World} {g n k : Nat} {f : Nat → Value} (h : Fill w g n k f) (hb : W.heap[g]? = w.heap[g]?) : Fill W g n k f :=
  ⟨fun j hj => by rw [World.cell?_of_block (w := w) (a := ⟨g, j, none⟩) hb]; exact h.held j hj, fun j hj => by rw [World.frozen?_of_block (w := w) (a := ⟨g, j, none⟩) hb]; exact h.free j hj,
    fun j hj => by rw [World.cell?_of_block (w := w) (a := ⟨g, j, none⟩) hb]; exact h.cell j hj⟩

/-- Among n children the first that bears a reason bears s (h); or none does. -/
def Sel (hit : Nat → Bool) (txt : Nat → ByteArray) (n : Nat) (h : Bool) (s : ByteArray) : Prop :=
  (h = true ∧ ∃ i, i < n ∧ hit i = true ∧ (∀ j, j < i → hit j = false) ∧ s = txt i) ∨ (h = false ∧ ∀ j, j < n → hit j = false)

theorem Sel.ex (hit : Nat → Bool) (txt : Nat → ByteArray) (n : Nat) : ∃ h s, Sel hit txt n h s := by
  induction n with
  | zero => exact ⟨false, ⟨#[]⟩, Or.inr ⟨rfl, fun j hj => absurd hj (Nat.not_lt_zero j)⟩⟩
  | succ n ih =>
    obtain ⟨h, s, hs⟩ := ih
    rcases hs with ⟨rfl, i, hi, h1, h2, h3⟩ | ⟨rfl, hall⟩
    · exact ⟨true, s, Or.inl ⟨rfl, i, by omega, h1, h2, h3⟩⟩
    · rcases hn : hit n with _ | _
      · refine ⟨false, s, Or.inr ⟨rfl, fun j hj => ?_⟩⟩
        by_cases e : j = n
        · subst e; exact hn
        · exact hall j (by omega)
      · exact ⟨true, txt n, Or.inl ⟨rfl, n, by omega, hn, hall, rfl⟩⟩

theorem Sel.hitAt {hit : Nat → Bool} {txt : Nat → ByteArray} {n : Nat} {h : Bool} {s : ByteArray} (hs : Sel hit txt n h s) {j : Nat} (hj : j < n) (h1 : hit j = true) (h2 : ∀ i, i < j → hit i = false) : h = true ∧ s = txt j := by
  rcases hs with ⟨rfl, i, hi, g1, g2, g3⟩ | ⟨rfl, hall⟩
  · have e : i = j := by
      rcases Nat.lt_trichotomy i j with e | e | e
      · rw [h2 i e] at g1; cases g1
      · exact e
      · rw [g2 j e] at h1; cases h1
    subst e; exact ⟨rfl, g3⟩
  · rw [hall j hj] at h1; cases h1
theorem Sel.noHit {hit : Nat → Bool} {txt : Nat → ByteArray} {n : Nat} {h : Bool} {s : ByteArray} (hs : Sel hit txt n h s) (hall : ∀ j, j < n → hit j = false) : h = false := by
  rcases hs with ⟨rfl, i, hi, g1, _, _⟩ | ⟨rfl, _⟩
  · rw [hall i hi] at g1; cases g1
  · rfl

/-- The child that kind m (0 .. 3) and text s make; does it bear a reason? -/
def childOf (m : Int) (s : ByteArray) : Value := if m = 0 then cv 0 s true else if m = 1 then cv 0 s false else if m = 2 then cv 3 s true else cv 3 s false
def hitOf (m : Int) : Bool := decide (m = 0 ∨ m = 2)
theorem childOf_cv (m : Int) (s : ByteArray) : ∃ d, d ≤ 3 ∧ childOf m s = cv d s (hitOf m) := by
  unfold childOf hitOf
  by_cases h0 : m = 0
  · exact ⟨0, by omega, by rw [if_pos h0]; simp [h0]⟩
  · by_cases h1 : m = 1
    · exact ⟨0, by omega, by rw [if_neg h0, if_pos h1]; simp [h1]⟩
    · by_cases h2 : m = 2
      · exact ⟨3, by omega, by rw [if_neg h0, if_neg h1, if_pos h2]; simp [h2]⟩
      · exact ⟨3, by omega, by rw [if_neg h0, if_neg h1, if_neg h2]; simp [h0, h2]⟩
end Go.Proofs.Qxb6002357aDoor
