/-
  PLAIN MATHEMATICS OF THE SEAT: digits in base 8, 10, 16: no Go in sight.
-/
import Derived.KernelRfl
namespace Go.Proofs.Qxb6600148aDoor

/-- The digit that a character spells. -/
def dv (c : UInt8) : Nat := if c.toNat < 58 then c.toNat - 48 else if c.toNat < 91 then c.toNat - 55 else c.toNat - 87
/-- A character that spells a digit below b. -/
def okc (b : Nat) (c : UInt8) : Prop := ((48 ≤ c.toNat ∧ c.toNat ≤ 57) ∨ (65 ≤ c.toNat ∧ c.toNat ≤ 70) ∨ (97 ≤ c.toNat ∧ c.toNat ≤ 102)) ∧ dv c < b
/-- What a text spells behind acc. -/
def val (b : Nat) : Nat → List UInt8 → Nat
  | acc, [] => acc
  | acc, c :: r => val b (acc * b + dv c) r
/-- The character of a digit. -/
def chr (up : Bool) (d : Nat) : UInt8 := if d < 10 then UInt8.ofNat (48 + d) else if up then UInt8.ofNat (55 + d) else UInt8.ofNat (87 + d)

theorem chr_lo (up : Bool) (d : Nat) (h : d < 10) : (chr up d).toNat = 48 + d := by
  unfold chr; rw [if_pos h, UInt8.toNat_ofNat']; omega
theorem chr_up (d : Nat) (h : ¬ d < 10) (h2 : d < 16) : (chr true d).toNat = 55 + d := by
  unfold chr; rw [if_neg h, if_pos rfl, UInt8.toNat_ofNat']; omega
theorem chr_dn (d : Nat) (h : ¬ d < 10) (h2 : d < 16) : (chr false d).toNat = 87 + d := by
  unfold chr; rw [if_neg h, if_neg (by decide), UInt8.toNat_ofNat']; omega
theorem dv_chr (up : Bool) (d : Nat) (h : d < 16) : dv (chr up d) = d := by
  by_cases h1 : d < 10
  · have := chr_lo up d h1
    unfold dv; rw [this]; split <;> omega
  · cases up
    · have := chr_dn d h1 h
      unfold dv; rw [this]; split
      · omega
      · split <;> omega
    · have := chr_up d h1 h
      unfold dv; rw [this]; split
      · omega
      · split <;> omega
theorem okc_chr (b : Nat) (up : Bool) (d : Nat) (h : d < b) (hb : b ≤ 16) : okc b (chr up d) := by
  refine ⟨?_, by rw [dv_chr up d (by omega)]; exact h⟩
  by_cases h1 : d < 10
  · left; have := chr_lo up d h1; omega
  · cases up
    · right; right; have := chr_dn d h1 (by omega); omega
    · right; left; have := chr_up d h1 (by omega); omega

theorem okc_dec {b : Nat} (hb : b ≤ 10) {c : UInt8} (h : okc b c) : 48 ≤ c.toNat ∧ c.toNat ≤ 57 ∧ dv c = c.toNat - 48 ∧ dv c < b := by
  obtain ⟨h1, h2⟩ := h
  by_cases h3 : c.toNat < 58
  · have e : dv c = c.toNat - 48 := by unfold dv; rw [if_pos h3]
    omega
  · by_cases h4 : c.toNat < 91
    · have e : dv c = c.toNat - 55 := by unfold dv; rw [if_neg h3, if_pos h4]
      omega
    · have e : dv c = c.toNat - 87 := by unfold dv; rw [if_neg h3, if_neg h4]
      omega
theorem okc_hex {c : UInt8} (h : okc 16 c) : (48 ≤ c.toNat ∧ c.toNat ≤ 57 ∧ dv c = c.toNat - 48) ∨ (65 ≤ c.toNat ∧ c.toNat ≤ 70 ∧ dv c = c.toNat - 55) ∨ (97 ≤ c.toNat ∧ c.toNat ≤ 102 ∧ dv c = c.toNat - 87) := by
  obtain ⟨h1, h2⟩ := h
  by_cases h3 : c.toNat < 58
  · have e : dv c = c.toNat - 48 := by unfold dv; rw [if_pos h3]
    omega
  · by_cases h4 : c.toNat < 91
    · have e : dv c = c.toNat - 55 := by unfold dv; rw [if_neg h3, if_pos h4]
      omega
    · have e : dv c = c.toNat - 87 := by unfold dv; rw [if_neg h3, if_neg h4]
      omega

theorem val_ge (b : Nat) (hb : 1 ≤ b) : ∀ (l : List UInt8) (acc : Nat), acc ≤ val b acc l
  | [], _ => Nat.le_refl _
  | c :: r, acc => by
    have h := val_ge b hb r (acc * b + dv c)
    have h2 : acc ≤ acc * b := Nat.le_mul_of_pos_right acc hb
    unfold val; omega
theorem val_append (b : Nat) : ∀ (l m : List UInt8) (acc : Nat), val b acc (l ++ m) = val b (val b acc l) m
  | [], _, _ => rfl
  | c :: r, m, acc => by
    show val b (acc * b + dv c) (r ++ m) = _
    rw [val_append b r m]; rfl
theorem val_zeros (b n : Nat) (l : List UInt8) : val b 0 (List.replicate n 48 ++ l) = val b 0 l := by
  induction n with
  | zero => rfl
  | succ n ih => rw [List.replicate_succ, List.cons_append]; show val b (0 * b + dv 48) _ = _; rw [Nat.zero_mul]; exact ih
/-- What has been read and one digit more stays below what the whole spells. -/
theorem val_next (b : Nat) (hb : 1 ≤ b) (acc : Nat) (c : UInt8) (r : List UInt8) : acc * b + dv c ≤ val b acc (c :: r) := val_ge b hb r _

/-- ds spells v in base b. -/
structure Spells (b v : Nat) (ds : List UInt8) : Prop where
  ne : ds ≠ []
  ok : ∀ c ∈ ds, okc b c
  val : val b 0 ds = v
  head : 1 < ds.length → ds.head? ≠ some 48
  len : ds.length ≤ 11

/-- THE LOOP's RELATION: the digits ds are written, u is still to be written. -/
structure Half (b v : Nat) (u : Nat) (ds : List UInt8) : Prop where
  ok : ∀ c ∈ ds, okc b c
  val : val b u ds = v
  pos : ds ≠ [] → 1 ≤ u
  small : u * 8 ^ ds.length ≤ 4294967295

theorem Half.start (b v : Nat) (h : v ≤ 4294967295) : Half b v v [] := ⟨by simp, rfl, by simp, by simpa using h⟩
theorem Half.len {b v u : Nat} {ds : List UInt8} (h : Half b v u ds) : ds.length ≤ 10 := by
  rcases Nat.lt_or_ge 10 ds.length with hl | hl
  · have hne : ds ≠ [] := fun e => by subst e; simp at hl
    have h1 := h.pos hne
    have h2 := h.small
    have h3 : 8 ^ 11 ≤ 8 ^ ds.length := Nat.pow_le_pow_right (by decide) hl
    have h4 : 8 ^ ds.length ≤ u * 8 ^ ds.length := Nat.le_mul_of_pos_left _ h1
    have h5 : (8 : Nat) ^ 11 = 8589934592 := by decide
    omega
  · exact hl
theorem Half.le {b v u : Nat} {ds : List UInt8} (h : Half b v u ds) : u ≤ 4294967295 := by
  have h2 := h.small
  have h3 : 1 ≤ 8 ^ ds.length := Nat.pow_pos (by decide)
  have h4 : u ≤ u * 8 ^ ds.length := Nat.le_mul_of_pos_right _ h3
  omega
theorem Half.val_step {b v u : Nat} {ds : List UInt8} (h : Half b v u ds) (up : Bool) (hb : 8 ≤ b) (hb2 : b ≤ 16) : Go.Proofs.Qxb6600148aDoor.val b (u / b) (chr up (u % b) :: ds) = v := by
  show Go.Proofs.Qxb6600148aDoor.val b (u / b * b + dv (chr up (u % b))) ds = v
  have hm : u % b < b := Nat.mod_lt _ (by omega)
  rw [dv_chr up _ (by omega)]
  have : u / b * b + u % b = u := by rw [Nat.mul_comm]; exact Nat.div_add_mod u b
  rw [this]; exact h.val
theorem Half.ok_step {b v u : Nat} {ds : List UInt8} (h : Half b v u ds) (up : Bool) (hb : 8 ≤ b) (hb2 : b ≤ 16) : ∀ c ∈ chr up (u % b) :: ds, okc b c := by
  intro c hc
  rcases List.mem_cons.1 hc with rfl | hc
  · exact okc_chr b up _ (Nat.mod_lt _ (by omega)) hb2
  · exact h.ok c hc
theorem Half.step {b v u : Nat} {ds : List UInt8} (h : Half b v u ds) (up : Bool) (hb : 8 ≤ b) (hb2 : b ≤ 16) (hz : u / b ≠ 0) : Half b v (u / b) (chr up (u % b) :: ds) := by
  refine ⟨h.ok_step up hb hb2, h.val_step up hb hb2, fun _ => Nat.pos_of_ne_zero hz, ?_⟩
  rw [List.length_cons, Nat.pow_succ]
  have h1 : u / b ≤ u / 8 := Nat.div_le_div_left hb (by decide)
  have h2 : u / b * 8 ≤ u := by omega
  have h3 : u / b * (8 ^ ds.length * 8) = u / b * 8 * 8 ^ ds.length := by rw [Nat.mul_assoc, Nat.mul_comm 8]
  rw [h3]
  exact Nat.le_trans (Nat.mul_le_mul_right _ h2) h.small
theorem Half.done {b v u : Nat} {ds : List UInt8} (h : Half b v u ds) (up : Bool) (hb : 8 ≤ b) (hb2 : b ≤ 16) (hz : u / b = 0) : Spells b v (chr up (u % b) :: ds) := by
  refine ⟨by simp, h.ok_step up hb hb2, by have := h.val_step up hb hb2; rwa [hz] at this, ?_, by have := h.len; rw [List.length_cons]; omega⟩
  intro hl
  have hne : ds ≠ [] := fun e => by subst e; simp at hl
  have h1 := h.pos hne
  have hlt : u < b := by
    rcases Nat.lt_or_ge u b with hlt | hge
    · exact hlt
    · have := Nat.div_pos hge (by omega); omega
  rw [List.head?_cons, Nat.mod_eq_of_lt hlt]
  intro e
  have e2 : chr up u = 48 := Option.some.inj e
  have e3 : dv (chr up u) = 0 := by rw [e2]; decide
  rw [dv_chr up u (by omega)] at e3
  omega
end Go.Proofs.Qxb6600148aDoor
