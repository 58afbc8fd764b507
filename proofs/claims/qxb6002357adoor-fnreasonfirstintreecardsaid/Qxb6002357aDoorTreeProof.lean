/-
  FnReasonFirstInTree: THE ROW PROVED, AND THE TIED CARD.
-/
import Derived.Test.Qxb6002357aDoorHandle
import Derived.Test.Qxb6002357aDoorTie
import Derived.Test.Qxb6002357aDoorCards
import Derived.Test.Qxb6002357aDoorTreeLaw
import Derived.ChangeOld
import Derived.SevenTiedAt
namespace Go.Proofs.Qxb6002357aDoor.fnReasonFirstInTree
open Go Go.ChangeShapes Go.WideShapes Go.ChangeAt Go.RowKit

theorem laidOut : laidOutB Tryd.prog = true := by kernel_rfl

/-- The numbers of a list, each of its kind: beyond its end the zero. -/
theorem bytes_bd {zs : List Int} (h : ∀ n ∈ zs, (Lit.int .u8 n).wf = true) (i : Nat) : 0 ≤ zs.getD i 0 ∧ zs.getD i 0 ≤ 255 := by
  rw [List.getD_eq_getElem?_getD]
  rcases Nat.lt_or_ge i zs.length with hi | hi
  · rw [List.getElem?_eq_getElem hi]
    exact bounds_u8 (h _ (List.getElem_mem hi))
  · rw [List.getElem?_eq_none hi]; exact ⟨by decide, by decide⟩
theorem texts_bd {ss : List ByteArray} (h : ∀ s ∈ ss, s.size ≤ maxLen) (i : Nat) : (ss.getD i ⟨#[]⟩).size ≤ maxLen := by
  rw [List.getD_eq_getElem?_getD]
  rcases Nat.lt_or_ge i ss.length with hi | hi
  · rw [List.getElem?_eq_getElem hi]
    exact h _ (List.getElem_mem hi)
  · rw [List.getElem?_eq_none hi]; exact Nat.zero_le _

/-- The slice of bytes that came in. -/
theorem in_kinds {H : Type} {enc : TypeId × Value → H} {W : World} {a : Option Addr} {l c : Nat} {d : DataW H} {p : List MemPlace}
    (h : DataW.Trod enc Tryd.prog W 0 (fun _ => true) true 27 (.slice a l c) d p) : ∃ ks, InK W a l ks ∧ l ≤ maxLen ∧ ∀ i, 0 ≤ ks.getD i 0 ∧ ks.getD i 0 ≤ 255 := by
  obtain ⟨fuel, hf⟩ := h
  rcases open_ints Tryd.underlying27 Tryd.underlying5 (by kernel_rfl) hf with ⟨hcs, _⟩ | ⟨x, l', c', zs, hcs, _, hl, hm, hz, _, hcell, hwz⟩
  · simp [Value.cells] at hcs
    obtain ⟨rfl, rfl, rfl⟩ := hcs
    exact ⟨[], Or.inl rfl, Nat.zero_le _, fun i => ⟨by simp, by simp⟩⟩
  · simp [Value.cells] at hcs
    obtain ⟨rfl, rfl, rfl⟩ := hcs
    have hz' : zs.length = c := by simpa using hz
    refine ⟨zs, ?_, by omega, bytes_bd hwz⟩
    by_cases h0 : l = 0
    · exact Or.inl h0
    · obtain ⟨b, off, rfl, hc⟩ := ints_at hcell (by omega)
      exact Or.inr ⟨b, off, rfl, fun i hi => hc i (by omega)⟩

/-- The slice of strings that came in. -/
theorem in_texts {H : Type} {enc : TypeId × Value → H} {W : World} {a : Option Addr} {l c : Nat} {d : DataW H} {p : List MemPlace}
    (h : DataW.Trod enc Tryd.prog W 0 (fun _ => true) true 28 (.slice a l c) d p) : ∃ ts, InT W a l ts ∧ l ≤ maxLen ∧ ∀ i, (ts.getD i ⟨#[]⟩).size ≤ maxLen := by
  obtain ⟨fuel, hf⟩ := h
  rcases open_strings Tryd.underlying28 Tryd.underlying9 (by kernel_rfl) hf with ⟨hcs, _⟩ | ⟨x, l', c', ss, hcs, _, hl, hm, hz, _, hcell, hws⟩
  · simp [Value.cells] at hcs
    obtain ⟨rfl, rfl, rfl⟩ := hcs
    exact ⟨[], Or.inl rfl, Nat.zero_le _, fun i => by simp [ByteArray.size]⟩
  · simp [Value.cells] at hcs
    obtain ⟨rfl, rfl, rfl⟩ := hcs
    have hz' : ss.length = c := by simpa using hz
    refine ⟨ss, ?_, by omega, texts_bd hws⟩
    by_cases h0 : l = 0
    · exact Or.inl h0
    · obtain ⟨b, off, spot⟩ := x
      have hspot : spot = none := by simpa [Addr.add] using World.cell?_spot (hcell 0 (by omega))
      subst hspot
      exact Or.inr ⟨b, off, rfl, fun i hi => by rw [← add_plain]; exact hcell i (by omega)⟩

set_option maxRecDepth 100000 in
theorem lifted (os : Os) (started : os.Started) (H : Type) (enc : TypeId × Value → H) :
    ReturnsInHanded {} Tryd.checked os 4 .any (fun w args => (Rows.fnReasonFirstInTreeSpec.pre enc Tryd.prog Tryd.f4 [] false w args ∧ laidMetH Tryd.prog listed w) ∧ sizedMet enc Tryd.prog Tryd.f4 (OpenSpec.ofChange Rows.fnReasonFirstInTreeSpec) false w args)
      (Rows.fnReasonFirstInTreeSpec.post enc Tryd.prog Tryd.f4 false true false false) := by
  refine returnsInHanded_of_change_and (C := Tryd.checked) (X := fun w _ => laidMetH Tryd.prog listed w) (fun _ _ _ hh h => h.of_heap hh) own started (by kernel_rfl) Tryd.func4
    (ChangeSpec.witness_shaped (enc := enc) (C := Tryd.checked) (os := os) (X := fun w _ => laidMetH Tryd.prog listed w) false (World.doorLaid Tryd.prog 16 os) #[.slice none 0 0, .slice none 0 0] 8 rfl (World.shaped_of_RefB (by kernel_rfl) (by kernel_rfl)) (by kernel_rfl) (by kernel_rfl) (by kernel_rfl) (door_met os _)) ?_
  intro W base args ds gs before hval0 hW _ _ hL _
  have hval : ∀ (j : Nat) t v, Tryd.f4.params[j]? = some t → args[j]? = some v → Value.okWide Tryd.prog W .any base t v := hval0
  have hW' := hW
  obtain ⟨p, q, hA0, hV, rfl, hfz, hnd⟩ := hW
  have hA : DataW.TrodAll enc Tryd.prog W 0 (fun _ => true) true Tryd.f4.params.toList args.toList ds p := hA0
  rw [Tryd.params4] at hA hval
  obtain ⟨v0, vs0, d0, ds0, p0, q0, hargs, rfl, rfl, h0, r0⟩ := trodAll_cons hA
  obtain ⟨v1, vs1, d1, ds1, p1, q1, rfl, rfl, rfl, h1, r1⟩ := trodAll_cons r0
  obtain ⟨rfl, rfl, rfl⟩ := trodAll_nil r1
  obtain rfl : args = #[v0, v1] := by cases args; simp_all
  obtain ⟨rfl, rfl⟩ := trodVars_none hV
  obtain ⟨a0, l0, c0, rfl⟩ := okWide_slice Tryd.underlying27 (hval 0 27 v0 rfl rfl)
  obtain ⟨a1, l1, c1, rfl⟩ := okWide_slice Tryd.underlying28 (hval 1 28 v1 rfl rfl)
  have lt0 : ∀ x ∈ p0, x.block < W.heap.size := by obtain ⟨m, hm⟩ := h0; exact DataW.trod_lt m _ _ _ hm
  have lt1 : ∀ x ∈ p1, x.block < W.heap.size := by obtain ⟨m, hm⟩ := h1; exact DataW.trod_lt m _ _ _ hm
  obtain ⟨ks, hK, m0, kb⟩ := in_kinds h0
  obtain ⟨ts, hT, m1, hs⟩ := in_texts h1
  clear hA0 hval0
  refine (law_tree a0 a1 l0 c0 l1 c1 ks ts W m0 m1 hK hT hs kb (handle_of_laid hL)).mono fun e W' ⟨he, bel⟩ => ?_
  subst he
  exact ⟨_, rfl, _, _, _, [], _, [], hW', trodAll_mk1 (shut_bool Tryd.underlying4 _), (trodAll_cons_mk (Below.trod laidOut (by kernel_rfl) (of_decide_eq_true (by kernel_rfl)) h0 bel lt0) (trodAll_cons_mk (Below.trod laidOut (by kernel_rfl) (of_decide_eq_true (by kernel_rfl)) h1 bel lt1) trodAll_mk0)), rfl, bel.frame _, fun h => by cases h⟩

theorem row_holds : Rows.FnReasonFirstInTreeSaid :=
  OpenClaim.holds_of_wide 4 Tryd.f4 rfl rfl rfl rfl rfl rfl rfl ⟨rfl, rfl, rfl, rfl, rfl⟩ rfl rfl rfl rfl rfl (by kernel_rfl) Tryd.func4 (by kernel_rfl)
    (of_decide_eq_true (by kernel_rfl)) (by unfold Func.isWrapper; first | (rw [if_pos (by decide +kernel)]; kernel_rfl) | (rw [if_neg (by decide +kernel)]; exact ⟨rfl, rfl⟩))
    (fun os started H enc _ => lifted os started H enc)

/-- ████ THE TIED CARD ████ -/
theorem proved : Rows.FnReasonFirstInTreeCardSaid :=
  Claim7.holds_tied_plain_at .later [] [.handle] true (true, "fc79705627bd966e69c25112b31f368def67a6c3d13becf4757e1f0b10adf977") true
    row_holds (fun _ h => by cases h) (by kernel_rfl) (fun _ h => by cases h) fnReasonFirstInTree_row_tie rfl ⟨rfl, rfl⟩ (by kernel_rfl) rfl
    (fun f fn hf hfn => by
      obtain rfl : f = 4 := Option.some.inj ((show Tryd.prog.funcNamed Rows.fnReasonFirstInTreeRow.func = some 4 by kernel_rfl).symm.trans hf) |>.symm
      obtain rfl : fn = Tryd.f4 := (Option.some.inj (Tryd.func4.symm.trans hfn)).symm
      exact ⟨by kernel_rfl, fun j t ht => by
        rw [Tryd.params4] at ht
        have hm : t ∈ [27, 28] := by simpa using Array.mem_of_getElem? ht
        have hall : ([27, 28].all fun u => !Tryd.prog.wantsStandIn u) = true := by kernel_rfl
        exact (show Tryd.prog.wantsStandIn t = false by simpa using List.all_eq_true.1 hall t hm)⟩)
    (by kernel_rfl)
end Go.Proofs.Qxb6002357aDoor.fnReasonFirstInTree
