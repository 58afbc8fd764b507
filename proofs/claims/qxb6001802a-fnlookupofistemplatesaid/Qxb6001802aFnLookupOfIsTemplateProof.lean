/-
  THE SHELL OF A PROOF OF 'Rows.FnLookupOfIsTemplateSaid' ('example.com/onceguard/onceguard/zzlaws_root_b1.FnLookupOfIsTemplate'), WRITTEN BY PROGRAM (proof-skeleton.mjs) off the guide's own print for that function.
  The walk and the plain law are filled in; all else is the guide's template at this function's number and types.
-/
import Derived.Test.Qxb6001802aRows
import Derived.Test.Qxb6001802aLook
import Derived.WalkKit
import Derived.WalkSpells
import Derived.ProofKit
import Derived.OpenShut
import Derived.ShutString
namespace Go.Proofs.Qxb6001802a.fnLookupOfIsTemplate
open Go.ChangeShapes Go.WideShapes Go.ChangeAt Go.RowKit
open Go.ChangeMaps (open_string shut_string)
set_option linter.unusedVariables false      -- a walk need not use every 'w<i>' (that an integer argument fits its kind)

theorem own : ownKnob Try.prog.godebug = none := by kernel_rfl

/-- onlyIndex at a byte that stands at the place p alone. -/
theorem onlyIndex_at (s : ByteArray) (c : Int) (p : Nat) (w : World) (hs : s.size ≤ 16777216) (hp : p < s.size)
    (h : ∀ k (hk : k < s.size), ((s[k].toNat : Int) == c) = decide (k = p)) :
    Calls Try.prog 8 #[.string s, .int .u8 c] w fun e w' => e = .returned (.int .i64 p) ∧ w' = w := by
  go_enter Try.func8, Try.ntmps8
  go_wp2
  go_loop [5, 6] (fun a i => ∃ k : Nat, k ≤ s.size ∧ i = .int .i64 k ∧ ((k ≤ p ∧ a = .int .i64 (-1)) ∨ (p < k ∧ a = .int .i64 p))) (fun _ i => s.size - (intOf i).toNat)
  case atStart => exact ⟨0, Nat.zero_le _, rfl, Or.inl ⟨Nat.zero_le _, rfl⟩⟩
  case round =>
    obtain ⟨k, hk, rfl, ha⟩ := hrel
    by_cases hlt : k < s.size
    · have hh := h k hlt
      clear h
      by_cases hkp : k = p
      · have ht : ((s[k].toNat : Int) == c) = true := by rw [hh]; simp [hkp]
        clear hh
        obtain ⟨_, rfl⟩ | ⟨hx, rfl⟩ := ha
        · have HK : Hid (k = p) := hkp
          clear hkp
          go_wp2
          go_round
          case rel => exact ⟨k + 1, by omega, by go_num, Or.inr ⟨by have := HK.out; omega, by rw [HK.out]⟩⟩
          case measure => simp [intOf]; omega
        · omega
      · have ht : ((s[k].toNat : Int) == c) = false := by rw [hh]; simp [hkp]
        clear hh
        obtain ⟨hx, rfl⟩ | ⟨hx, rfl⟩ := ha
        · go_wp2
          go_round
          case rel => exact ⟨k + 1, by omega, by go_num, Or.inl ⟨by omega, rfl⟩⟩
          case measure => simp [intOf]; omega
        · go_wp2
          go_round
          case rel => exact ⟨k + 1, by omega, by go_num, Or.inr ⟨by omega, rfl⟩⟩
          case measure => simp [intOf]; omega
    · clear h
      obtain ⟨hx, rfl⟩ | ⟨hx, rfl⟩ := ha
      · omega
      · go_wp2
        go_ret
        exact ⟨rfl, rfl⟩

/-- What lookupOf answers at the three marks. -/
def M : ByteArray := lookS ⟨#[0]⟩ ⟨#[1]⟩ ⟨#[2]⟩
def ML : List UInt8 := tA ++ ([0] ++ (tB ++ ([1] ++ (tC ++ ([2] ++ (tD ++ tK))))))
theorem M_data : M.data.toList = ML := lookS_data _ _ _
theorem M_size : M.size = 212 := lookS_size _ _ _
theorem M_get (k : Nat) (hk : k < M.size) : M[k] = ML.getD k 0 := by
  have hk' : k < ML.length := by rw [← M_data]; exact hk
  show M.data.toList[k]'(by simpa using hk) = _
  rw [List.getD_eq_getElem?_getD, List.getElem?_eq_getElem hk']
  simp [M_data]
theorem look_M (w : World) : Calls Try.prog 7 #[.string ⟨#[0]⟩, .string ⟨#[1]⟩, .string ⟨#[2]⟩] w fun e w' => e = .returned (.string M) ∧ w' = w :=
  ZZlookupOf_any _ _ _ w (by decide) (by decide) (by decide)
theorem mark0 : ∀ k, k < 212 → (((ML.getD k 0).toNat : Int) == 0) = decide (k = 120) := by decide +kernel
theorem mark1 : ∀ k, k < 212 → (((ML.getD k 0).toNat : Int) == 1) = decide (k = 129) := by decide +kernel
theorem mark2 : ∀ k, k < 212 → (((ML.getD k 0).toNat : Int) == 2) = decide (k = 132) := by decide +kernel
theorem only0 (w : World) : Calls Try.prog 8 #[.string M, .int .u8 0] w fun e w' => e = .returned (.int .i64 120) ∧ w' = w :=
  onlyIndex_at M 0 120 w (by rw [M_size]; omega) (by rw [M_size]; omega) (fun k hk => by rw [M_get]; exact mark0 k (by rw [← M_size]; exact hk))
theorem only1 (w : World) : Calls Try.prog 8 #[.string M, .int .u8 1] w fun e w' => e = .returned (.int .i64 129) ∧ w' = w :=
  onlyIndex_at M 1 129 w (by rw [M_size]; omega) (by rw [M_size]; omega) (fun k hk => by rw [M_get]; exact mark1 k (by rw [← M_size]; exact hk))
theorem only2 (w : World) : Calls Try.prog 8 #[.string M, .int .u8 2] w fun e w' => e = .returned (.int .i64 132) ∧ w' = w :=
  onlyIndex_at M 2 132 w (by rw [M_size]; omega) (by rw [M_size]; omega) (fun k hk => by rw [M_get]; exact mark2 k (by rw [← M_size]; exact hk))

theorem ret_true {b : Bool} (h : b = true) : Ending.returned (.bool b) = .returned (.bool true) := by rw [h]
theorem piece (a b : Nat) : (M.extract a b).data.toList = (ML.drop a).take (b - a) := by
  rw [ByteArray.data_extract, Array.toList_extract, List.extract_eq_take_drop, M_data]
theorem piece0 : (ML.drop 0).take (120 - 0) = tA := by decide +kernel
theorem piece1 : (ML.drop 121).take (129 - 121) = tB := by decide +kernel
theorem piece2 : (ML.drop 130).take (132 - 130) = tC := by decide +kernel
theorem piece3 : (ML.drop 133).take (212 - 133) = tD ++ tK := by decide +kernel
/-- THE PLAIN LAW: the answer is the pieces between the marks with the three strings put in. -/
theorem same (a0 a1 a2 : ByteArray) : (lookS a0 a1 a2).toList = ((((((M.extract 0 120 ++ a0) ++ M.extract 121 129) ++ a1) ++ M.extract 130 132) ++ a2) ++ M.extract 133 M.size).toList := by
  rw [ByteArray.toList_eq, ByteArray.toList_eq, lookS_data]
  simp only [ByteArray.data_append, Array.toList_append]
  rw [M_size, piece, piece, piece, piece, piece0, piece1, piece2, piece3]
  simp only [List.append_assoc]

/-- The walk where no string is too long, the text at the three marks as a variable. -/
theorem core (m a0 a1 a2 : ByteArray) (w : World) (h0 : a0.size ≤ 262144) (h1 : a1.size ≤ 262144) (h2 : a2.size ≤ 262144)
    (hm1 : 133 ≤ m.size) (hm2 : m.size ≤ 300)
    (hl : Hid (∀ w, Calls Try.prog 7 #[.string ⟨#[0]⟩, .string ⟨#[1]⟩, .string ⟨#[2]⟩] w fun e w' => e = .returned (.string m) ∧ w' = w))
    (i0 : Hid (∀ w, Calls Try.prog 8 #[.string m, .int .u8 0] w fun e w' => e = .returned (.int .i64 120) ∧ w' = w))
    (i1 : Hid (∀ w, Calls Try.prog 8 #[.string m, .int .u8 1] w fun e w' => e = .returned (.int .i64 129) ∧ w' = w))
    (i2 : Hid (∀ w, Calls Try.prog 8 #[.string m, .int .u8 2] w fun e w' => e = .returned (.int .i64 132) ∧ w' = w))
    (heq : Hid ((lookS a0 a1 a2).toList = ((((((m.extract 0 120 ++ a0) ++ m.extract 121 129) ++ a1) ++ m.extract 130 132) ++ a2) ++ m.extract 133 m.size).toList)) :
    Calls Try.prog 3 #[.string a0, .string a1, .string a2] w fun e w' => e = .returned (.bool true) ∧ Grown w w' := by
  go_enter Try.func3, Try.ntmps3
  go_wp2_with (go_at_call 6; refine (zz6_any _ _ _ _).mono ?_; rintro e w' ⟨⟨b, rfl⟩, rfl⟩; cases b)
  · go_ret
    exact ⟨rfl, Grown.refl _⟩
  · refine (hl.out _).mono ?_
    rintro e w' ⟨rfl, rfl⟩
    go_wp2_with fail
    refine (i0.out _).mono ?_
    rintro e w' ⟨rfl, rfl⟩
    go_wp2_with fail
    refine (i1.out _).mono ?_
    rintro e w' ⟨rfl, rfl⟩
    go_wp2_with fail
    refine (i2.out _).mono ?_
    rintro e w' ⟨rfl, rfl⟩
    go_wp2_with (go_at_call 7; refine (ZZlookupOf_any _ _ _ _ h0 h1 h2).mono ?_; rintro e w' ⟨rfl, rfl⟩)
    go_ret
    exact ⟨ret_true (by rw [heq.out]; simp), Grown.refl _⟩

/-! ### STEP 1: THE WALK: the Go text returns true. 'Grown w w'': the world has at most new blocks (Derived/RowKit3.lean). Part the cases AHEAD of 'go_enter' where a test parts the walk; take each callee by a contract of your own. -/
theorem walk (a0 : ByteArray) (a1 : ByteArray) (a2 : ByteArray) (w0 : a0.size ≤ maxLen) (w1 : a1.size ≤ maxLen) (w2 : a2.size ≤ maxLen) (w : World) :
    Calls Try.prog 3 #[.string a0, .string a1, .string a2] w fun e w' => e = .returned (.bool true) ∧ Grown w w' := by
  by_cases h0 : a0.size ≤ 262144
  · by_cases h1 : a1.size ≤ 262144
    · by_cases h2 : a2.size ≤ 262144
      · exact core M a0 a1 a2 w h0 h1 h2 (by rw [M_size]; omega) (by rw [M_size]; omega) look_M only0 only1 only2 (same a0 a1 a2)
      · go_enter Try.func3, Try.ntmps3
        go_wp2_with (go_at_call 6; refine (zz6_any _ _ _ _).mono ?_; rintro e w' ⟨⟨b, rfl⟩, rfl⟩; cases b)
        all_goals
          go_ret
          exact ⟨rfl, Grown.refl _⟩
    · go_enter Try.func3, Try.ntmps3
      go_wp2_with (go_at_call 6; refine (zz6_any _ _ _ _).mono ?_; rintro e w' ⟨⟨b, rfl⟩, rfl⟩; cases b)
      all_goals
        go_ret
        exact ⟨rfl, Grown.refl _⟩
  · go_enter Try.func3, Try.ntmps3
    go_wp2_with (go_at_call 6; refine (zz6_any _ _ _ _).mono ?_; rintro e w' ⟨⟨b, rfl⟩, rfl⟩; cases b)
    all_goals
      go_ret
      exact ⟨rfl, Grown.refl _⟩

/-! ### THE ROW's STEP: WRITTEN OUT: LEAVE IT -/
set_option maxRecDepth 100000 in
theorem lifted (os : Os) (started : os.Started) (H : Type) (enc : TypeId × Value → H) :
    ReturnsInHanded {} Try.checked os 3 .any (Rows.fnLookupOfIsTemplateSpec.pre6 enc Try.prog Try.f3 Rows.fnLookupOfIsTemplateRow.domain false) (Rows.fnLookupOfIsTemplateSpec.post enc Try.prog Try.f3 false true false false) := by
  refine returnsInHanded_of_change (C := Try.checked) own started (by kernel_rfl) Try.func3
    (ChangeSpec.witness6 (enc := enc) (C := Try.checked) false ⟨#[], #[.string ByteArray.empty, .string ByteArray.empty, .string ByteArray.empty], []⟩ 8 (by kernel_rfl) (by kernel_rfl) (by kernel_rfl) (by kernel_rfl)) ?_
  intro W base args ds gs before hval0 hW hcnd _
  have hval : ∀ (j : Nat) t v, Try.f3.params[j]? = some t → args[j]? = some v → Value.okWide Try.prog W .any base t v := hval0
  have hW' := hW
  obtain ⟨p, q, hA0, hV, rfl, hfz, hnd⟩ := hW
  have hA : DataW.TrodAll enc Try.prog W 0 (fun _ => true) true Try.f3.params.toList args.toList ds p := hA0
  rw [Try.params3] at hA hval
  obtain ⟨v0, vs0, d0, ds0, p0, q0, hargs, rfl, rfl, h0, r0⟩ := trodAll_cons hA
  obtain ⟨v1, vs1, d1, ds1, p1, q1, rfl, rfl, rfl, h1, r1⟩ := trodAll_cons r0
  obtain ⟨v2, vs2, d2, ds2, p2, q2, rfl, rfl, rfl, h2, r2⟩ := trodAll_cons r1
  obtain ⟨rfl, rfl, rfl⟩ := trodAll_nil r2
  obtain rfl : args = #[v0, v1, v2] := by cases args; simp_all
  obtain ⟨rfl, rfl⟩ := trodVars_none hV
  obtain ⟨a0, rfl, rfl, rfl, w0⟩ := open_string Try.underlying9 (hval 0 9 v0 rfl rfl) h0
  obtain ⟨a1, rfl, rfl, rfl, w1⟩ := open_string Try.underlying9 (hval 1 9 v1 rfl rfl) h1
  obtain ⟨a2, rfl, rfl, rfl, w2⟩ := open_string Try.underlying9 (hval 2 9 v2 rfl rfl) h2
  clear hA0 hval0
  simp only [List.append_nil] at hW'
  refine (walk a0 a1 a2 w0 w1 w2 W).mono fun e W' ⟨he, hg⟩ => ?_
  subst he
  exact ⟨_, rfl, post_of_same (pa := []) (pv := []) hW' (fun _ _ _ => (trodAll_cons_mk (shut_bool Try.underlying4 _) trodAll_mk0)) (fun sp _ => (trodAll_cons_mk (shut_string Try.underlying9 w0) (trodAll_cons_mk (shut_string Try.underlying9 w1) (trodAll_cons_mk (shut_string Try.underlying9 w2) trodAll_mk0)))) (fun _ _ => rfl) rfl
    (hg.frame _) hg.2.1 (ok_one (by kernel_rfl) rfl (okWide_bool_mk Try.underlying4 _))⟩

theorem over : Rows.fnLookupOfIsTemplateRow.holds Try.pinned (OpenSpec.ofChange Rows.fnLookupOfIsTemplateSpec) :=
  OpenClaim.holds_of_wide 3 Try.f3 rfl rfl rfl rfl rfl rfl rfl ⟨rfl, rfl, rfl, rfl, rfl⟩ rfl rfl rfl rfl rfl (by kernel_rfl) Try.func3 (by kernel_rfl)
    (of_decide_eq_true (by kernel_rfl)) (by unfold Func.isWrapper; first | (rw [if_pos (by decide +kernel)]; kernel_rfl) | (rw [if_neg (by decide +kernel)]; exact ⟨rfl, rfl⟩))
    (fun os started H enc _ => lifted os started H enc)

/-- ████ THE STATEMENT ████ -/
theorem proved : Rows.FnLookupOfIsTemplateSaid :=
  over
end Go.Proofs.Qxb6001802a.fnLookupOfIsTemplate
