/-
  THE SHELL OF A PROOF OF 'Rows.FnLookupOfNumbersItsParametersSaid' ('example.com/onceguard/onceguard/zzlaws_root_b1.FnLookupOfNumbersItsParameters'), WRITTEN BY PROGRAM (proof-skeleton.mjs) off the guide's own print for that function.
  The walk and the plain law are filled in; all else is the guide's template at this function's number and types.
-/
import Derived.Test.Qxb6001802aRows
import Derived.Test.Qxb6001802aLook
import Derived.WalkKit
import Derived.ProofKit
import Derived.OpenShut
import Derived.ShutString
namespace Go.Proofs.Qxb6001802a.fnLookupOfNumbersItsParameters
open Go.ChangeShapes Go.WideShapes Go.ChangeAt Go.RowKit
open Go.ChangeMaps (open_string shut_string)
set_option linter.unusedVariables false      -- a walk need not use every 'w<i>' (that an integer argument fits its kind)

theorem own : ownKnob Try.prog.godebug = none := by kernel_rfl

/-- Is a byte of s a dollar sign? -/
def hasD (s : ByteArray) : Bool := s.data.toList.any fun b => (b.toNat : Int) == 36
theorem hasD_at (s : ByteArray) (k : Nat) (hk : k < s.size) (h : ((s[k].toNat : Int) == 36) = true) : hasD s = true :=
  List.any_eq_true.2 ⟨s.data.toList[k]'(by simpa using hk), List.getElem_mem _, h⟩
theorem hasD_not (s : ByteArray) (h : hasD s = false) (k : Nat) (hk : k < s.size) : ((s[k].toNat : Int) == 36) = false := by
  rcases hb : ((s[k].toNat : Int) == 36) with _ | _
  · rfl
  · rw [hasD_at s k hk hb] at h; cases h
theorem hasD_none (s : ByteArray) (h : ∀ j (hj : j < s.size), ((s[j].toNat : Int) == 36) = false) : hasD s = false := by
  rcases hb : hasD s with _ | _
  · rfl
  · obtain ⟨b, hm, e⟩ := List.any_eq_true.1 hb
    obtain ⟨k, hk, rfl⟩ := List.getElem_of_mem hm
    have := h k (by simpa using hk)
    rw [show s[k]'(by simpa using hk) = s.data.toList[k] from rfl, e] at this
    cases this
theorem ret_b {a b : Bool} (h : b = a) : Ending.returned (.bool a) = .returned (.bool b) := by rw [h]

/-- hasDollar. -/
theorem hasDollar_any (s : ByteArray) (w : World) (hs : s.size ≤ 16777216) :
    Calls Try.prog 10 #[.string s] w fun e w' => e = .returned (.bool (hasD s)) ∧ w' = w := by
  go_enter Try.func10, Try.ntmps10
  go_wp2
  go_loop [3] (fun i => ∃ k : Nat, k ≤ s.size ∧ i = .int .i64 k ∧ Hid (∀ j (hj : j < s.size), j < k → ((s[j].toNat : Int) == 36) = false)) (fun i => s.size - (intOf i).toNat)
  case atStart => exact ⟨0, Nat.zero_le _, rfl, fun j _ h => absurd h (Nat.not_lt_zero j)⟩
  case round =>
    obtain ⟨k, hk, rfl, HA⟩ := hrel
    by_cases hlt : k < s.size
    · by_cases hc : ((s[k].toNat : Int) == 36) = true
      · go_wp2
        go_ret
        exact ⟨ret_b (hasD_at s k hlt hc), rfl⟩
      · have hc' : ((s[k].toNat : Int) == 36) = false := by simpa using hc
        clear hc
        go_wp2
        go_round
        case rel => exact ⟨k + 1, by omega, by go_num, fun j hj hjk => by
          by_cases e : j = k
          · subst e; exact hc'
          · exact HA.out j hj (by omega)⟩
        case measure => simp [intOf]; omega
    · go_wp2
      go_ret
      exact ⟨ret_b (hasD_none s fun j hj => HA.out j hj (by omega)), rfl⟩

set_option maxHeartbeats 1600000 in
/-- The walk where no string is too long and none holds a dollar sign: the text as a variable. -/
theorem core (s a0 a1 a2 : ByteArray) (base : Nat) (w : World) (h0 : a0.size ≤ 262144) (h1 : a1.size ≤ 262144) (h2 : a2.size ≤ 262144)
    (d0 : hasD a0 = false) (d1 : hasD a1 = false) (d2 : hasD a2 = false)
    (hs1 : base + 52 ≤ s.size) (hs2 : s.size ≤ base + 52) (hb : base ≤ 1000000)
    (hl : Hid (∀ w, Calls Try.prog 7 #[.string a0, .string a1, .string a2] w fun e w' => e = .returned (.string s) ∧ w' = w))
    (hn : Hid (∀ k (hk : k < s.size), k ≠ base + 10 → k ≠ base + 23 → k ≠ base + 49 → ((s[k].toNat : Int) != 36) = true))
    (hy : Hid (∀ k (hk : k < s.size), k = base + 10 ∨ k = base + 23 ∨ k = base + 49 → ((s[k].toNat : Int) != 36) = false))
    (f1 : Hid (∀ k (h : k + 2 < s.size), k = base + 10 → ((s[k + 1].toNat : Int) != 49) = false ∧ (s[k + 2].toNat : Int) < 48))
    (f2 : Hid (∀ k (h : k + 2 < s.size), k = base + 23 → ((s[k + 1].toNat : Int) != 50) = false ∧ (s[k + 2].toNat : Int) < 48))
    (f3 : Hid (∀ k (h : k + 2 < s.size), k = base + 49 → ((s[k + 1].toNat : Int) != 51) = false ∧ (s[k + 2].toNat : Int) < 48)) :
    Calls Try.prog 4 #[.string a0, .string a1, .string a2] w fun e w' => e = .returned (.bool true) ∧ Grown w w' := by
  go_enter Try.func4, Try.ntmps4
  go_wp2_with (first
    | (go_at_call 9; refine (zz9_any _ _ _ _).mono ?_; rintro e w' ⟨⟨b, rfl⟩, rfl⟩; cases b)
    | (go_at_call 10; refine (hasDollar_any _ _ (by omega)).mono ?_; rintro e w' ⟨rfl, rfl⟩)
    | (go_at_call 7; refine (hl.out _).mono ?_; rintro e w' ⟨rfl, rfl⟩))
  · go_ret
    exact ⟨rfl, Grown.refl _⟩
  · go_loop [8, 9] (fun c i => ∃ k : Nat, k ≤ s.size ∧ i = .int .i64 k ∧
      ((k ≤ base + 10 ∧ c = .int .i64 0) ∨ (base + 10 < k ∧ k ≤ base + 23 ∧ c = .int .i64 1) ∨ (base + 23 < k ∧ k ≤ base + 49 ∧ c = .int .i64 2) ∨ (base + 49 < k ∧ c = .int .i64 3))) (fun _ i => s.size - (intOf i).toNat)
    case atStart => exact ⟨0, Nat.zero_le _, rfl, Or.inl ⟨Nat.zero_le _, rfl⟩⟩
    case round =>
      obtain ⟨k, hk, rfl, hc⟩ := hrel
      by_cases hlt : k < s.size
      · by_cases hq : k = base + 10 ∨ k = base + 23 ∨ k = base + 49
        · have ht := hy.out k hlt hq
          rcases hc with ⟨c1, rfl⟩ | ⟨c1, c2, rfl⟩ | ⟨c1, c2, rfl⟩ | ⟨c1, rfl⟩
          · have e0 : k = base + 10 := by omega
            have hk2 : k + 2 < s.size := by omega
            obtain ⟨x1, x2⟩ := f1.out k hk2 e0
            have lo : base + 10 ≤ k := by omega
            have hi : k ≤ base + 10 := by omega
            clear hq e0
            go_wp2
            go_round
            case rel => exact ⟨k + 1, by omega, by go_num, Or.inr (Or.inl ⟨by omega, by omega, rfl⟩)⟩
            case measure => simp [intOf]; omega
          · have e0 : k = base + 23 := by omega
            have hk2 : k + 2 < s.size := by omega
            obtain ⟨x1, x2⟩ := f2.out k hk2 e0
            have lo : base + 23 ≤ k := by omega
            have hi : k ≤ base + 23 := by omega
            clear hq e0
            go_wp2
            go_round
            case rel => exact ⟨k + 1, by omega, by go_num, Or.inr (Or.inr (Or.inl ⟨by omega, by omega, rfl⟩))⟩
            case measure => simp [intOf]; omega
          · have e0 : k = base + 49 := by omega
            have hk2 : k + 2 < s.size := by omega
            obtain ⟨x1, x2⟩ := f3.out k hk2 e0
            have lo : base + 49 ≤ k := by omega
            have hi : k ≤ base + 49 := by omega
            clear hq e0
            go_wp2
            go_round
            case rel => exact ⟨k + 1, by omega, by go_num, Or.inr (Or.inr (Or.inr ⟨by omega, rfl⟩))⟩
            case measure => simp [intOf]; omega
          · omega
        · have ht := hn.out k hlt (by omega) (by omega) (by omega)
          rcases hc with ⟨c1, rfl⟩ | ⟨c1, c2, rfl⟩ | ⟨c1, c2, rfl⟩ | ⟨c1, rfl⟩
          · have c1' : k + 1 ≤ base + 10 := by omega
            clear hq
            go_wp2
            go_round
            case rel => exact ⟨k + 1, by omega, by go_num, Or.inl ⟨by omega, rfl⟩⟩
            case measure => simp [intOf]; omega
          · have c2' : k + 1 ≤ base + 23 := by omega
            clear hq
            go_wp2
            go_round
            case rel => exact ⟨k + 1, by omega, by go_num, Or.inr (Or.inl ⟨by omega, by omega, rfl⟩)⟩
            case measure => simp [intOf]; omega
          · have c2' : k + 1 ≤ base + 49 := by omega
            clear hq
            go_wp2
            go_round
            case rel => exact ⟨k + 1, by omega, by go_num, Or.inr (Or.inr (Or.inl ⟨by omega, by omega, rfl⟩))⟩
            case measure => simp [intOf]; omega
          · clear hq
            go_wp2
            go_round
            case rel => exact ⟨k + 1, by omega, by go_num, Or.inr (Or.inr (Or.inr ⟨by omega, rfl⟩))⟩
            case measure => simp [intOf]; omega
      · rcases hc with ⟨c1, rfl⟩ | ⟨c1, c2, rfl⟩ | ⟨c1, c2, rfl⟩ | ⟨c1, rfl⟩
        · omega
        · omega
        · omega
        · go_wp2
          go_ret
          exact ⟨rfl, Grown.refl _⟩

/-! ### The plain law -/
/-- The text ahead of the constant ofKey. -/
def pre (a0 a1 a2 : ByteArray) : List UInt8 := tA ++ (a0.data.toList ++ (tB ++ (a1.data.toList ++ (tC ++ (a2.data.toList ++ tD)))))
theorem pre_key (a0 a1 a2 : ByteArray) : (lookS a0 a1 a2).data.toList = pre a0 a1 a2 ++ tK := by
  rw [lookS_data]; simp only [pre, List.append_assoc]
theorem pre_length (a0 a1 a2 : ByteArray) : (pre a0 a1 a2).length = a0.size + a1.size + a2.size + 157 := by
  have e := congrArg List.length (pre_key a0 a1 a2)
  have z : (lookS a0 a1 a2).data.toList.length = a0.size + a1.size + a2.size + 209 := by
    rw [Array.length_toList]; exact lookS_size a0 a1 a2
  have ek : tK.length = 52 := by decide
  rw [List.length_append, z, ek] at e
  omega
theorem pre_no (a0 a1 a2 : ByteArray) (d0 : hasD a0 = false) (d1 : hasD a1 = false) (d2 : hasD a2 = false) : (pre a0 a1 a2).any (fun b => (b.toNat : Int) == 36) = false := by
  have qa : tA.any (fun b => (b.toNat : Int) == 36) = false := by decide +kernel
  have qb : tB.any (fun b => (b.toNat : Int) == 36) = false := by decide +kernel
  have qc : tC.any (fun b => (b.toNat : Int) == 36) = false := by decide +kernel
  have qd : tD.any (fun b => (b.toNat : Int) == 36) = false := by decide +kernel
  unfold hasD at d0 d1 d2
  simp only [pre, List.any_append, qa, qb, qc, qd, d0, d1, d2, Bool.or_false]
theorem get_lo (a0 a1 a2 : ByteArray) (d0 : hasD a0 = false) (d1 : hasD a1 = false) (d2 : hasD a2 = false) (k : Nat) (hk : k < (lookS a0 a1 a2).size) (h : k < a0.size + a1.size + a2.size + 157) :
    (((lookS a0 a1 a2)[k].toNat : Int) == 36) = false := by
  have hp : k < (pre a0 a1 a2).length := by rw [pre_length]; exact h
  show ((((lookS a0 a1 a2).data.toList[k]'(by simpa using hk)).toNat : Int) == 36) = false
  simp only [pre_key]
  rw [List.getElem_append_left hp]
  rcases hb : (((pre a0 a1 a2)[k].toNat : Int) == 36) with _ | _
  · rfl
  · have : (pre a0 a1 a2).any (fun b => (b.toNat : Int) == 36) = true := List.any_eq_true.2 ⟨_, List.getElem_mem hp, hb⟩
    rw [pre_no a0 a1 a2 d0 d1 d2] at this
    cases this
theorem get_hi (a0 a1 a2 : ByteArray) (j : Nat) (hj : j < 52) (k : Nat) (hk : k < (lookS a0 a1 a2).size) (h : k = a0.size + a1.size + a2.size + 157 + j) :
    (lookS a0 a1 a2)[k] = tK.getD j 0 := by
  have hp : (pre a0 a1 a2).length ≤ k := by rw [pre_length]; omega
  have hj' : j < tK.length := hj
  show ((lookS a0 a1 a2).data.toList[k]'(by simpa using hk)) = _
  simp only [pre_key]
  rw [List.getElem_append_right hp, List.getD_eq_getElem?_getD, List.getElem?_eq_getElem hj']
  have : k - (pre a0 a1 a2).length = j := by rw [pre_length]; omega
  simp only [this, Option.getD_some]
theorem key_other : ∀ j, j < 52 → j ≠ 10 → j ≠ 23 → j ≠ 49 → (((tK.getD j 0).toNat : Int) == 36) = false := by decide +kernel

theorem whole (a0 a1 a2 : ByteArray) (w : World) (h0 : a0.size ≤ 262144) (h1 : a1.size ≤ 262144) (h2 : a2.size ≤ 262144)
    (d0 : hasD a0 = false) (d1 : hasD a1 = false) (d2 : hasD a2 = false) :
    Calls Try.prog 4 #[.string a0, .string a1, .string a2] w fun e w' => e = .returned (.bool true) ∧ Grown w w' := by
  have hz := lookS_size a0 a1 a2
  refine core (lookS a0 a1 a2) a0 a1 a2 (a0.size + a1.size + a2.size + 157) w h0 h1 h2 d0 d1 d2 (by omega) (by omega) (by omega)
    (fun w => ZZlookupOf_any _ _ _ w h0 h1 h2) ?_ ?_ ?_ ?_ ?_
  · intro k hk n1 n2 n3
    show (!(((lookS a0 a1 a2)[k].toNat : Int) == 36)) = true
    by_cases hlo : k < a0.size + a1.size + a2.size + 157
    · rw [get_lo a0 a1 a2 d0 d1 d2 k hk hlo]; rfl
    · rw [get_hi a0 a1 a2 (k - (a0.size + a1.size + a2.size + 157)) (by omega) k hk (by omega), key_other _ (by omega) (by omega) (by omega) (by omega)]; rfl
  · intro k hk hq
    show (!(((lookS a0 a1 a2)[k].toNat : Int) == 36)) = false
    rcases hq with hq | hq | hq
    · rw [get_hi a0 a1 a2 10 (by omega) k hk (by omega)]; rfl
    · rw [get_hi a0 a1 a2 23 (by omega) k hk (by omega)]; rfl
    · rw [get_hi a0 a1 a2 49 (by omega) k hk (by omega)]; rfl
  · intro k hk hq
    rw [get_hi a0 a1 a2 11 (by omega) (k + 1) (by omega) (by omega), get_hi a0 a1 a2 12 (by omega) (k + 2) (by omega) (by omega)]
    exact ⟨rfl, by decide⟩
  · intro k hk hq
    rw [get_hi a0 a1 a2 24 (by omega) (k + 1) (by omega) (by omega), get_hi a0 a1 a2 25 (by omega) (k + 2) (by omega) (by omega)]
    exact ⟨rfl, by decide⟩
  · intro k hk hq
    rw [get_hi a0 a1 a2 50 (by omega) (k + 1) (by omega) (by omega), get_hi a0 a1 a2 51 (by omega) (k + 2) (by omega) (by omega)]
    exact ⟨rfl, by decide⟩

/-! ### STEP 1: THE WALK: the Go text returns true. 'Grown w w'': the world has at most new blocks (Derived/RowKit3.lean). Part the cases AHEAD of 'go_enter' where a test parts the walk; take each callee by a contract of your own. -/
theorem walk (a0 : ByteArray) (a1 : ByteArray) (a2 : ByteArray) (w0 : a0.size ≤ maxLen) (w1 : a1.size ≤ maxLen) (w2 : a2.size ≤ maxLen) (w : World) :
    Calls Try.prog 4 #[.string a0, .string a1, .string a2] w fun e w' => e = .returned (.bool true) ∧ Grown w w' := by
  by_cases h0 : a0.size ≤ 262144
  · by_cases h1 : a1.size ≤ 262144
    · by_cases h2 : a2.size ≤ 262144
      · rcases d0 : hasD a0 with _ | _
        · rcases d1 : hasD a1 with _ | _
          · rcases d2 : hasD a2 with _ | _
            · exact whole a0 a1 a2 w h0 h1 h2 d0 d1 d2
            · go_enter Try.func4, Try.ntmps4
              go_wp2_with (first
                | (go_at_call 9; refine (zz9_any _ _ _ _).mono ?_; rintro e w' ⟨⟨b, rfl⟩, rfl⟩; cases b)
                | (go_at_call 10; refine (hasDollar_any _ _ (by omega)).mono ?_; rintro e w' ⟨rfl, rfl⟩))
              all_goals
                go_ret
                exact ⟨rfl, Grown.refl _⟩
          · go_enter Try.func4, Try.ntmps4
            go_wp2_with (first
              | (go_at_call 9; refine (zz9_any _ _ _ _).mono ?_; rintro e w' ⟨⟨b, rfl⟩, rfl⟩; cases b)
              | (go_at_call 10; refine (hasDollar_any _ _ (by omega)).mono ?_; rintro e w' ⟨rfl, rfl⟩))
            all_goals
              go_ret
              exact ⟨rfl, Grown.refl _⟩
        · go_enter Try.func4, Try.ntmps4
          go_wp2_with (first
            | (go_at_call 9; refine (zz9_any _ _ _ _).mono ?_; rintro e w' ⟨⟨b, rfl⟩, rfl⟩; cases b)
            | (go_at_call 10; refine (hasDollar_any _ _ (by omega)).mono ?_; rintro e w' ⟨rfl, rfl⟩))
          all_goals
            go_ret
            exact ⟨rfl, Grown.refl _⟩
      · go_enter Try.func4, Try.ntmps4
        go_wp2_with (go_at_call 9; refine (zz9_any _ _ _ _).mono ?_; rintro e w' ⟨⟨b, rfl⟩, rfl⟩; cases b)
        all_goals
          go_ret
          exact ⟨rfl, Grown.refl _⟩
    · go_enter Try.func4, Try.ntmps4
      go_wp2_with (go_at_call 9; refine (zz9_any _ _ _ _).mono ?_; rintro e w' ⟨⟨b, rfl⟩, rfl⟩; cases b)
      all_goals
        go_ret
        exact ⟨rfl, Grown.refl _⟩
  · go_enter Try.func4, Try.ntmps4
    go_wp2_with (go_at_call 9; refine (zz9_any _ _ _ _).mono ?_; rintro e w' ⟨⟨b, rfl⟩, rfl⟩; cases b)
    all_goals
      go_ret
      exact ⟨rfl, Grown.refl _⟩

/-! ### THE ROW's STEP: WRITTEN OUT: LEAVE IT -/
set_option maxRecDepth 100000 in
theorem lifted (os : Os) (started : os.Started) (H : Type) (enc : TypeId × Value → H) :
    ReturnsInHanded {} Try.checked os 4 .any (Rows.fnLookupOfNumbersItsParametersSpec.pre6 enc Try.prog Try.f4 Rows.fnLookupOfNumbersItsParametersRow.domain false) (Rows.fnLookupOfNumbersItsParametersSpec.post enc Try.prog Try.f4 false true false false) := by
  refine returnsInHanded_of_change (C := Try.checked) own started (by kernel_rfl) Try.func4
    (ChangeSpec.witness6 (enc := enc) (C := Try.checked) false ⟨#[], #[.string ByteArray.empty, .string ByteArray.empty, .string ByteArray.empty], []⟩ 8 (by kernel_rfl) (by kernel_rfl) (by kernel_rfl) (by kernel_rfl)) ?_
  intro W base args ds gs before hval0 hW hcnd _
  have hval : ∀ (j : Nat) t v, Try.f4.params[j]? = some t → args[j]? = some v → Value.okWide Try.prog W .any base t v := hval0
  have hW' := hW
  obtain ⟨p, q, hA0, hV, rfl, hfz, hnd⟩ := hW
  have hA : DataW.TrodAll enc Try.prog W 0 (fun _ => true) true Try.f4.params.toList args.toList ds p := hA0
  rw [Try.params4] at hA hval
  obtain ⟨v0, vs0, d0, ds0, p0, q0, hargs, rfl, rfl, h0, r0⟩ := trodAll_cons hA
  obtain ⟨v1, vs1, d1, ds1, p1, q1, rfl, rfl, rfl, h1, r1⟩ := trodAll_cons r0
  obtain ⟨v2, vs2, d2, ds2, p2, q2, rfl, rfl, rfl, h2, r2⟩ := trodAll_cons r1
  obtain ⟨rfl, rfl, rfl⟩ := trodAll_nil r2
  obtain rfl : args = #[v0, v1, v2] := by cases args; simp_all
  obtain ⟨rfl, rfl⟩ := trodVars_none hV
  obtain ⟨a0, rfl, rfl, rfl, w0⟩ := open_string Try.underlying9 (hval 0 9 v0 rfl rfl) h0
  obtain ⟨a1, rfl, rfl, rfl, w1⟩ := open_string Try.underlying9 (hval 1 9 v1 rfl rfl) h1
  obtain ⟨a2, rfl, rfl, rfl, w2⟩ := open_string Try.underlying9 (hval 2 9 v2 rfl rfl) h2
  clear hA0 hval0
  simp only [List.append_nil] at hW'
  refine (walk a0 a1 a2 w0 w1 w2 W).mono fun e W' ⟨he, hg⟩ => ?_
  subst he
  exact ⟨_, rfl, post_of_same (pa := []) (pv := []) hW' (fun _ _ _ => (trodAll_cons_mk (shut_bool Try.underlying4 _) trodAll_mk0)) (fun sp _ => (trodAll_cons_mk (shut_string Try.underlying9 w0) (trodAll_cons_mk (shut_string Try.underlying9 w1) (trodAll_cons_mk (shut_string Try.underlying9 w2) trodAll_mk0)))) (fun _ _ => rfl) rfl
    (hg.frame _) hg.2.1 (ok_one (by kernel_rfl) rfl (okWide_bool_mk Try.underlying4 _))⟩

theorem over : Rows.fnLookupOfNumbersItsParametersRow.holds Try.pinned (OpenSpec.ofChange Rows.fnLookupOfNumbersItsParametersSpec) :=
  OpenClaim.holds_of_wide 4 Try.f4 rfl rfl rfl rfl rfl rfl rfl ⟨rfl, rfl, rfl, rfl, rfl⟩ rfl rfl rfl rfl rfl (by kernel_rfl) Try.func4 (by kernel_rfl)
    (of_decide_eq_true (by kernel_rfl)) (by unfold Func.isWrapper; first | (rw [if_pos (by decide +kernel)]; kernel_rfl) | (rw [if_neg (by decide +kernel)]; exact ⟨rfl, rfl⟩))
    (fun os started H enc _ => lifted os started H enc)

/-- ████ THE STATEMENT ████ -/
theorem proved : Rows.FnLookupOfNumbersItsParametersSaid :=
  over
end Go.Proofs.Qxb6001802a.fnLookupOfNumbersItsParameters
