/-
  strconv.ParseUint and parseIPv4Number, WHERE THEY SUCCEED; zzb1Reads.
-/
import Derived.Test.Qxb6600148aDoorParse
import Derived.WalkSmall
import Derived.WalkSpells
import Derived.Deep.QuietTactic
import Derived.BigQuiet
import Derived.Lib.AtoiErrMem
namespace Go.Proofs.Qxb6600148aDoor
open Go.RowKit

/-- strconv.ParseUint over its inner one's contract. -/
theorem public_of (t : ByteArray) (b n : Int) (w : World)
    (h : Hid (Calls Tryd.prog 17 #[.string t, .int .i64 b, .int .i64 32] w fun e w' => e = .returned (.tuple #[.int .u64 n, .nilIface]) ∧ w' = Lib.bytesWorld w 5 t)) :
    Calls Tryd.prog 15 #[.string t, .int .i64 b, .int .i64 32] w fun e w' => e = .returned (.tuple #[.int .u64 n, .nilIface]) ∧ w' = Lib.bytesWorld w 5 t := by
  go_enter Tryd.func15, Tryd.ntmps15
  go_wp2_with (go_at_call 17; refine h.out.mono ?_; rintro e w' ⟨rfl, rfl⟩)
  go_ret2
  exact ⟨rfl, rfl⟩

theorem drew_bytes (w : World) (n : Nat) (s : ByteArray) : Below w.heap.size w (Lib.bytesWorld (w.drewN n) 5 s) :=
  (below_drewN (Below.refl _ w) n).trans (show Below w.heap.size (w.drewN n) _ from Lib.bytesWorld_below (w.drewN n) 5 s)

/-- strings.HasPrefix at a prefix of two bytes. -/
theorem prefix_no (s p : ByteArray) (q : List UInt8) (w : World) (hp : p.size = 2) (hq : p.toList = q) (hs : s.size ≤ 1000000) (h : s.size ≤ 1 ∨ ((s.extract 0 2).toList == q) = false) :
    Calls Tryd.prog 14 #[.string s, .string p] w fun e w' => e = .returned (.bool false) ∧ w' = w := by
  subst hq
  by_cases h1 : s.size ≤ 1
  · go_enter Tryd.func14, Tryd.ntmps14
    go_wp2
    go_ret
    exact ⟨rfl, rfl⟩
  · have h2 := h.resolve_left h1
    clear h
    go_enter Tryd.func14, Tryd.ntmps14
    go_wp2
    go_ret
    exact ⟨rfl, rfl⟩
theorem prefix_yes (s p : ByteArray) (q : List UInt8) (w : World) (hp : p.size = 2) (hq : p.toList = q) (hs : s.size ≤ 1000000) (h1 : 2 ≤ s.size) (h2 : ((s.extract 0 2).toList == q) = true) :
    Calls Tryd.prog 14 #[.string s, .string p] w fun e w' => e = .returned (.bool true) ∧ w' = w := by
  subst hq
  go_enter Tryd.func14, Tryd.ntmps14
  go_wp2
  go_ret
  exact ⟨rfl, rfl⟩
theorem x_list : (ByteArray.mk #[48, 120]).toList = [48, 120] := ByteArray.toList_mk [48, 120]
theorem X_list : (ByteArray.mk #[48, 88]).toList = [48, 88] := ByteArray.toList_mk [48, 88]

/-- parseIPv4Number at a decimal text. -/
theorem num10_of (s : ByteArray) (n : Int) (w : World) (hmax : s.size ≤ 1000000)
    (hp : ∀ w, Hid (Calls Tryd.prog 17 #[.string s, .int .i64 10, .int .i64 32] w fun e w' => e = .returned (.tuple #[.int .u64 n, .nilIface]) ∧ w' = Lib.bytesWorld w 5 s))
    (hx : s.size ≤ 1 ∨ ((s.extract 0 2).toList == [48, 120]) = false) (hX : s.size ≤ 1 ∨ ((s.extract 0 2).toList == [48, 88]) = false)
    (hh : s.size ≤ 1 ∨ ∃ h : 0 < s.size, ((s[0].toNat : Int) == 48) = false) :
    Calls Tryd.prog 13 #[.string s] w fun e w' => e = .returned (.tuple #[.int .u64 n, .bool true]) ∧ Below w.heap.size w w' := by
  have P1 := Lib.hid (prefix_no s ⟨#[48, 120]⟩ _ w rfl x_list hmax hx)
  have P2 := Lib.hid (prefix_no s ⟨#[48, 88]⟩ _ w rfl X_list hmax hX)
  clear hx hX
  by_cases h1 : s.size ≤ 1
  · clear hh
    go_enter Tryd.func13, Tryd.ntmps13
    go_wp2_with fail
    refine P1.out.mono ?_
    rintro e w' ⟨rfl, rfl⟩
    go_wp2_with fail
    refine P2.out.mono ?_
    rintro e w' ⟨rfl, rfl⟩
    go_wp2_with (go_at_call 15; refine (public_of _ _ _ _ (hp _)).mono ?_; rintro e w' ⟨rfl, rfl⟩)
    go_ret2
    exact ⟨rfl, Lib.bytesWorld_below _ 5 s⟩
  · obtain ⟨h0, hc⟩ := hh.resolve_left h1
    clear hh
    go_enter Tryd.func13, Tryd.ntmps13
    go_wp2_with fail
    refine P1.out.mono ?_
    rintro e w' ⟨rfl, rfl⟩
    go_wp2_with fail
    refine P2.out.mono ?_
    rintro e w' ⟨rfl, rfl⟩
    go_wp2_with (go_at_call 15; refine (public_of _ _ _ _ (hp _)).mono ?_; rintro e w' ⟨rfl, rfl⟩)
    go_ret2
    exact ⟨rfl, Lib.bytesWorld_below _ 5 s⟩

/-- parseIPv4Number at an octal text: a zero, then digits. -/
theorem num8_of (s : ByteArray) (n : Int) (w : World) (hmax : s.size ≤ 1000000) (h1 : 2 ≤ s.size)
    (hp : ∀ w, Hid (Calls Tryd.prog 17 #[.string (s.extract 1 s.size), .int .i64 8, .int .i64 32] w fun e w' => e = .returned (.tuple #[.int .u64 n, .nilIface]) ∧ w' = Lib.bytesWorld w 5 (s.extract 1 s.size)))
    (hc : ((s[0].toNat : Int) == 48) = true) (hx : ((s.extract 0 2).toList == [48, 120]) = false) (hX : ((s.extract 0 2).toList == [48, 88]) = false) :
    Calls Tryd.prog 13 #[.string s] w fun e w' => e = .returned (.tuple #[.int .u64 n, .bool true]) ∧ Below w.heap.size w w' := by
  have P1 := Lib.hid (prefix_no s ⟨#[48, 120]⟩ _ w rfl x_list hmax (Or.inr hx))
  have P2 := Lib.hid (prefix_no s ⟨#[48, 88]⟩ _ w rfl X_list hmax (Or.inr hX))
  clear hx hX
  go_enter Tryd.func13, Tryd.ntmps13
  go_wp2_with fail
  refine P1.out.mono ?_
  rintro e w' ⟨rfl, rfl⟩
  go_wp2_with fail
  refine P2.out.mono ?_
  rintro e w' ⟨rfl, rfl⟩
  go_wp2_with fail
  go_quiet (fail)
  go_wp2_with (go_at_call 15; refine (public_of _ _ _ _ (hp _)).mono ?_; rintro e w' ⟨rfl, rfl⟩)
  go_ret2
  exact ⟨rfl, drew_bytes _ _ _⟩

/-- parseIPv4Number at a hexadecimal text: '0x' or '0X', then digits. -/
theorem num16_of (s : ByteArray) (n : Int) (w : World) (hmax : s.size ≤ 1000000) (h1 : 3 ≤ s.size) (hne : (s.extract 2 s.size).toList.isEmpty = false)
    (hp : ∀ w, Hid (Calls Tryd.prog 17 #[.string (s.extract 2 s.size), .int .i64 16, .int .i64 32] w fun e w' => e = .returned (.tuple #[.int .u64 n, .nilIface]) ∧ w' = Lib.bytesWorld w 5 (s.extract 2 s.size)))
    (hx : ((s.extract 0 2).toList == [48, 120]) = true ∨ (((s.extract 0 2).toList == [48, 120]) = false ∧ ((s.extract 0 2).toList == [48, 88]) = true)) :
    Calls Tryd.prog 13 #[.string s] w fun e w' => e = .returned (.tuple #[.int .u64 n, .bool true]) ∧ Below w.heap.size w w' := by
  rcases hx with hx | ⟨hx, hX⟩
  · have P1 := Lib.hid (prefix_yes s ⟨#[48, 120]⟩ _ w rfl x_list hmax (by omega) hx)
    clear hx
    go_enter Tryd.func13, Tryd.ntmps13
    go_wp2_with fail
    refine P1.out.mono ?_
    rintro e w' ⟨rfl, rfl⟩
    go_wp2_with fail
    go_quiet (fail)
    go_wp2_with (go_at_call 15; refine (public_of _ _ _ _ (hp _)).mono ?_; rintro e w' ⟨rfl, rfl⟩)
    go_ret2
    exact ⟨rfl, drew_bytes _ _ _⟩
  · have P1 := Lib.hid (prefix_no s ⟨#[48, 120]⟩ _ w rfl x_list hmax (Or.inr hx))
    have P2 := Lib.hid (prefix_yes s ⟨#[48, 88]⟩ _ w rfl X_list hmax (by omega) hX)
    clear hx hX
    go_enter Tryd.func13, Tryd.ntmps13
    go_wp2_with fail
    refine P1.out.mono ?_
    rintro e w' ⟨rfl, rfl⟩
    go_wp2_with fail
    refine P2.out.mono ?_
    rintro e w' ⟨rfl, rfl⟩
    go_wp2_with fail
    go_quiet (fail)
    go_wp2_with (go_at_call 15; refine (public_of _ _ _ _ (hp _)).mono ?_; rintro e w' ⟨rfl, rfl⟩)
    go_ret2
    exact ⟨rfl, drew_bytes _ _ _⟩

/-- zzb1Reads over what parseIPv4Number answers. -/
theorem reads_of (s : ByteArray) (n : Int) (w : World)
    (h : Hid (Calls Tryd.prog 13 #[.string s] w fun e w' => e = .returned (.tuple #[.int .u64 n, .bool true]) ∧ Below w.heap.size w w')) :
    Calls Tryd.prog 7 #[.string s, .int .u64 n] w fun e w' => e = .returned (.bool true) ∧ Below w.heap.size w w' := by
  go_enter Tryd.func7, Tryd.ntmps7
  go_wp2_with (first | (go_at_call 13; refine h.out.mono ?_; rintro e w' ⟨rfl, hb⟩) | go_in)
  go_ret
  exact ⟨rfl, hb⟩

/-! ### The three spellings, as lists of bytes -/
theorem ba_size (l : List UInt8) : (ByteArray.mk l.toArray).size = l.length := by simp [ByteArray.size]
theorem ba_extract (l : List UInt8) (a b : Nat) : ((ByteArray.mk l.toArray).extract a b).data.toList = (l.drop a).take (b - a) := by
  rw [Lib.extract_data]
theorem ba_take2 (l : List UInt8) : ((ByteArray.mk l.toArray).extract 0 2).toList = l.take 2 := by
  rw [Lib.extract_toList]; rfl

theorem reads_dec (v : Nat) (ds : List UInt8) (w : World) (hs : Spells 10 v ds) (hv : v ≤ 4294967295) :
    Calls Tryd.prog 7 #[.string ⟨ds.toArray⟩, .int .u64 (v : Int)] w fun e w' => e = .returned (.bool true) ∧ Below w.heap.size w w' := by
  have hz := ba_size ds
  have hl := hs.len
  have hne : ds.length ≠ 0 := fun h => hs.ne (List.eq_nil_of_length_eq_zero h)
  have hd : 1 < ds.length → ∃ c r, ds = c :: r ∧ c.toNat ≠ 48 := by
    intro h1
    match ds, hs, h1 with
    | c :: r, hs, h1 =>
      have hh := hs.head (by omega)
      rw [List.head?_cons] at hh
      exact ⟨c, r, rfl, fun e => hh (by rw [show c = 48 from UInt8.toNat_inj.1 e])⟩
  have no : ∀ x : UInt8, ds.length ≤ 1 ∨ (ds.take 2 == [48, x]) = false := by
    intro x
    by_cases h1 : ds.length ≤ 1
    · exact Or.inl h1
    · right
      obtain ⟨c, r, rfl, hc⟩ := hd (by omega)
      rw [beq_eq_false_iff_ne]
      intro e
      match r, e with
      | y :: r', e =>
        have e0 : c = 48 := by simpa using (List.cons.inj e).1
        exact hc (by rw [e0]; rfl)
  refine reads_of _ _ w (num10_of _ _ w (by omega) (fun w => ?_) (by rw [ba_take2, hz]; exact no 120) (by rw [ba_take2, hz]; exact no 88) ?_)
  · have key := parse10 ⟨ds.toArray⟩ (by omega) (by omega) hs.ok (by show val 10 0 ds ≤ _; rw [hs.val]; exact hv) w
    have ev : val 10 0 (ByteArray.mk ds.toArray).data.toList = v := hs.val
    rw [ev] at key
    exact key
  · by_cases h1 : ds.length ≤ 1
    · exact Or.inl (by omega)
    · right
      refine ⟨by omega, ?_⟩
      obtain ⟨c, r, rfl, hc⟩ := hd (by omega)
      show ((c.toNat : Int) == 48) = false
      rw [beq_eq_false_iff_ne]; omega

theorem okc_zeros (b z : Nat) (hb : 1 ≤ b) (ds : List UInt8) (h : ∀ c ∈ ds, okc b c) : ∀ c ∈ List.replicate z 48 ++ ds, okc b c := by
  intro c hc
  rcases List.mem_append.1 hc with hc | hc
  · rw [List.eq_of_mem_replicate hc]
    exact ⟨Or.inl (by decide), hb⟩
  · exact h c hc

theorem reads_oct (v z : Nat) (ds : List UInt8) (w : World) (hs : Spells 8 v ds) (hv : v ≤ 4294967295) (hz : z ≤ 65536) :
    Calls Tryd.prog 7 #[.string ⟨(48 :: (List.replicate z 48 ++ ds)).toArray⟩, .int .u64 (v : Int)] w fun e w' => e = .returned (.bool true) ∧ Below w.heap.size w w' := by
  have hl := hs.len
  have hne : ds.length ≠ 0 := fun h => hs.ne (List.eq_nil_of_length_eq_zero h)
  obtain ⟨r, hr⟩ : ∃ r, r = List.replicate z 48 ++ ds := ⟨_, rfl⟩
  have hrl : r.length = z + ds.length := by rw [hr]; simp
  have hrok : ∀ c ∈ r, okc 8 c := by rw [hr]; exact okc_zeros 8 z (by omega) ds hs.ok
  have hrv : val 8 0 r = v := by rw [hr, val_zeros]; exact hs.val
  rw [← hr]
  clear hr
  have hsz := ba_size (48 :: r)
  rw [List.length_cons] at hsz
  have hex : ((ByteArray.mk (48 :: r).toArray).extract 1 (ByteArray.mk (48 :: r).toArray).size).data.toList = r := by
    rw [ba_extract, hsz]; simp
  have hxs : ((ByteArray.mk (48 :: r).toArray).extract 1 (ByteArray.mk (48 :: r).toArray).size).size = r.length := by
    rw [Lib.size_eq, hex]
  have no : ∀ x : UInt8, 57 < x.toNat → ((48 :: r).take 2 == [48, x]) = false := by
    intro x hx
    rw [beq_eq_false_iff_ne]
    intro e
    match r, hrok, hrl, e with
    | y :: r', hrok, _, e =>
      have ey : y = x := by simpa using e
      have := (okc_dec (by omega) (hrok y (by simp))).2.1
      rw [ey] at this
      omega
  refine reads_of _ _ w (num8_of _ _ w (by omega) (by omega) (fun w => ?_) rfl (by rw [ba_take2]; exact no 120 (by decide)) (by rw [ba_take2]; exact no 88 (by decide)))
  have key := parse8 ((ByteArray.mk (48 :: r).toArray).extract 1 (ByteArray.mk (48 :: r).toArray).size) (by omega) (by omega) (by rw [hex]; exact hrok) (by rw [hex, hrv]; exact hv) w
  rw [hex, hrv] at key
  exact key

theorem reads_hex (v z : Nat) (x : UInt8) (hx : x = 120 ∨ x = 88) (ds : List UInt8) (w : World) (hs : Spells 16 v ds) (hv : v ≤ 4294967295) (hz : z ≤ 65536) :
    Calls Tryd.prog 7 #[.string ⟨(48 :: x :: (List.replicate z 48 ++ ds)).toArray⟩, .int .u64 (v : Int)] w fun e w' => e = .returned (.bool true) ∧ Below w.heap.size w w' := by
  have hl := hs.len
  have hne : ds.length ≠ 0 := fun h => hs.ne (List.eq_nil_of_length_eq_zero h)
  obtain ⟨r, hr⟩ : ∃ r, r = List.replicate z 48 ++ ds := ⟨_, rfl⟩
  have hrl : r.length = z + ds.length := by rw [hr]; simp
  have hrok : ∀ c ∈ r, okc 16 c := by rw [hr]; exact okc_zeros 16 z (by omega) ds hs.ok
  have hrv : val 16 0 r = v := by rw [hr, val_zeros]; exact hs.val
  rw [← hr]
  clear hr
  have hsz := ba_size (48 :: x :: r)
  rw [List.length_cons, List.length_cons] at hsz
  have hex : ((ByteArray.mk (48 :: x :: r).toArray).extract 2 (ByteArray.mk (48 :: x :: r).toArray).size).data.toList = r := by
    rw [ba_extract, hsz]; simp
  have hxs : ((ByteArray.mk (48 :: x :: r).toArray).extract 2 (ByteArray.mk (48 :: x :: r).toArray).size).size = r.length := by
    rw [Lib.size_eq, hex]
  have hem : ((ByteArray.mk (48 :: x :: r).toArray).extract 2 (ByteArray.mk (48 :: x :: r).toArray).size).toList.isEmpty = false := by
    rw [Lib.toList_data, hex]
    rcases r with _ | ⟨y, r'⟩
    · simp at hrl; omega
    · rfl
  refine reads_of _ _ w (num16_of _ _ w (by omega) (by omega) hem (fun w => ?_) ?_)
  · have key := parse16 ((ByteArray.mk (48 :: x :: r).toArray).extract 2 (ByteArray.mk (48 :: x :: r).toArray).size) (by omega) (by omega) (by rw [hex]; exact hrok) (by rw [hex, hrv]; exact hv) w
    rw [hex, hrv] at key
    exact key
  · rw [ba_take2]
    rcases hx with rfl | rfl
    · left; rfl
    · right; exact ⟨rfl, rfl⟩
end Go.Proofs.Qxb6600148aDoor
