/-
  strconv.ParseUint and parseAtonPart, WHERE THEY SUCCEED.
-/
import Derived.Test.Qxb6601126aDoorParse
import Derived.WalkSmall
import Derived.WalkSpells
import Derived.Deep.QuietTactic
import Derived.BigQuiet
import Derived.Lib.AtoiErrMem
namespace Go.Proofs.Qxb6601126aDoor
open Go.RowKit

/-- strconv.ParseUint over its inner one's contract. -/
theorem public_of (t : ByteArray) (b n : Int) (w : World)
    (h : Hid (Calls Tryd.prog 10 #[.string t, .int .i64 b, .int .i64 32] w fun e w' => e = .returned (.tuple #[.int .u64 n, .nilIface]) ∧ w' = Lib.bytesWorld w 5 t)) :
    Calls Tryd.prog 9 #[.string t, .int .i64 b, .int .i64 32] w fun e w' => e = .returned (.tuple #[.int .u64 n, .nilIface]) ∧ w' = Lib.bytesWorld w 5 t := by
  go_enter Tryd.func9, Tryd.ntmps9
  go_wp2_with (go_at_call 10; refine h.out.mono ?_; rintro e w' ⟨rfl, rfl⟩)
  go_ret2
  exact ⟨rfl, rfl⟩

theorem data_size (l : List UInt8) : (ByteArray.mk l.toArray).size = l.length := by simp [ByteArray.size]

/-- parseAtonPart at a decimal text. -/
theorem aton10 (s : ByteArray) (w : World) (hne : s.size ≠ 0) (hmax : s.size ≤ 1000000) (hok : Hid (∀ c ∈ s.data.toList, okc 10 c)) (hv : Hid (val 10 0 s.data.toList ≤ 4294967295))
    (hh : s.size ≤ 1 ∨ ∃ h : 0 < s.size, ((s[0].toNat : Int) == 48) = false ∧ ((s.extract 0 2).toList == [48, 120]) = false ∧ ((s.extract 0 2).toList == [48, 88]) = false) :
    Calls Tryd.prog 8 #[.string s] w fun e w' => e = .returned (.tuple #[.int .u64 ((val 10 0 s.data.toList : Nat) : Int), .bool true]) ∧ Below w.heap.size w w' := by
  have hp : ∀ w, Hid (Calls Tryd.prog 10 #[.string s, .int .i64 10, .int .i64 32] w fun e w' => e = .returned (.tuple #[.int .u64 ((val 10 0 s.data.toList : Nat) : Int), .nilIface]) ∧ w' = Lib.bytesWorld w 5 s) := fun w => parse10 s hne (by omega) hok hv w
  by_cases h1 : s.size ≤ 1
  · clear hh
    go_enter Tryd.func8, Tryd.ntmps8
    go_wp2_with (go_at_call 9; refine (public_of _ _ _ _ (hp _)).mono ?_; rintro e w' ⟨rfl, rfl⟩)
    go_quiet (fail)
    go_wp2
    go_ret2
    exact ⟨rfl, below_drewN (Lib.bytesWorld_below w 5 s) _⟩
  · obtain ⟨h0, hc, hx, hX⟩ := hh.resolve_left h1
    clear hh
    go_enter Tryd.func8, Tryd.ntmps8
    go_wp2_with (go_at_call 9; refine (public_of _ _ _ _ (hp _)).mono ?_; rintro e w' ⟨rfl, rfl⟩)
    go_quiet (fail)
    go_wp2
    go_ret2
    exact ⟨rfl, below_drewN (Lib.bytesWorld_below w 5 s) _⟩

/-- parseAtonPart at an octal text: a zero, then digits. -/
theorem aton8_of (s : ByteArray) (n : Int) (w : World) (hmax : s.size ≤ 1000000) (h1 : 2 ≤ s.size)
    (hp : ∀ w, Hid (Calls Tryd.prog 10 #[.string (s.extract 1 s.size), .int .i64 8, .int .i64 32] w fun e w' => e = .returned (.tuple #[.int .u64 n, .nilIface]) ∧ w' = Lib.bytesWorld w 5 (s.extract 1 s.size)))
    (hc : ((s[0].toNat : Int) == 48) = true) (hx : ((s.extract 0 2).toList == [48, 120]) = false) (hX : ((s.extract 0 2).toList == [48, 88]) = false) :
    Calls Tryd.prog 8 #[.string s] w fun e w' => e = .returned (.tuple #[.int .u64 n, .bool true]) ∧ Below w.heap.size w w' := by
  go_enter Tryd.func8, Tryd.ntmps8
  go_wp2_with fail
  go_quiet (fail)
  go_wp2_with (go_at_call 9; refine (public_of _ _ _ _ (hp _)).mono ?_; rintro e w' ⟨rfl, rfl⟩)
  go_quiet (fail)
  go_wp2
  go_ret2
  exact ⟨rfl, below_drewN ((below_drewN (Below.refl _ w) _).trans (Lib.bytesWorld_below _ 5 _)) _⟩

/-- parseAtonPart at a hexadecimal text: '0x' or '0X', then digits. -/
theorem aton16_of (s : ByteArray) (n : Int) (w : World) (hmax : s.size ≤ 1000000) (h1 : 3 ≤ s.size)
    (hp : ∀ w, Hid (Calls Tryd.prog 10 #[.string (s.extract 2 s.size), .int .i64 16, .int .i64 32] w fun e w' => e = .returned (.tuple #[.int .u64 n, .nilIface]) ∧ w' = Lib.bytesWorld w 5 (s.extract 2 s.size)))
    (hx : ((s.extract 0 2).toList == [48, 120]) = true ∨ (((s.extract 0 2).toList == [48, 120]) = false ∧ ((s.extract 0 2).toList == [48, 88]) = true)) :
    Calls Tryd.prog 8 #[.string s] w fun e w' => e = .returned (.tuple #[.int .u64 n, .bool true]) ∧ Below w.heap.size w w' := by
  rcases hx with hx | ⟨hx, hX⟩
  all_goals
    go_enter Tryd.func8, Tryd.ntmps8
    go_wp2_with fail
    go_quiet (fail)
    go_wp2_with (go_at_call 9; refine (public_of _ _ _ _ (hp _)).mono ?_; rintro e w' ⟨rfl, rfl⟩)
    go_quiet (fail)
    go_wp2
    go_ret2
    exact ⟨rfl, below_drewN ((below_drewN (Below.refl _ w) _).trans (Lib.bytesWorld_below _ 5 _)) _⟩

theorem zzaton (s : ByteArray) (n : Int) (w : World)
    (h : Hid (Calls Tryd.prog 8 #[.string s] w fun e w' => e = .returned (.tuple #[.int .u64 n, .bool true]) ∧ Below w.heap.size w w')) :
    Calls Tryd.prog 6 #[.string s] w fun e w' => e = .returned (.tuple #[.int .u64 n, .bool true]) ∧ Below w.heap.size w w' := by
  go_enter Tryd.func6, Tryd.ntmps6
  go_wp2_with (go_at_call 8; refine h.out.mono ?_; rintro e w' ⟨rfl, hb⟩)
  go_ret2
  exact ⟨rfl, hb⟩

/-! ### The three forms, as lists of bytes -/
theorem ba_size (l : List UInt8) : (ByteArray.mk l.toArray).size = l.length := by simp [ByteArray.size]
theorem ba_extract (l : List UInt8) (a b : Nat) : ((ByteArray.mk l.toArray).extract a b).data.toList = (l.drop a).take (b - a) := by
  rw [Lib.extract_data]
theorem ba_take2 (l : List UInt8) : ((ByteArray.mk l.toArray).extract 0 2).toList = l.take 2 := by
  rw [Lib.extract_toList]; rfl

theorem aton_dec (v : Nat) (ds : List UInt8) (w : World) (hs : Spells 10 v ds) (hv : v ≤ 4294967295) :
    Calls Tryd.prog 6 #[.string ⟨ds.toArray⟩] w fun e w' => e = .returned (.tuple #[.int .u64 (v : Int), .bool true]) ∧ Below w.heap.size w w' := by
  have hz := ba_size ds
  have hl := hs.len
  have hne : ds.length ≠ 0 := fun h => hs.ne (List.eq_nil_of_length_eq_zero h)
  have key := aton10 ⟨ds.toArray⟩ w (by omega) (by omega) hs.ok (by show val 10 0 ds ≤ _; rw [hs.val]; exact hv) (by
    by_cases h1 : ds.length ≤ 1
    · exact Or.inl (by omega)
    · right
      refine ⟨by omega, ?_⟩
      match ds, hs, h1 with
      | c :: r, hs, h1 =>
        have hh := hs.head (by omega)
        rw [List.head?_cons] at hh
        have hc : c.toNat ≠ 48 := fun e => hh (by rw [show c = 48 from UInt8.toNat_inj.1 e])
        refine ⟨?_, ?_, ?_⟩
        · show ((c.toNat : Int) == 48) = false
          rw [beq_eq_false_iff_ne]; omega
        · rw [ba_take2, beq_eq_false_iff_ne]
          intro e
          match r, e with
          | x :: r', e =>
            have e0 : c = 48 := by simpa using (List.cons.inj e).1
            exact hc (by rw [e0]; rfl)
        · rw [ba_take2, beq_eq_false_iff_ne]
          intro e
          match r, e with
          | x :: r', e =>
            have e0 : c = 48 := by simpa using (List.cons.inj e).1
            exact hc (by rw [e0]; rfl))
  have ev : val 10 0 (ByteArray.mk ds.toArray).data.toList = v := hs.val
  rw [ev] at key
  exact zzaton _ _ w key

theorem okc_zeros (b z : Nat) (hb : 1 ≤ b) (ds : List UInt8) (h : ∀ c ∈ ds, okc b c) : ∀ c ∈ List.replicate z 48 ++ ds, okc b c := by
  intro c hc
  rcases List.mem_append.1 hc with hc | hc
  · rw [List.eq_of_mem_replicate hc]
    exact ⟨Or.inl (by decide), hb⟩
  · exact h c hc

theorem aton_oct (v z : Nat) (ds : List UInt8) (w : World) (hs : Spells 8 v ds) (hv : v ≤ 4294967295) (hz : z ≤ 65536) :
    Calls Tryd.prog 6 #[.string ⟨(48 :: (List.replicate z 48 ++ ds)).toArray⟩] w fun e w' => e = .returned (.tuple #[.int .u64 (v : Int), .bool true]) ∧ Below w.heap.size w w' := by
  have hl := hs.len
  have hne : ds.length ≠ 0 := fun h => hs.ne (List.eq_nil_of_length_eq_zero h)
  obtain ⟨r, hr⟩ : ∃ r, r = List.replicate z 48 ++ ds := ⟨_, rfl⟩
  have hrl : r.length = z + ds.length := by rw [hr]; simp
  have hrok : ∀ c ∈ r, okc 8 c := by rw [hr]; exact okc_zeros 8 z (by omega) ds hs.ok
  have hrv : val 8 0 r = v := by rw [hr, val_zeros]; exact hs.val
  rw [← hr]
  clear hr
  have hsz := ba_size (48 :: r)
  rw [List.length_cons] at hsz
  have hex : ((ByteArray.mk (48 :: r).toArray).extract 1 (ByteArray.mk (48 :: r).toArray).size).data.toList = r := by
    rw [ba_extract, hsz]; simp
  have hxs : ((ByteArray.mk (48 :: r).toArray).extract 1 (ByteArray.mk (48 :: r).toArray).size).size = r.length := by
    rw [Lib.size_eq, hex]
  have no : ∀ x : UInt8, 57 < x.toNat → ((48 :: r).take 2 == [48, x]) = false := by
    intro x hx
    rw [beq_eq_false_iff_ne]
    intro e
    match r, hrok, hrl, e with
    | y :: r', hrok, _, e =>
      have ey : y = x := by simpa using e
      have := (okc_dec (by omega) (hrok y (by simp))).2.1
      rw [ey] at this
      omega
  refine zzaton _ _ w (aton8_of _ _ w (by omega) (by omega) (fun w => ?_) rfl (by rw [ba_take2]; exact no 120 (by decide)) (by rw [ba_take2]; exact no 88 (by decide)))
  have key := parse8 ((ByteArray.mk (48 :: r).toArray).extract 1 (ByteArray.mk (48 :: r).toArray).size) (by omega) (by omega) (by rw [hex]; exact hrok) (by rw [hex, hrv]; exact hv) w
  rw [hex, hrv] at key
  exact key

theorem aton_hex (v z : Nat) (x : UInt8) (hx : x = 120 ∨ x = 88) (ds : List UInt8) (w : World) (hs : Spells 16 v ds) (hv : v ≤ 4294967295) (hz : z ≤ 65536) :
    Calls Tryd.prog 6 #[.string ⟨(48 :: x :: (List.replicate z 48 ++ ds)).toArray⟩] w fun e w' => e = .returned (.tuple #[.int .u64 (v : Int), .bool true]) ∧ Below w.heap.size w w' := by
  have hl := hs.len
  have hne : ds.length ≠ 0 := fun h => hs.ne (List.eq_nil_of_length_eq_zero h)
  obtain ⟨r, hr⟩ : ∃ r, r = List.replicate z 48 ++ ds := ⟨_, rfl⟩
  have hrl : r.length = z + ds.length := by rw [hr]; simp
  have hrok : ∀ c ∈ r, okc 16 c := by rw [hr]; exact okc_zeros 16 z (by omega) ds hs.ok
  have hrv : val 16 0 r = v := by rw [hr, val_zeros]; exact hs.val
  rw [← hr]
  clear hr
  have hsz := ba_size (48 :: x :: r)
  rw [List.length_cons, List.length_cons] at hsz
  have hex : ((ByteArray.mk (48 :: x :: r).toArray).extract 2 (ByteArray.mk (48 :: x :: r).toArray).size).data.toList = r := by
    rw [ba_extract, hsz]; simp
  have hxs : ((ByteArray.mk (48 :: x :: r).toArray).extract 2 (ByteArray.mk (48 :: x :: r).toArray).size).size = r.length := by
    rw [Lib.size_eq, hex]
  refine zzaton _ _ w (aton16_of _ _ w (by omega) (by omega) (fun w => ?_) ?_)
  · have key := parse16 ((ByteArray.mk (48 :: x :: r).toArray).extract 2 (ByteArray.mk (48 :: x :: r).toArray).size) (by omega) (by omega) (by rw [hex]; exact hrok) (by rw [hex, hrv]; exact hv) w
    rw [hex, hrv] at key
    exact key
  · rw [ba_take2]
    rcases hx with rfl | rfl
    · left; rfl
    · right; exact ⟨rfl, rfl⟩
end Go.Proofs.Qxb6601126aDoor
