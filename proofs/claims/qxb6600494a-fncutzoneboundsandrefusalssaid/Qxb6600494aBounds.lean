import Derived.Test.Qxb6600494aLaw
import Derived.Deep.QuietTactic
import Derived.BigQuiet
namespace Go.Proofs.Qxb6600494a
open Go.RowKit

theorem dig_range {a : UInt8} (h : Pl.dig a = true) : 48 ≤ (a.toNat : Int) ∧ (a.toNat : Int) ≤ 57 := by
  unfold Pl.dig at h
  rw [Bool.and_eq_true, decide_eq_true_eq, decide_eq_true_eq] at h
  omega

set_option maxHeartbeats 400000 in
theorem is_digit (n : Int) (w : World) (l : 48 ≤ n) (u : n ≤ 57) : Calls Try.prog 11 #[.int .u8 n] w fun e w' => e = .returned (.bool true) ∧ w' = w := by
  have h1 : decide (48 ≤ n) = true := by simpa using l
  have h2 : decide (n ≤ 57) = true := by simpa using u
  go_enter Try.func11, Try.ntmps11
  go_wp2
  go_ret
  exact ⟨rfl, rfl⟩

theorem at_list {s : ByteArray} {c a b : UInt8} {t : List UInt8} (h : s.data.toList = c :: a :: b :: t) : 3 ≤ s.size ∧ (∀ hh : 0 < s.size, s[0] = c) ∧ (∀ hh : 1 < s.size, s[1] = a) ∧ (∀ hh : 2 < s.size, s[2] = b) := by
  have hl : s.data.toList.length = s.size := by simp
  refine ⟨by rw [← hl, h]; simp, fun hh => ?_, fun hh => ?_, fun hh => ?_⟩
  · have : s[0] = s.data.toList[0]'(by rw [hl]; exact hh) := rfl
    rw [this]; simp [h]
  · have : s[1] = s.data.toList[1]'(by rw [hl]; exact hh) := rfl
    rw [this]; simp [h]
  · have : s[2] = s.data.toList[2]'(by rw [hl]; exact hh) := rfl
    rw [this]; simp [h]

set_option maxHeartbeats 400000 in
theorem two_read (s : ByteArray) (c a b : UInt8) (t : List UInt8) (h : s.data.toList = c :: a :: b :: t) (ha : Pl.dig a = true) (hb : Pl.dig b = true) (hs : s.size ≤ 2097152) (w : World) :
    Calls Try.prog 9 #[.string s, .int .i64 1] w fun e w' => e = .returned (.tuple #[.int .i64 (((a.toNat : Int) - 48) * 10 + ((b.toNat : Int) - 48)), .bool true]) ∧ Below w.heap.size w w' := by
  obtain ⟨h3, g0, g1, g2⟩ := at_list h
  obtain ⟨la, ua⟩ := dig_range ha
  obtain ⟨lb, ub⟩ := dig_range hb
  clear h ha hb g0
  have l1 : 1 < s.size := by omega
  have l2 : 2 < s.size := by omega
  go_enter Try.func9, Try.ntmps9
  go_wp2_with (first | (go_at_call 11; refine (is_digit _ _ (by omega) (by omega)).mono ?_; rintro e w' ⟨rfl, rfl⟩))
  go_region
  go_wp2
  go_ret2
  exact ⟨rfl, (Below.refl _ _).drew⟩

set_option maxHeartbeats 400000 in
theorem bnd_big (a0 : Int) (s : ByteArray) (w1 : s.size ≤ maxLen) (w : World) (hb : 1048576 < s.size) :
    Calls Try.prog 4 #[.int .i64 a0, .string s] w fun e w' => e = .returned (.bool true) ∧ Below w.heap.size w w' := by
  unfold maxLen at w1
  go_enter Try.func4, Try.ntmps4
  go_wp2
  go_ret
  exact ⟨rfl, Below.refl _ _⟩

set_option maxHeartbeats 400000 in
theorem bnd_none (a0 : Int) (s : ByteArray) (w : World) (hs : s.size ≤ 1048576) (h : Pl.zone s.data.toList = none) :
    Calls Try.prog 4 #[.int .i64 a0, .string s] w fun e w' => e = .returned (.bool true) ∧ Below w.heap.size w w' := by
  have H : Hid (Pl.zone s.data.toList = none) := h
  clear h
  go_enter Try.func4, Try.ntmps4
  go_wp2_with (first | (go_at_call 8; go_in) | (go_at_call 7; refine (zz_none _ _ _ (by omega) H.out).mono ?_; rintro e w' ⟨rfl, hb⟩))
  go_ret
  exact ⟨rfl, hb⟩

set_option maxHeartbeats 1000000 in
theorem bnd_some (a0 : Int) (s r : ByteArray) (o : Int) (w : World) (hs : s.size ≤ 1048576) (h : Pl.zone s.data.toList = some (o, r.data.toList)) :
    Calls Try.prog 4 #[.int .i64 a0, .string s] w fun e w' => e = .returned (.bool true) ∧ Below w.heap.size w w' := by
  obtain ⟨c, a, b, t, k, hl, hc, da, db, h15, hk, hr, hks, hpos, hneg⟩ := Pl.zone_some h
  have H : Hid (Pl.zone s.data.toList = some (o, r.data.toList)) := h
  have HL : Hid (s.data.toList = c :: a :: b :: t) := hl
  obtain ⟨h3, g0, _, _⟩ := at_list hl
  have hsz : s.data.toList.length = s.size := by simp
  have hn : (s.size : Int) - (r.size : Int) = k := by
    have hrz : r.data.toList.length = r.size := by simp
    rw [← hrz, hr, List.length_drop, hsz]
    omega
  have hsl : s.extract k s.size = r := by
    apply Go.WideShapes.bytes_inj
    rw [extract_list, hr]
  have l0 : 0 < s.size := by omega
  rw [hsz] at hks
  have va : Pl.val a = (a.toNat : Int) - 48 := rfl
  have vb : Pl.val b = (b.toNat : Int) - 48 := rfl
  obtain ⟨la, ua⟩ := dig_range da
  obtain ⟨lb, ub⟩ := dig_range db
  rw [va, vb] at h15 hpos hneg
  have DA : Hid (Pl.dig a = true) := da
  have DB : Hid (Pl.dig b = true) := db
  clear h hl hsz hr va vb da db
  rcases hc with rfl | rfl
  · obtain ⟨o1, o2⟩ := hpos rfl
    have hq : o / 3600 = ((a.toNat : Int) - 48) * 10 + ((b.toNat : Int) - 48) := by omega
    have o0 : 0 ≤ o := by omega
    have o9 : o ≤ 57599 := by omega
    clear hpos hneg
    rcases hk with rfl | rfl | rfl
    all_goals
      go_enter Try.func4, Try.ntmps4
      go_wp2_with (first | (go_at_call 8; go_in) | (go_at_call 7; refine (zz_some _ _ r o _ (by omega) H.out).mono ?_; rintro e w1 ⟨rfl, hb1⟩) | (go_at_call 9; refine (two_read _ _ _ _ _ HL.out DA.out DB.out (by omega) _).mono ?_; rintro e w2 ⟨rfl, hb2⟩))
      all_goals
        go_ret
        exact ⟨rfl, hb1.trans (hb2.mono hb1.size)⟩
  · obtain ⟨p, rfl⟩ : ∃ p, o = -p := ⟨-o, by omega⟩
    obtain ⟨o1, o2⟩ := hneg rfl
    rw [Int.neg_neg] at o1 o2
    clear hpos hneg
    by_cases hp : p = 0
    · subst hp
      have ea : (a.toNat : Int) = 48 := by omega
      have eb : (b.toNat : Int) = 48 := by omega
      rw [Int.neg_zero] at H
      clear o1 o2 h15 la lb ua ub
      rcases hk with rfl | rfl | rfl
      all_goals
        go_enter Try.func4, Try.ntmps4
        go_wp2_with (first | (go_at_call 8; go_in) | (go_at_call 7; refine (zz_some _ _ r 0 _ (by omega) H.out).mono ?_; rintro e w1 ⟨rfl, hb1⟩) | (go_at_call 9; refine (two_read _ _ _ _ _ HL.out DA.out DB.out (by omega) _).mono ?_; rintro e w2 ⟨rfl, hb2⟩))
        all_goals
          go_ret
          exact ⟨rfl, hb1.trans (hb2.mono hb1.size)⟩
    · have hq : p / 3600 = ((a.toNat : Int) - 48) * 10 + ((b.toNat : Int) - 48) := by omega
      have o0 : 0 < p := by omega
      have o9 : p ≤ 57599 := by omega
      clear hp
      rcases hk with rfl | rfl | rfl
      all_goals
        go_enter Try.func4, Try.ntmps4
        go_wp2_with (first | (go_at_call 8; go_in) | (go_at_call 7; refine (zz_some _ _ r (-p) _ (by omega) H.out).mono ?_; rintro e w1 ⟨rfl, hb1⟩) | (go_at_call 9; refine (two_read _ _ _ _ _ HL.out DA.out DB.out (by omega) _).mono ?_; rintro e w2 ⟨rfl, hb2⟩))
        all_goals
          go_ret
          exact ⟨rfl, hb1.trans (hb2.mono hb1.size)⟩
end Go.Proofs.Qxb6600494a
