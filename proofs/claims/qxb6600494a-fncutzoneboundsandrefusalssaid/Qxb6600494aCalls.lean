import Derived.Test.Qxb6600494aProg
import Derived.Test.Qxb6600494aPlain
import Derived.WalkKit
import Derived.ProofKit
import Derived.WalkSpells
import Derived.WalkLawsBesides
import Derived.Laws.IdiomStrings
namespace Go.Proofs.Qxb6600494a
open Go.RowKit

theorem two_cell (n : Int) (h0 : 0 ≤ n) (h1 : n ≤ 99) : Value.int .u8 (48 + n / 10) = .int .u8 (((UInt8.ofNat (48 + n / 10).toNat)).toNat : Int) ∧ Value.int .u8 (48 + n % 10) = .int .u8 (((UInt8.ofNat (48 + n % 10).toNat)).toNat : Int) := by
  rw [UInt8.toNat_ofNat', UInt8.toNat_ofNat']
  constructor <;> (congr 1; omega)

set_option maxHeartbeats 400000 in
theorem two_any (n : Int) (w : World) (h0 : 0 ≤ n) (h1 : n ≤ 99) :
    Calls Try.prog 6 #[.int .i64 n] w fun e w' => e = .returned (.string ⟨(Pl.two n).toArray⟩) ∧ Below w.heap.size w w' := by
  have hcb := run_convert_bytes_back (P := Try.prog) (w.alloc (.cells #[.int .u8 (48 + n / 10), .int .u8 (48 + n % 10)] 5)) 29 9 5 ⟨w.heap.size, 0, none⟩ 2 (Pl.two n) Try.underlying29 Try.underlying5 Try.underlying9 (by
    intro j hj
    have : j = 0 ∨ j = 1 := by simp [Pl.two] at hj; omega
    obtain ⟨e0, e1⟩ := two_cell n h0 h1
    rcases this with rfl | rfl
    · simpa [Addr.add, Pl.two] using e0
    · simpa [Addr.add, Pl.two] using e1)
  have hl : (Pl.two n).length = 2 := rfl
  rw [hl] at hcb
  clear hl
  generalize Pl.two n = t at *
  go_enter Try.func6, Try.ntmps6
  go_wp2
  go_ret
  exact ⟨rfl, (Below.refl _ _).alloc (Nat.le_refl _) _⟩

set_option maxHeartbeats 400000 in
theorem dig_short (s : ByteArray) (w : World) (h : s.size < 2) :
    Calls Try.prog 12 #[.string s, .int .i64 2] w fun e w' => e = .returned (.tuple #[.int .i64 0, .bool false]) ∧ Below w.heap.size w w' := by
  go_enter Try.func12, Try.ntmps12
  go_wp2
  go_ret2
  exact ⟨rfl, Below.refl _ _⟩

theorem conv_two (s : ByteArray) (a b : UInt8) (t : List UInt8) (hs : s.data.toList = a :: b :: t) (w : World) :
    ∃ cap wx, (convert 9 29 (.string (s.extract 0 2))).run Try.prog w = .ok (.slice (some ⟨w.heap.size, 0, none⟩) 2 cap) wx ∧ wx.cell? ⟨w.heap.size, 0, none⟩ = some (.int .u8 (a.toNat : Int)) ∧
      wx.cell? ⟨w.heap.size, 1, none⟩ = some (.int .u8 (b.toNat : Int)) ∧ Below w.heap.size w wx := by
  have hx : s.extract 0 2 = ⟨#[a, b]⟩ := by
    apply ByteArray.ext
    rw [ByteArray.data_extract]
    apply Array.ext'
    rw [Array.toList_extract, hs]
    rfl
  rw [hx]
  refine ⟨_, _, run_bytes_of_string w 9 29 5 ⟨#[a, b]⟩ Try.underlying9 Try.underlying29 Try.underlying5, ?_, ?_, (Below.refl _ w).drew.alloc (Nat.le_refl _) _⟩
  · exact (World.cell?_alloc_mark w.drew _ _ _ 0).trans (bytesRow_at ⟨#[a, b]⟩ _ 0 (by show 0 < 2; omega))
  · exact (World.cell?_alloc_mark w.drew _ _ _ 1).trans (bytesRow_at ⟨#[a, b]⟩ _ 1 (by show 1 < 2; omega))

/-- How cutDigits ends at two bytes a, b. -/
def digEnd (a b : UInt8) : Value := if Pl.dig a && Pl.dig b then .tuple #[.int .i64 (Pl.val a * 10 + Pl.val b), .bool true] else .tuple #[.int .i64 0, .bool false]

theorem digEnd_yes {a b : UInt8} (ha : Pl.dig a = true) (hb : Pl.dig b = true) : Ending.returned (.tuple #[.int .i64 (Pl.val a * 10 + Pl.val b), .bool true]) = .returned (digEnd a b) := by
  simp [digEnd, ha, hb]

theorem digEnd_no {a b : UInt8} (h : (Pl.dig a && Pl.dig b) = false) : Ending.returned (.tuple #[.int .i64 0, .bool false]) = .returned (digEnd a b) := by
  simp only [digEnd, h]; rfl

theorem dig_lo {a : UInt8} (h : (a.toNat : Int) < 48) : Pl.dig a = false := by
  unfold Pl.dig; rw [Bool.and_eq_false_iff, decide_eq_false_iff_not]; left; omega
theorem dig_out {a : UInt8} (h : (a.toNat : Int) < 48 ∨ 57 < (a.toNat : Int)) : Pl.dig a = false := by
  unfold Pl.dig; rw [Bool.and_eq_false_iff, decide_eq_false_iff_not, decide_eq_false_iff_not]; omega
theorem dig_in {a : UInt8} (h : 48 ≤ (a.toNat : Int) ∧ (a.toNat : Int) ≤ 57) : Pl.dig a = true := by
  unfold Pl.dig; rw [Bool.and_eq_true, decide_eq_true_eq, decide_eq_true_eq]; omega

set_option maxHeartbeats 400000 in
theorem dig_long (s : ByteArray) (a b : UInt8) (t : List UInt8) (hs : s.data.toList = a :: b :: t) (w : World) (hz : s.size ≤ maxLen) :
    Calls Try.prog 12 #[.string s, .int .i64 2] w fun e w' => e = .returned (digEnd a b) ∧ Below w.heap.size w w' := by
  have h2 : 2 ≤ s.size := by
    have : s.data.toList.length = s.size := by simp
    rw [hs] at this
    simp at this
    omega
  unfold maxLen at hz
  obtain ⟨cap, wx, hcv, c0, c1, hB⟩ := conv_two s a b t hs w
  clear hs
  have la : (a.toNat : Int) ≤ 255 := by have := a.toNat_lt; omega
  have lb : (b.toNat : Int) ≤ 255 := by have := b.toNat_lt; omega
  have HB : Hid (Below w.heap.size w wx) := hB
  clear hB
  go_enter Try.func12, Try.ntmps12
  go_wp2
  go_loop [6, 18] (fun v i => (i = .int .i64 0 ∧ v = .int .i64 0) ∨ (i = .int .i64 1 ∧ v = .int .i64 ((a.toNat : Int) - 48) ∧ Hid (Pl.dig a = true)) ∨ (i = .int .i64 2 ∧ v = .int .i64 (Pl.val a * 10 + Pl.val b) ∧ Hid (Pl.dig a = true) ∧ Hid (Pl.dig b = true))) (fun _ i => 2 - (intOf i).toNat)
  case atStart => exact Or.inl ⟨rfl, rfl⟩
  case round =>
    rcases hrel with ⟨rfl, rfl⟩ | ⟨rfl, rfl, ha⟩ | ⟨rfl, rfl, ha, hb⟩
    · go_wp2
      · go_ret2
        exact ⟨digEnd_no (by rw [dig_out ‹_›]; rfl), HB.out⟩
      · go_round
        case rel => exact Or.inr (Or.inl ⟨rfl, rfl, dig_in ‹_›⟩)
        case measure => simp [intOf]
      · go_ret2
        exact ⟨digEnd_no (by rw [dig_lo ‹_›]; rfl), HB.out⟩
    · go_wp2
      · go_ret2
        exact ⟨digEnd_no (by rw [dig_out (a := b) ‹_›]; simp), HB.out⟩
      · go_round
        case rel => exact Or.inr (Or.inr ⟨rfl, rfl, ha, dig_in ‹_›⟩)
        case measure => simp [intOf]
      · go_ret2
        exact ⟨digEnd_no (by rw [dig_lo (a := b) ‹_›]; simp), HB.out⟩
    · go_wp2
      go_ret2
      exact ⟨digEnd_yes ha.out hb.out, HB.out⟩

theorem dig_some (s : ByteArray) (v : Int) (h : Pl.cutDig s.data.toList = some v) (w : World) (hz : s.size ≤ maxLen) :
    Calls Try.prog 12 #[.string s, .int .i64 2] w fun e w' => e = .returned (.tuple #[.int .i64 v, .bool true]) ∧ Below w.heap.size w w' := by
  obtain ⟨a, b, t, hs, ha, hb, rfl⟩ := Pl.cutDig_some h
  rw [digEnd_yes ha hb]
  exact dig_long s a b t hs w hz

theorem dig_none (s : ByteArray) (h : Pl.cutDig s.data.toList = none) (w : World) (hz : s.size ≤ maxLen) :
    Calls Try.prog 12 #[.string s, .int .i64 2] w fun e w' => e = .returned (.tuple #[.int .i64 0, .bool false]) ∧ Below w.heap.size w w' := by
  have hl : s.data.toList.length = s.size := by simp
  match hs : s.data.toList with
  | [] => exact dig_short s w (by rw [← hl, hs]; simp)
  | [a] => exact dig_short s w (by rw [← hl, hs]; simp)
  | a :: b :: t =>
    rw [hs] at h
    have hd : (Pl.dig a && Pl.dig b) = false := by
      cases hx : (Pl.dig a && Pl.dig b) with
      | false => rfl
      | true => simp [Pl.cutDig, hx] at h
    rw [digEnd_no hd]
    exact dig_long s a b t hs w hz

theorem toList_data (s : ByteArray) : s.toList = s.data.toList := ByteArray.toList_eq s

theorem extract_list (s : ByteArray) (k : Nat) : (s.extract k s.size).data.toList = s.data.toList.drop k := by
  rw [ByteArray.data_extract, Array.toList_extract]
  have : s.data.toList.length = s.size := by simp
  rw [List.extract_eq_take_drop]
  apply List.take_of_length_le
  rw [List.length_drop]
  omega

theorem pre_list (s : ByteArray) : ((s.extract 0 1).toList == [58]) = (s.data.toList.head? == some 58) := by
  rw [toList_data, ByteArray.data_extract, Array.toList_extract, List.extract_eq_take_drop]
  cases h : s.data.toList with
  | nil => rfl
  | cons c t => simp

set_option maxHeartbeats 400000 in
theorem cp_yes (s : ByteArray) (w : World) (hz : s.size ≤ maxLen) (h : s.data.toList.head? = some 58) :
    Calls Try.prog 13 #[.string s, .string ⟨#[58]⟩] w fun e w' => e = .returned (.tuple #[.string (s.extract 1 s.size), .bool true]) ∧ w' = w := by
  unfold maxLen at hz
  have h1 : 1 ≤ s.size := by
    have hl : s.data.toList.length = s.size := by simp
    rw [← hl]
    cases hs : s.data.toList with
    | nil => rw [hs] at h; cases h
    | cons c t => simp
  have hp : ((s.extract 0 1).toList == [58]) = true := by rw [pre_list, h]; rfl
  clear h
  go_enter Try.func13, Try.ntmps13
  go_wp2
  go_ret2
  exact ⟨rfl, rfl⟩

set_option maxHeartbeats 400000 in
theorem cp_no (s : ByteArray) (w : World) (hz : s.size ≤ maxLen) (h : s.data.toList.head? ≠ some 58) :
    Calls Try.prog 13 #[.string s, .string ⟨#[58]⟩] w fun e w' => e = .returned (.tuple #[.string s, .bool false]) ∧ w' = w := by
  unfold maxLen at hz
  have hp : ((s.extract 0 1).toList == [58]) = false := by
    rw [pre_list]; simpa using h
  clear h
  by_cases h1 : 1 ≤ s.size
  · go_enter Try.func13, Try.ntmps13
    go_wp2
    go_ret2
    exact ⟨rfl, rfl⟩
  · have h1' : s.size < 1 := by omega
    clear h1
    go_enter Try.func13, Try.ntmps13
    go_wp2
    go_ret2
    exact ⟨rfl, rfl⟩

/-- How cutZone ends: refused, or the offset laid in its field. -/
def ZoneEnd (s : ByteArray) (bt : Nat) (w : World) (e : Ending) (w' : World) : Prop :=
  (Pl.zone s.data.toList = none ∧ e = .returned (.tuple #[.string s, .bool false]) ∧ Below w.heap.size w w') ∨
  (∃ o r, Pl.zone s.data.toList = some (o, r.data.toList) ∧ e = .returned (.tuple #[.string r, .bool true]) ∧ w'.cell? ⟨bt, 7, none⟩ = some (.int .i64 o) ∧ Below bt w w')

set_option maxHeartbeats 400000 in
theorem zone_empty (s : ByteArray) (bt : Nat) (w : World) (h : s.data.toList = []) :
    Calls Try.prog 10 #[.pointer (some ⟨bt, 0, none⟩), .string s] w (ZoneEnd s bt w) := by
  have hz : Hid (Pl.zone s.data.toList = none) := by rw [h]; rfl
  have he : s.toList.isEmpty = true := by rw [toList_data, h]; rfl
  clear h
  go_enter Try.func10, Try.ntmps10
  go_wp2
  go_ret2
  exact Or.inl ⟨hz.out, rfl, Below.refl _ _⟩

theorem first_of {s : ByteArray} {c : UInt8} {t : List UInt8} (h : s.data.toList = c :: t) : 0 < s.size ∧ s.toList.isEmpty = false ∧ ∀ hh : 0 < s.size, s[0] = c := by
  have hl : s.data.toList.length = s.size := by simp
  refine ⟨by rw [← hl, h]; simp, by rw [toList_data, h]; rfl, fun hh => ?_⟩
  have : s[0] = s.data.toList[0]'(by rw [hl]; exact hh) := rfl
  rw [this]
  simp [h]

theorem ne_lit {c d : UInt8} (h : c ≠ d) : ¬ (c.toNat : Int) = (d.toNat : Int) := fun e => h (UInt8.toNat_inj.1 (by omega))

set_option maxHeartbeats 400000 in
theorem zone_sign (s : ByteArray) (bt : Nat) (w : World) (c : UInt8) (t : List UInt8) (h : s.data.toList = c :: t) (hc : ¬ (c = 43 ∨ c = 45)) :
    Calls Try.prog 10 #[.pointer (some ⟨bt, 0, none⟩), .string s] w (ZoneEnd s bt w) := by
  have hz : Hid (Pl.zone s.data.toList = none) := by show Pl.zone s.data.toList = none; rw [h]; simp only [Pl.zone, if_neg hc]
  obtain ⟨h0, he, hg⟩ := first_of h
  have n43 : ¬ (c.toNat : Int) = 43 := ne_lit (c := c) (d := 43) (fun e => hc (Or.inl e))
  have n45 : ¬ (c.toNat : Int) = 45 := ne_lit (c := c) (d := 45) (fun e => hc (Or.inr e))
  have b43 : ((c.toNat : Int) != 43) = true := by rw [bne_iff_ne]; exact n43
  have b45 : ((c.toNat : Int) != 45) = true := by rw [bne_iff_ne]; exact n45
  clear h hc
  go_enter Try.func10, Try.ntmps10
  go_wp2
  go_ret2
  exact Or.inl ⟨hz.out, rfl, Below.refl _ _⟩

/-- The sign's byte is one of the two: the tests on it. -/
theorem sign_tests {c : UInt8} (hc : c = 43 ∨ c = 45) : (((c.toNat : Int) != 43) && ((c.toNat : Int) != 45)) = false := by
  rcases hc with rfl | rfl <;> decide

set_option maxHeartbeats 400000 in
theorem zone_bad (s : ByteArray) (bt : Nat) (w : World) (hs : s.size ≤ 2097152) (c : UInt8) (t : List UInt8) (h : s.data.toList = c :: t) (hc : c = 43 ∨ c = 45) (hd : Pl.cutDig t = none) :
    Calls Try.prog 10 #[.pointer (some ⟨bt, 0, none⟩), .string s] w (ZoneEnd s bt w) := by
  have hz : Hid (Pl.zone s.data.toList = none) := by show Pl.zone s.data.toList = none; rw [h]; simp only [Pl.zone, if_pos hc, hd]
  obtain ⟨h0, he, hg⟩ := first_of h
  have hd' : Hid (Pl.cutDig (s.extract 1 s.size).data.toList = none) := by show Pl.cutDig (s.extract 1 s.size).data.toList = none; rw [extract_list, h]; exact hd
  have hsz : (s.extract 1 s.size).size ≤ maxLen := by unfold maxLen; rw [ByteArray.size_extract]; omega
  clear h hd
  rcases hc with rfl | rfl
  all_goals
    go_enter Try.func10, Try.ntmps10
    go_wp2_with (go_at_call 12; refine (dig_none _ hd'.out _ hsz).mono ?_; rintro e w' ⟨rfl, hb⟩)
    go_ret2
    exact Or.inl ⟨hz.out, rfl, hb⟩

set_option maxHeartbeats 400000 in
theorem zone_far (s : ByteArray) (bt : Nat) (w : World) (hs : s.size ≤ 2097152) (c : UInt8) (t : List UInt8) (h : s.data.toList = c :: t) (hc : c = 43 ∨ c = 45) (v : Int) (hd : Pl.cutDig t = some v) (hv : ¬ v ≤ 15) :
    Calls Try.prog 10 #[.pointer (some ⟨bt, 0, none⟩), .string s] w (ZoneEnd s bt w) := by
  have hz : Hid (Pl.zone s.data.toList = none) := by show Pl.zone s.data.toList = none; rw [h]; simp only [Pl.zone, if_pos hc, hd, if_neg hv]
  obtain ⟨h0, he, hg⟩ := first_of h
  have hd' : Hid (Pl.cutDig (s.extract 1 s.size).data.toList = some v) := by show Pl.cutDig (s.extract 1 s.size).data.toList = some v; rw [extract_list, h]; exact hd
  have hsz : (s.extract 1 s.size).size ≤ maxLen := by unfold maxLen; rw [ByteArray.size_extract]; omega
  clear h hd
  have hv' : 15 < v := by omega
  clear hv
  rcases hc with rfl | rfl
  all_goals
    go_enter Try.func10, Try.ntmps10
    go_wp2_with (go_at_call 12; refine (dig_some _ v hd'.out _ hsz).mono ?_; rintro e w' ⟨rfl, hb⟩)
    go_ret2
    exact Or.inl ⟨hz.out, rfl, hb⟩

end Go.Proofs.Qxb6600494a
