import Derived.Test.Qxb6600494aZone
namespace Go.Proofs.Qxb6600494a
open Go.RowKit

theorem zone_any (s : ByteArray) (bt : Nat) (w : World) (hs : s.size ≤ 2097152) (x : Value) (hcell : w.cell? ⟨bt, 7, none⟩ = some x) (hfz : w.frozen? ⟨bt, 7, none⟩ = false) :
    Calls Try.prog 10 #[.pointer (some ⟨bt, 0, none⟩), .string s] w (ZoneEnd s bt w) := by
  cases h : s.data.toList with
  | nil => exact zone_empty s bt w h
  | cons c t =>
    by_cases hc : c = 43 ∨ c = 45
    · cases hd : Pl.cutDig t with
      | none => exact zone_bad s bt w hs c t h hc hd
      | some v =>
        by_cases hv : v ≤ 15
        · exact zone_loop s bt w hs c t h hc v hd hv x hcell hfz
        · exact zone_far s bt w hs c t h hc v hd hv
    · exact zone_sign s bt w c t h hc

set_option maxHeartbeats 400000 in
theorem zz_none (off : Int) (s : ByteArray) (w : World) (hs : s.size ≤ 2097152) (h : Pl.zone s.data.toList = none) :
    Calls Try.prog 7 #[.int .i64 off, .string s] w fun e w' => e = .returned (.tuple #[.int .i64 off, .string s, .bool false]) ∧ Below w.heap.size w w' := by
  have H : Hid (Pl.zone s.data.toList = none) := h
  clear h
  go_enter Try.func7, Try.ntmps7
  go_wp2_with fail
  refine (zone_any s _ _ hs (.int .i64 off) (by simp) (by simp)).mono ?_
  rintro e w1 (⟨hn, rfl, hb⟩ | ⟨o, r, hz, _⟩)
  · have hc : w1.cell? ⟨w.heap.size, 7, none⟩ = some (.int .i64 off) := by rw [hb.cell (by simp)]; simp
    have HB : Hid (Below w.heap.size w w1) := ((Below.refl _ w).alloc (Nat.le_refl _) _).trans (hb.mono (by simp))
    clear hb hn
    go_wp2
    go_ret3
    exact ⟨rfl, HB.out⟩
  · rw [H.out] at hz; cases hz

set_option maxHeartbeats 400000 in
theorem zz_some (off : Int) (s r : ByteArray) (o : Int) (w : World) (hs : s.size ≤ 2097152) (h : Pl.zone s.data.toList = some (o, r.data.toList)) :
    Calls Try.prog 7 #[.int .i64 off, .string s] w fun e w' => e = .returned (.tuple #[.int .i64 o, .string r, .bool true]) ∧ Below w.heap.size w w' := by
  have H : Hid (Pl.zone s.data.toList = some (o, r.data.toList)) := h
  clear h
  go_enter Try.func7, Try.ntmps7
  go_wp2_with fail
  refine (zone_any s _ _ hs (.int .i64 off) (by simp) (by simp)).mono ?_
  rintro e w1 (⟨hn, rfl, hb⟩ | ⟨o', r', hz, rfl, hc, hb⟩)
  · rw [H.out] at hn; cases hn
  · rw [H.out] at hz
    obtain ⟨rfl, e2⟩ : o = o' ∧ r.data.toList = r'.data.toList := by simpa using hz
    obtain rfl := Go.WideShapes.bytes_inj e2
    have HB : Hid (Below w.heap.size w w1) := ((Below.refl _ w).alloc (Nat.le_refl _) _).trans (hb.mono (by simp))
    clear hb hz e2 H
    go_wp2
    go_ret3
    exact ⟨rfl, HB.out⟩

set_option maxHeartbeats 400000 in
theorem law_big (a0 a1 : Int) (a2 : ByteArray) (w2 : a2.size ≤ maxLen) (w : World) (hb : 65536 < a2.size) :
    Calls Try.prog 3 #[.int .i64 a0, .int .i64 a1, .string a2] w fun e w' => e = .returned (.bool true) ∧ Below w.heap.size w w' := by
  unfold maxLen at w2
  by_cases h1 : a2.size ≤ 1048576
  all_goals
    go_enter Try.func3, Try.ntmps3
    go_wp2
    go_ret
    exact ⟨rfl, Below.refl _ _⟩

set_option maxHeartbeats 400000 in
theorem law_out (a0 a1 : Int) (a2 : ByteArray) (w : World) (hb : a2.size ≤ 65536) (ho : a0 < -57599 ∨ 57599 < a0 ∨ a1 < 0 ∨ 2 < a1) :
    Calls Try.prog 3 #[.int .i64 a0, .int .i64 a1, .string a2] w fun e w' => e = .returned (.bool true) ∧ Below w.heap.size w w' := by
  by_cases h1 : a0 < -57599
  · go_enter Try.func3, Try.ntmps3
    go_wp2
    go_ret
    exact ⟨rfl, Below.refl _ _⟩
  · by_cases h2 : 57599 < a0
    · go_enter Try.func3, Try.ntmps3
      go_wp2
      go_ret
      exact ⟨rfl, Below.refl _ _⟩
    · by_cases h3 : a1 < 0
      · clear ho
        go_enter Try.func3, Try.ntmps3
        go_wp2
        go_ret
        exact ⟨rfl, Below.refl _ _⟩
      · have h4 : 2 < a1 := by omega
        clear ho
        go_enter Try.func3, Try.ntmps3
        go_wp2
        go_ret
        exact ⟨rfl, Below.refl _ _⟩

theorem rest_cases (a : ByteArray) : (¬ 0 < a.size ∧ a.data.toList.head? ≠ some 58) ∨ (∃ _ : 0 < a.size, ((a[0].toNat : Int) == 58) = true) ∨ (∃ _ : 0 < a.size, ((a[0].toNat : Int) == 58) = false ∧ a.data.toList.head? ≠ some 58) := by
  have hl : a.data.toList.length = a.size := by simp
  cases h : a.data.toList with
  | nil => left; rw [h] at hl; exact ⟨by simp at hl; omega, by simp⟩
  | cons c t =>
    right
    obtain ⟨h0, _, hg⟩ := first_of h
    by_cases hc : c = 58
    · left; exact ⟨h0, by rw [hg h0, hc]; decide⟩
    · right; exact ⟨h0, by rw [hg h0]; exact beq_eq_false_iff_ne.2 (ne_lit (d := 58) hc), by simpa using hc⟩

theorem cat0 (c : UInt8) (x : List UInt8) (a : ByteArray) : ((⟨#[c]⟩ : ByteArray) ++ ⟨x.toArray⟩ ++ a).data.toList = c :: (x ++ a.data.toList) := by simp [ByteArray.data_append]
theorem cat1 (c : UInt8) (x y : List UInt8) (a : ByteArray) : ((⟨#[c]⟩ : ByteArray) ++ ⟨x.toArray⟩ ++ ((⟨#[58]⟩ : ByteArray) ++ ⟨y.toArray⟩) ++ a).data.toList = c :: (x ++ (58 :: (y ++ a.data.toList))) := by simp [ByteArray.data_append]
theorem cat2 (c : UInt8) (x y z : List UInt8) (a : ByteArray) : ((⟨#[c]⟩ : ByteArray) ++ ⟨x.toArray⟩ ++ ((⟨#[58]⟩ : ByteArray) ++ ⟨y.toArray⟩) ++ ((⟨#[58]⟩ : ByteArray) ++ ⟨z.toArray⟩) ++ a).data.toList = c :: (x ++ (58 :: (y ++ (58 :: (z ++ a.data.toList))))) := by simp [ByteArray.data_append]

theorem text0p (p : Int) (l : 0 ≤ p) (u : p ≤ 57599) (hm : p / 60 % 60 = 0) (hc : p % 60 = 0) (a : ByteArray) (hr : a.data.toList.head? ≠ some 58) :
    Pl.zone ((⟨#[43]⟩ : ByteArray) ++ ⟨(Pl.two (p / 3600)).toArray⟩ ++ a).data.toList = some (p, a.data.toList) := by
  rw [cat0]
  have := Pl.zone0 false (p / 3600) (by omega) (by omega) _ hr
  simp only [Bool.false_eq_true, if_false] at this
  rw [this]
  congr 2
  omega
theorem text0n (p : Int) (l : 0 ≤ p) (u : p ≤ 57599) (hm : p / 60 % 60 = 0) (hc : p % 60 = 0) (a : ByteArray) (hr : a.data.toList.head? ≠ some 58) :
    Pl.zone ((⟨#[45]⟩ : ByteArray) ++ ⟨(Pl.two (p / 3600)).toArray⟩ ++ a).data.toList = some (-p, a.data.toList) := by
  rw [cat0]
  have := Pl.zone0 true (p / 3600) (by omega) (by omega) _ hr
  simp only [if_true] at this
  rw [this]
  congr 2
  omega
theorem text1p (p : Int) (l : 0 ≤ p) (u : p ≤ 57599) (hc : p % 60 = 0) (a : ByteArray) (hr : a.data.toList.head? ≠ some 58) :
    Pl.zone ((⟨#[43]⟩ : ByteArray) ++ ⟨(Pl.two (p / 3600)).toArray⟩ ++ ((⟨#[58]⟩ : ByteArray) ++ ⟨(Pl.two (p / 60 % 60)).toArray⟩) ++ a).data.toList = some (p, a.data.toList) := by
  rw [cat1]
  have := Pl.zone1 false (p / 3600) (p / 60 % 60) (by omega) (by omega) (by omega) (by omega) _ hr
  simp only [Bool.false_eq_true, if_false] at this
  rw [this]
  congr 2
  omega
theorem text1n (p : Int) (l : 0 ≤ p) (u : p ≤ 57599) (hc : p % 60 = 0) (a : ByteArray) (hr : a.data.toList.head? ≠ some 58) :
    Pl.zone ((⟨#[45]⟩ : ByteArray) ++ ⟨(Pl.two (p / 3600)).toArray⟩ ++ ((⟨#[58]⟩ : ByteArray) ++ ⟨(Pl.two (p / 60 % 60)).toArray⟩) ++ a).data.toList = some (-p, a.data.toList) := by
  rw [cat1]
  have := Pl.zone1 true (p / 3600) (p / 60 % 60) (by omega) (by omega) (by omega) (by omega) _ hr
  simp only [if_true] at this
  rw [this]
  congr 2
  omega
theorem text2p (p : Int) (l : 0 ≤ p) (u : p ≤ 57599) (a : ByteArray) :
    Pl.zone ((⟨#[43]⟩ : ByteArray) ++ ⟨(Pl.two (p / 3600)).toArray⟩ ++ ((⟨#[58]⟩ : ByteArray) ++ ⟨(Pl.two (p / 60 % 60)).toArray⟩) ++ ((⟨#[58]⟩ : ByteArray) ++ ⟨(Pl.two (p % 60)).toArray⟩) ++ a).data.toList = some (p, a.data.toList) := by
  rw [cat2]
  have := Pl.zone2 false (p / 3600) (p / 60 % 60) (p % 60) (by omega) (by omega) (by omega) (by omega) (by omega) (by omega) a.data.toList
  simp only [Bool.false_eq_true, if_false] at this
  rw [this]
  congr 2
  omega
theorem text2n (p : Int) (l : 0 ≤ p) (u : p ≤ 57599) (a : ByteArray) :
    Pl.zone ((⟨#[45]⟩ : ByteArray) ++ ⟨(Pl.two (p / 3600)).toArray⟩ ++ ((⟨#[58]⟩ : ByteArray) ++ ⟨(Pl.two (p / 60 % 60)).toArray⟩) ++ ((⟨#[58]⟩ : ByteArray) ++ ⟨(Pl.two (p % 60)).toArray⟩) ++ a).data.toList = some (-p, a.data.toList) := by
  rw [cat2]
  have := Pl.zone2 true (p / 3600) (p / 60 % 60) (p % 60) (by omega) (by omega) (by omega) (by omega) (by omega) (by omega) a.data.toList
  simp only [if_true] at this
  rw [this]
  congr 2
  omega

theorem two_len (n : Int) : (Pl.two n).length = 2 := rfl

set_option maxHeartbeats 1000000 in
theorem law_0p (p : Int) (a2 : ByteArray) (w : World) (hb : a2.size ≤ 65536) (l : 0 ≤ p) (u : p ≤ 57599) :
    Calls Try.prog 3 #[.int .i64 p, .int .i64 0, .string a2] w fun e w' => e = .returned (.bool true) ∧ Below w.heap.size w w' := by
  have hlen := two_len
  by_cases hm : p / 60 % 60 = 0
  case neg =>
    have hm' : (p / 60 % 60 != 0) = true := by rw [bne_iff_ne]; exact hm
    go_enter Try.func3, Try.ntmps3
    go_wp2_with (first | (go_at_call 5; go_in))
    go_ret
    exact ⟨rfl, Below.refl _ _⟩
  by_cases hc : p % 60 = 0
  case neg =>
    have hc' : (p % 60 != 0) = true := by rw [bne_iff_ne]; exact hc
    go_enter Try.func3, Try.ntmps3
    go_wp2_with (first | (go_at_call 5; go_in))
    go_ret
    exact ⟨rfl, Below.refl _ _⟩
  rcases rest_cases a2 with ⟨h0, hr⟩ | ⟨h0, h58⟩ | ⟨h0, h58, hr⟩
  case inr.inl =>
    go_enter Try.func3, Try.ntmps3
    go_wp2_with (first | (go_at_call 5; go_in))
    go_ret
    exact ⟨rfl, Below.refl _ _⟩
  all_goals
    have HR : Hid (a2.data.toList.head? ≠ some 58) := hr
    clear hr
    go_enter Try.func3, Try.ntmps3
    go_wp2_with (first | (go_at_call 5; go_in))
    refine (two_any _ _ (by omega) (by omega)).mono ?_
    rintro e w1 ⟨rfl, hb1⟩
    go_wp2_with fail
    refine (zz_some _ _ a2 _ _ (by simp only [ByteArray.size_append', ByteArray.size_mk', List.size_toArray, two_len, List.length_cons, List.length_nil]; omega) (text0p p l u hm hc a2 HR.out)).mono ?_
    rintro e w9 ⟨rfl, hb9⟩
    go_wp2
    go_ret
    have hB := hb1
    exact ⟨rfl, hB.trans (hb9.mono hB.size)⟩

set_option maxHeartbeats 1000000 in
theorem law_0n (p : Int) (a2 : ByteArray) (w : World) (hb : a2.size ≤ 65536) (l : 0 ≤ p) (u : p ≤ 57599) (hp : 0 < p) :
    Calls Try.prog 3 #[.int .i64 (-p), .int .i64 0, .string a2] w fun e w' => e = .returned (.bool true) ∧ Below w.heap.size w w' := by
  have hlen := two_len
  by_cases hm : p / 60 % 60 = 0
  case neg =>
    have hm' : (p / 60 % 60 != 0) = true := by rw [bne_iff_ne]; exact hm
    go_enter Try.func3, Try.ntmps3
    go_wp2_with (first | (go_at_call 5; go_in))
    go_ret
    exact ⟨rfl, Below.refl _ _⟩
  by_cases hc : p % 60 = 0
  case neg =>
    have hc' : (p % 60 != 0) = true := by rw [bne_iff_ne]; exact hc
    go_enter Try.func3, Try.ntmps3
    go_wp2_with (first | (go_at_call 5; go_in))
    go_ret
    exact ⟨rfl, Below.refl _ _⟩
  rcases rest_cases a2 with ⟨h0, hr⟩ | ⟨h0, h58⟩ | ⟨h0, h58, hr⟩
  case inr.inl =>
    go_enter Try.func3, Try.ntmps3
    go_wp2_with (first | (go_at_call 5; go_in))
    go_ret
    exact ⟨rfl, Below.refl _ _⟩
  all_goals
    have HR : Hid (a2.data.toList.head? ≠ some 58) := hr
    clear hr
    go_enter Try.func3, Try.ntmps3
    go_wp2_with (first | (go_at_call 5; go_in))
    refine (two_any _ _ (by omega) (by omega)).mono ?_
    rintro e w1 ⟨rfl, hb1⟩
    go_wp2_with fail
    refine (zz_some _ _ a2 _ _ (by simp only [ByteArray.size_append', ByteArray.size_mk', List.size_toArray, two_len, List.length_cons, List.length_nil]; omega) (text0n p l u hm hc a2 HR.out)).mono ?_
    rintro e w9 ⟨rfl, hb9⟩
    go_wp2
    go_ret
    have hB := hb1
    exact ⟨rfl, hB.trans (hb9.mono hB.size)⟩

set_option maxHeartbeats 1000000 in
theorem law_1p (p : Int) (a2 : ByteArray) (w : World) (hb : a2.size ≤ 65536) (l : 0 ≤ p) (u : p ≤ 57599) :
    Calls Try.prog 3 #[.int .i64 p, .int .i64 1, .string a2] w fun e w' => e = .returned (.bool true) ∧ Below w.heap.size w w' := by
  have hlen := two_len
  by_cases hc : p % 60 = 0
  case neg =>
    have hc' : (p % 60 != 0) = true := by rw [bne_iff_ne]; exact hc
    go_enter Try.func3, Try.ntmps3
    go_wp2_with (first | (go_at_call 5; go_in))
    go_ret
    exact ⟨rfl, Below.refl _ _⟩
  rcases rest_cases a2 with ⟨h0, hr⟩ | ⟨h0, h58⟩ | ⟨h0, h58, hr⟩
  case inr.inl =>
    go_enter Try.func3, Try.ntmps3
    go_wp2_with (first | (go_at_call 5; go_in))
    go_ret
    exact ⟨rfl, Below.refl _ _⟩
  all_goals
    have HR : Hid (a2.data.toList.head? ≠ some 58) := hr
    clear hr
    go_enter Try.func3, Try.ntmps3
    go_wp2_with (first | (go_at_call 5; go_in))
    refine (two_any _ _ (by omega) (by omega)).mono ?_
    rintro e w1 ⟨rfl, hb1⟩
    go_wp2_with fail
    refine (two_any _ _ (by omega) (by omega)).mono ?_
    rintro e w2 ⟨rfl, hb2⟩
    go_wp2_with fail
    refine (zz_some _ _ a2 _ _ (by simp only [ByteArray.size_append', ByteArray.size_mk', List.size_toArray, two_len, List.length_cons, List.length_nil]; omega) (text1p p l u hc a2 HR.out)).mono ?_
    rintro e w9 ⟨rfl, hb9⟩
    go_wp2
    go_ret
    have hB := (hb1.trans (hb2.mono hb1.size))
    exact ⟨rfl, hB.trans (hb9.mono hB.size)⟩

set_option maxHeartbeats 1000000 in
theorem law_1n (p : Int) (a2 : ByteArray) (w : World) (hb : a2.size ≤ 65536) (l : 0 ≤ p) (u : p ≤ 57599) (hp : 0 < p) :
    Calls Try.prog 3 #[.int .i64 (-p), .int .i64 1, .string a2] w fun e w' => e = .returned (.bool true) ∧ Below w.heap.size w w' := by
  have hlen := two_len
  by_cases hc : p % 60 = 0
  case neg =>
    have hc' : (p % 60 != 0) = true := by rw [bne_iff_ne]; exact hc
    go_enter Try.func3, Try.ntmps3
    go_wp2_with (first | (go_at_call 5; go_in))
    go_ret
    exact ⟨rfl, Below.refl _ _⟩
  rcases rest_cases a2 with ⟨h0, hr⟩ | ⟨h0, h58⟩ | ⟨h0, h58, hr⟩
  case inr.inl =>
    go_enter Try.func3, Try.ntmps3
    go_wp2_with (first | (go_at_call 5; go_in))
    go_ret
    exact ⟨rfl, Below.refl _ _⟩
  all_goals
    have HR : Hid (a2.data.toList.head? ≠ some 58) := hr
    clear hr
    go_enter Try.func3, Try.ntmps3
    go_wp2_with (first | (go_at_call 5; go_in))
    refine (two_any _ _ (by omega) (by omega)).mono ?_
    rintro e w1 ⟨rfl, hb1⟩
    go_wp2_with fail
    refine (two_any _ _ (by omega) (by omega)).mono ?_
    rintro e w2 ⟨rfl, hb2⟩
    go_wp2_with fail
    refine (zz_some _ _ a2 _ _ (by simp only [ByteArray.size_append', ByteArray.size_mk', List.size_toArray, two_len, List.length_cons, List.length_nil]; omega) (text1n p l u hc a2 HR.out)).mono ?_
    rintro e w9 ⟨rfl, hb9⟩
    go_wp2
    go_ret
    have hB := (hb1.trans (hb2.mono hb1.size))
    exact ⟨rfl, hB.trans (hb9.mono hB.size)⟩

set_option maxHeartbeats 1000000 in
theorem law_2p (p : Int) (a2 : ByteArray) (w : World) (hb : a2.size ≤ 65536) (l : 0 ≤ p) (u : p ≤ 57599) :
    Calls Try.prog 3 #[.int .i64 p, .int .i64 2, .string a2] w fun e w' => e = .returned (.bool true) ∧ Below w.heap.size w w' := by
  have hlen := two_len
  go_enter Try.func3, Try.ntmps3
  go_wp2_with (first | (go_at_call 5; go_in))
  refine (two_any _ _ (by omega) (by omega)).mono ?_
  rintro e w1 ⟨rfl, hb1⟩
  go_wp2_with fail
  refine (two_any _ _ (by omega) (by omega)).mono ?_
  rintro e w2 ⟨rfl, hb2⟩
  go_wp2_with fail
  refine (two_any _ _ (by omega) (by omega)).mono ?_
  rintro e w3 ⟨rfl, hb3⟩
  go_wp2_with fail
  refine (zz_some _ _ a2 _ _ (by simp only [ByteArray.size_append', ByteArray.size_mk', List.size_toArray, two_len, List.length_cons, List.length_nil]; omega) (text2p p l u a2)).mono ?_
  rintro e w9 ⟨rfl, hb9⟩
  go_wp2
  go_ret
  have hB := ((hb1.trans (hb2.mono hb1.size)).trans (hb3.mono ((hb1.trans (hb2.mono hb1.size))).size))
  exact ⟨rfl, hB.trans (hb9.mono hB.size)⟩

set_option maxHeartbeats 1000000 in
theorem law_2n (p : Int) (a2 : ByteArray) (w : World) (hb : a2.size ≤ 65536) (l : 0 ≤ p) (u : p ≤ 57599) (hp : 0 < p) :
    Calls Try.prog 3 #[.int .i64 (-p), .int .i64 2, .string a2] w fun e w' => e = .returned (.bool true) ∧ Below w.heap.size w w' := by
  have hlen := two_len
  go_enter Try.func3, Try.ntmps3
  go_wp2_with (first | (go_at_call 5; go_in))
  refine (two_any _ _ (by omega) (by omega)).mono ?_
  rintro e w1 ⟨rfl, hb1⟩
  go_wp2_with fail
  refine (two_any _ _ (by omega) (by omega)).mono ?_
  rintro e w2 ⟨rfl, hb2⟩
  go_wp2_with fail
  refine (two_any _ _ (by omega) (by omega)).mono ?_
  rintro e w3 ⟨rfl, hb3⟩
  go_wp2_with fail
  refine (zz_some _ _ a2 _ _ (by simp only [ByteArray.size_append', ByteArray.size_mk', List.size_toArray, two_len, List.length_cons, List.length_nil]; omega) (text2n p l u a2)).mono ?_
  rintro e w9 ⟨rfl, hb9⟩
  go_wp2
  go_ret
  have hB := ((hb1.trans (hb2.mono hb1.size)).trans (hb3.mono ((hb1.trans (hb2.mono hb1.size))).size))
  exact ⟨rfl, hB.trans (hb9.mono hB.size)⟩

end Go.Proofs.Qxb6600494a
