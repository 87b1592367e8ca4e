import Derived.Test.Qxb6600556aSkip1
namespace Go.Proofs.Qxb6600556a
open Go.RowKit
set_option linter.unusedVariables false

theorem ne_lit {c d : UInt8} (h : c ≠ d) : ((c.toNat : Int) != (d.toNat : Int)) = true := by
  rw [bne_iff_ne]; exact fun e => h (UInt8.toNat_inj.1 (by omega))

set_option maxHeartbeats 400000 in
theorem stab_big (t u : ByteArray) (i : Int) (w0 : t.size ≤ maxLen) (w2 : u.size ≤ maxLen) (w : World) (hb : 1048576 < t.size ∨ 1048576 < t.size + u.size) :
    Calls Try.prog 5 #[.string t, .int .i64 i, .string u] w fun e w' => e = .returned (.bool true) ∧ Below w.heap.size w w' := by
  unfold maxLen at w0 w2
  by_cases h1 : 1048576 < t.size
  · clear hb
    go_enter Try.func5, Try.ntmps5
    go_wp2
    go_ret
    exact ⟨rfl, Below.refl _ _⟩
  · by_cases h2 : 1048576 < u.size
    · clear hb
      go_enter Try.func5, Try.ntmps5
      go_wp2
      go_ret
      exact ⟨rfl, Below.refl _ _⟩
    · have h3 : 1048576 < (t.size : Int) + (u.size : Int) := by omega
      clear hb
      go_enter Try.func5, Try.ntmps5
      go_wp2
      go_ret
      exact ⟨rfl, Below.refl _ _⟩

set_option maxHeartbeats 400000 in
theorem stab_out (t u : ByteArray) (i : Int) (w : World) (hb : t.size + u.size ≤ 1048576) (ho : i < 0 ∨ (t.size : Int) ≤ i) :
    Calls Try.prog 5 #[.string t, .int .i64 i, .string u] w fun e w' => e = .returned (.bool true) ∧ Below w.heap.size w w' := by
  have hb1 : (t.size : Int) + (u.size : Int) ≤ 1048576 := by omega
  have hb2 : (u.size : Int) ≤ 1048576 - (t.size : Int) := by omega
  by_cases h1 : i < 0
  · clear ho
    go_enter Try.func5, Try.ntmps5
    go_wp2
    go_ret
    exact ⟨rfl, Below.refl _ _⟩
  · have h2 : (t.size : Int) ≤ i := by omega
    clear ho
    go_enter Try.func5, Try.ntmps5
    go_wp2
    go_ret
    exact ⟨rfl, Below.refl _ _⟩

set_option maxHeartbeats 400000 in
theorem stab_no (t u : ByteArray) (n : Nat) (w : World) (hb : t.size + u.size ≤ 1048576) (hn : n < t.size) (h1 : t[n] ≠ 34) (h2 : t[n] ≠ 39) :
    Calls Try.prog 5 #[.string t, .int .i64 (n : Int), .string u] w fun e w' => e = .returned (.bool true) ∧ Below w.heap.size w w' := by
  have hb1 : (t.size : Int) + (u.size : Int) ≤ 1048576 := by omega
  have hb2 : (u.size : Int) ≤ 1048576 - (t.size : Int) := by omega
  have hn1 : (n : Int) < (t.size : Int) := by omega
  have e1 : ((t[n].toNat : Int) != 34) = true := ne_lit (d := 34) h1
  have e2 : ((t[n].toNat : Int) != 39) = true := ne_lit (d := 39) h2
  clear h1 h2
  go_enter Try.func5, Try.ntmps5
  go_wp2
  go_ret
  exact ⟨rfl, Below.refl _ _⟩

theorem skip_append {t u : ByteArray} {q : UInt8} {n k k' : Nat} (hn : n < t.size) (h : Pl.Skip t.data.toList q n k) (hk : k < t.size) (h' : Pl.Skip (t ++ u).data.toList q n k') : k' = k := by
  have hl : t.data.toList.length = t.size := by simp
  have e : (t ++ u).data.toList = t.data.toList ++ u.data.toList := by simp [ByteArray.data_append]
  rw [e] at h'
  exact h'.uniq (h.stable (by rw [hl]; exact hn) (by rw [hl]; exact hk))

set_option maxHeartbeats 1000000 in
theorem stab_yes (t u : ByteArray) (q : UInt8) (hq : q = 34 ∨ q = 39) (n : Nat) (w : World) (hb : t.size + u.size ≤ 1048576) (hn : n < t.size) (h1 : t[n] = q) :
    Calls Try.prog 5 #[.string t, .int .i64 (n : Int), .string u] w fun e w' => e = .returned (.bool true) ∧ Below w.heap.size w w' := by
  have hb1 : (t.size : Int) + (u.size : Int) ≤ 1048576 := by omega
  have hb2 : (u.size : Int) ≤ 1048576 - (t.size : Int) := by omega
  have hn1 : (n : Int) < (t.size : Int) := by omega
  have hl : t.data.toList.length = t.size := by simp
  have HQI : Hid (t.data.toList[n]? = some q) := by show t.data.toList[n]? = some q; rw [get_list t n hn, h1]
  have HQU : Hid ((t ++ u).data.toList[n]? = some q) := by
    show (t ++ u).data.toList[n]? = some q
    have e : (t ++ u).data.toList = t.data.toList ++ u.data.toList := by simp [ByteArray.data_append]
    rw [e, Pl.get_append (by rw [hl]; exact hn)]
    exact HQI.out
  rcases hq with rfl | rfl
  all_goals
    go_enter Try.func5, Try.ntmps5
    go_wp2_with (first | (go_at_call 14; go_in))
    refine (zz_skip t _ (by decide) n _ hn (by omega) HQI.out).mono ?_
    rintro e w1 ⟨k, rfl, hsk, hb1⟩
    have HSK : Hid (Pl.Skip t.data.toList _ n k) := hsk
    have HB1 : Hid (Below w.heap.size w w1) := hb1
    obtain ⟨b1, b2⟩ := hsk.bounds (by rw [hl]; exact hn)
    rw [hl] at b2
    have hlast := hsk.last
    clear hsk hb1
    obtain ⟨m, rfl⟩ : ∃ m, k = m + 1 := ⟨k - 1, by omega⟩
    have c1 : (n : Int) < (m : Int) + 1 := by omega
    have c2 : (m : Int) + 1 ≤ (t.size : Int) := by omega
    by_cases hend : m + 1 = t.size
    · have e1 : ((m : Int) + 1 == (t.size : Int)) = true := by rw [beq_iff_eq]; omega
      clear hlast hend
      go_wp2
      go_ret
      exact ⟨rfl, HB1.out⟩
    · have e1 : ((m : Int) + 1 == (t.size : Int)) = false := by rw [beq_eq_false_iff_ne]; omega
      have c3 : (m : Int) < (t.size : Int) := by omega
      have hlt : m < t.size := by omega
      have hmlt : m + 1 < t.size := by omega
      have hla := hlast (by rw [hl]; omega)
      rw [Nat.add_sub_cancel, get_list t m hlt] at hla
      clear hlast hend
      have hcat : (t ++ u).size = t.size + u.size := by simp [ByteArray.size_append]
      have HCAT : Hid ((t ++ u).size = t.size + u.size) := hcat
      clear hcat
      rcases hla with hla | hla
      all_goals
        have hm := Option.some.inj hla
        clear hla
        go_wp2_with fail
        refine (zz_skip (t ++ u) _ (by decide) n _ (by rw [HCAT.out]; omega) (by rw [HCAT.out]; omega) HQU.out).mono ?_
        rintro e w2 ⟨k', rfl, hsk', hb2⟩
        have HB2 : Hid (Below w1.heap.size w1 w2) := hb2
        obtain rfl := skip_append hn HSK.out hmlt hsk'
        clear hsk' hb2
        go_wp2
        go_ret
        exact ⟨rfl, HB1.out.trans (HB2.out.mono HB1.out.size)⟩
end Go.Proofs.Qxb6600556a
