import Derived.Test.Qxb6600556aClosed
namespace Go.Proofs.Qxb6600556a
open Go.RowKit
set_option linter.unusedVariables false

set_option maxRecDepth 100000 in
set_option maxHeartbeats 4000000 in
theorem end_singleB (t : ByteArray) (n : Nat) (w : World) (hn : n < t.size) (hs : t.size ≤ 4194304) (h0 : t[n] = 34) (hc : ¬ Pl.Cl3 t.data.toList 34 n) :
    Calls Try.prog 10 #[.string t, .int .i64 (n : Int)] w fun e w' => ∃ e' : Nat, e = .returned (.int .i64 (e' : Int)) ∧ Pl.Skip t.data.toList 34 n e' ∧ w' = w := by
  have hlen : t.data.toList.length = t.size := by simp
  have HC : Hid (¬ Pl.Cl3 t.data.toList 34 n) := hc
  have b0 : (n : Int) < (t.size : Int) := by omega
  have b3 : (t.size : Int) ≤ 4194304 := by omega
  have hopen : ((t.size : Int) ≤ (n : Int) + 2) ∨ (∃ (_ : (n : Int) + 2 < (t.size : Int)) (_ : n + 1 < t.size) (_ : (n : Int) + 1 < (t.size : Int)), ((t[n + 1].toNat : Int) == 34) = false) ∨ (∃ (_ : (n : Int) + 2 < (t.size : Int)) (_ : n + 1 < t.size) (_ : (n : Int) + 1 < (t.size : Int)) (_ : n + 2 < t.size), t[n + 1] = 34 ∧ ((t[n + 2].toNat : Int) == 34) = false) := by
    by_cases x2 : n + 2 < t.size
    · right
      by_cases x3 : t[n + 1] = 34
      · right
        exact ⟨by omega, by omega, by omega, x2, x3, eq_lit (d := 34) (fun x4 => hc ⟨some_of hn h0, some_of (by omega) x3, some_of x2 x4⟩)⟩
      · left
        exact ⟨by omega, by omega, by omega, eq_lit (d := 34) x3⟩
    · left; omega
  clear hc
  rcases hopen with x1 | ⟨x1, x2, x3, x4⟩ | ⟨x1, x2, x3, x4, x5, x6⟩
  all_goals
    go_enter Try.func10, Try.ntmps10
    go_wp2
    go_loop [11] (fun pv => ∃ k : Nat, pv = .int .i64 (k : Int) ∧ Hid (Pl.Inv' (Pl.Cl1 t.data.toList 34) t.data.toList 34 (n + 1) k)) (fun pv => t.size - (intOf pv).toNat)
    case atStart => exact ⟨n + 1, by go_num, Pl.Inv'.start (by rw [hlen]; omega)⟩
    case round =>
      obtain ⟨k, rfl, hinv⟩ := hrel
      have hks : k ≤ t.size := by have := hinv.out.2.1; rwa [hlen] at this
      have hkl : n + 1 ≤ k := hinv.out.1
      by_cases hk : k < t.size
      case neg =>
        have hk' : (t.size : Int) ≤ (k : Int) := by omega
        have HF : Hid (Pl.First (Pl.Stop (Pl.Cl1 t.data.toList 34) t.data.toList 34 (n + 1)) (n + 1) t.data.toList.length k) := hinv.out.stop (fun h => absurd h (by omega))
        go_wp2
        go_ret
        exact ⟨t.size, rfl, Or.inr ⟨HC.out, k, HF.out, by rw [hlen]; omega⟩, rfl⟩
      case pos =>
        have hk' : (k : Int) < (t.size : Int) := by omega
        by_cases ga : t[k] = 34
        case pos =>
          have HSM : Hid (t.data.toList[k]? = some 34) := some_of hk ga
          cases ho : Pl.oddRun t.data.toList (n + 1) k with
          | true =>
            have HO : Hid (Pl.oddRun t.data.toList (n + 1) k = true) := ho
            clear ho
            have HNS : Hid (¬ Pl.Stop (Pl.Cl1 t.data.toList 34) t.data.toList 34 (n + 1) k) := fun s => by have := s.2 rfl; rw [HO.out] at this; cases this
            go_wp2_with (go_at_call 20; refine (even_at t _ (n + 1) k true _ (by omega) HO.out hkl hks hs).mono ?_; rintro e w' ⟨rfl, rfl⟩)
            exact ⟨⟨k + 1, by go_num, Pl.Inv'.next hinv.out (by rw [hlen]; exact hk) HNS.out⟩, by simp [intOf]; omega⟩
          | false =>
            have HO : Hid (Pl.oddRun t.data.toList (n + 1) k = false) := ho
            clear ho
            have HF : Hid (Pl.First (Pl.Stop (Pl.Cl1 t.data.toList 34) t.data.toList 34 (n + 1)) (n + 1) t.data.toList.length k) := hinv.out.stop (fun _ => ⟨Or.inl HSM.out, fun _ => HO.out⟩)
            go_wp2_with (go_at_call 20; refine (even_at t _ (n + 1) k false _ (by omega) HO.out hkl hks hs).mono ?_; rintro e w' ⟨rfl, rfl⟩)
            go_ret
            exact ⟨k + 1, by go_num, Or.inr ⟨HC.out, k, HF.out, by rw [hlen]; omega⟩, rfl⟩
        case neg =>
          have ga' : ((t[k].toNat : Int) == 34) = false := eq_lit (d := 34) ga
          by_cases gb : t[k] = 10
          case pos =>
            have HSM : Hid (t.data.toList[k]? = some 10) := some_of hk gb
            clear ga ga'
            cases ho : Pl.oddRun t.data.toList (n + 1) k with
            | true =>
              have HO : Hid (Pl.oddRun t.data.toList (n + 1) k = true) := ho
              clear ho
              have HNS : Hid (¬ Pl.Stop (Pl.Cl1 t.data.toList 34) t.data.toList 34 (n + 1) k) := fun s => by have := s.2 rfl; rw [HO.out] at this; cases this
              go_wp2_with (go_at_call 20; refine (even_at t _ (n + 1) k true _ (by omega) HO.out hkl hks hs).mono ?_; rintro e w' ⟨rfl, rfl⟩)
              exact ⟨⟨k + 1, by go_num, Pl.Inv'.next hinv.out (by rw [hlen]; exact hk) HNS.out⟩, by simp [intOf]; omega⟩
            | false =>
              have HO : Hid (Pl.oddRun t.data.toList (n + 1) k = false) := ho
              clear ho
              have HF : Hid (Pl.First (Pl.Stop (Pl.Cl1 t.data.toList 34) t.data.toList 34 (n + 1)) (n + 1) t.data.toList.length k) := hinv.out.stop (fun _ => ⟨Or.inr HSM.out, fun _ => HO.out⟩)
              go_wp2_with (go_at_call 20; refine (even_at t _ (n + 1) k false _ (by omega) HO.out hkl hks hs).mono ?_; rintro e w' ⟨rfl, rfl⟩)
              go_ret
              exact ⟨k + 1, by go_num, Or.inr ⟨HC.out, k, HF.out, by rw [hlen]; omega⟩, rfl⟩
          case neg =>
            have gb' : ((t[k].toNat : Int) == 10) = false := eq_lit (d := 10) gb
            have HNS : Hid (¬ Pl.Stop (Pl.Cl1 t.data.toList 34) t.data.toList 34 (n + 1) k) := fun s => s.1.elim (not_some hk ga) (not_some hk gb)
            clear ga gb
            go_wp2
            exact ⟨⟨k + 1, by go_num, Pl.Inv'.next hinv.out (by rw [hlen]; exact hk) HNS.out⟩, by simp [intOf]; omega⟩

set_option maxRecDepth 100000 in
set_option maxHeartbeats 4000000 in
theorem end_singleL (t : ByteArray) (n : Nat) (w : World) (hn : n < t.size) (hs : t.size ≤ 4194304) (h0 : t[n] = 39) (hc : ¬ Pl.Cl3 t.data.toList 39 n) :
    Calls Try.prog 10 #[.string t, .int .i64 (n : Int)] w fun e w' => ∃ e' : Nat, e = .returned (.int .i64 (e' : Int)) ∧ Pl.Skip t.data.toList 39 n e' ∧ w' = w := by
  have hlen : t.data.toList.length = t.size := by simp
  have HC : Hid (¬ Pl.Cl3 t.data.toList 39 n) := hc
  have b0 : (n : Int) < (t.size : Int) := by omega
  have b3 : (t.size : Int) ≤ 4194304 := by omega
  have hopen : ((t.size : Int) ≤ (n : Int) + 2) ∨ (∃ (_ : (n : Int) + 2 < (t.size : Int)) (_ : n + 1 < t.size) (_ : (n : Int) + 1 < (t.size : Int)), ((t[n + 1].toNat : Int) == 39) = false) ∨ (∃ (_ : (n : Int) + 2 < (t.size : Int)) (_ : n + 1 < t.size) (_ : (n : Int) + 1 < (t.size : Int)) (_ : n + 2 < t.size), t[n + 1] = 39 ∧ ((t[n + 2].toNat : Int) == 39) = false) := by
    by_cases x2 : n + 2 < t.size
    · right
      by_cases x3 : t[n + 1] = 39
      · right
        exact ⟨by omega, by omega, by omega, x2, x3, eq_lit (d := 39) (fun x4 => hc ⟨some_of hn h0, some_of (by omega) x3, some_of x2 x4⟩)⟩
      · left
        exact ⟨by omega, by omega, by omega, eq_lit (d := 39) x3⟩
    · left; omega
  clear hc
  rcases hopen with x1 | ⟨x1, x2, x3, x4⟩ | ⟨x1, x2, x3, x4, x5, x6⟩
  all_goals
    go_enter Try.func10, Try.ntmps10
    go_wp2
    go_loop [11] (fun pv => ∃ k : Nat, pv = .int .i64 (k : Int) ∧ Hid (Pl.Inv' (Pl.Cl1 t.data.toList 39) t.data.toList 39 (n + 1) k)) (fun pv => t.size - (intOf pv).toNat)
    case atStart => exact ⟨n + 1, by go_num, Pl.Inv'.start (by rw [hlen]; omega)⟩
    case round =>
      obtain ⟨k, rfl, hinv⟩ := hrel
      have hks : k ≤ t.size := by have := hinv.out.2.1; rwa [hlen] at this
      have hkl : n + 1 ≤ k := hinv.out.1
      by_cases hk : k < t.size
      case neg =>
        have hk' : (t.size : Int) ≤ (k : Int) := by omega
        have HF : Hid (Pl.First (Pl.Stop (Pl.Cl1 t.data.toList 39) t.data.toList 39 (n + 1)) (n + 1) t.data.toList.length k) := hinv.out.stop (fun h => absurd h (by omega))
        go_wp2
        go_ret
        exact ⟨t.size, rfl, Or.inr ⟨HC.out, k, HF.out, by rw [hlen]; omega⟩, rfl⟩
      case pos =>
        have hk' : (k : Int) < (t.size : Int) := by omega
        by_cases ga : t[k] = 39
        case pos =>
          have HSM : Hid (t.data.toList[k]? = some 39) := some_of hk ga
          have HF : Hid (Pl.First (Pl.Stop (Pl.Cl1 t.data.toList 39) t.data.toList 39 (n + 1)) (n + 1) t.data.toList.length k) := hinv.out.stop (fun _ => ⟨Or.inl HSM.out, fun e => absurd e (by decide)⟩)
          go_wp2
          go_ret
          exact ⟨k + 1, by go_num, Or.inr ⟨HC.out, k, HF.out, by rw [hlen]; omega⟩, rfl⟩
        case neg =>
          have ga' : ((t[k].toNat : Int) == 39) = false := eq_lit (d := 39) ga
          by_cases gb : t[k] = 10
          case pos =>
            have HSM : Hid (t.data.toList[k]? = some 10) := some_of hk gb
            clear ga ga'
            have HF : Hid (Pl.First (Pl.Stop (Pl.Cl1 t.data.toList 39) t.data.toList 39 (n + 1)) (n + 1) t.data.toList.length k) := hinv.out.stop (fun _ => ⟨Or.inr HSM.out, fun e => absurd e (by decide)⟩)
            go_wp2
            go_ret
            exact ⟨k + 1, by go_num, Or.inr ⟨HC.out, k, HF.out, by rw [hlen]; omega⟩, rfl⟩
          case neg =>
            have gb' : ((t[k].toNat : Int) == 10) = false := eq_lit (d := 10) gb
            have HNS : Hid (¬ Pl.Stop (Pl.Cl1 t.data.toList 39) t.data.toList 39 (n + 1) k) := fun s => s.1.elim (not_some hk ga) (not_some hk gb)
            clear ga gb
            go_wp2
            exact ⟨⟨k + 1, by go_num, Pl.Inv'.next hinv.out (by rw [hlen]; exact hk) HNS.out⟩, by simp [intOf]; omega⟩


theorem end_any (t : ByteArray) (q : UInt8) (hq : q = 34 ∨ q = 39) (n : Nat) (w : World) (hn : n < t.size) (hs : t.size ≤ 4194304) (h0 : t[n] = q) :
    Calls Try.prog 10 #[.string t, .int .i64 (n : Int)] w fun e w' => ∃ e' : Nat, e = .returned (.int .i64 (e' : Int)) ∧ Pl.Skip t.data.toList q n e' ∧ w' = w := by
  have hl : t.data.toList.length = t.size := by simp
  by_cases hc : Pl.Cl3 t.data.toList q n
  · have l2 := Pl.lt_of_some hc.2.2
    rw [hl] at l2
    have g1 : t[n + 1] = q := by have := hc.2.1; rw [get_list t (n + 1) (by omega)] at this; exact Option.some.inj this
    have g2 : t[n + 2] = q := by have := hc.2.2; rw [get_list t (n + 2) l2] at this; exact Option.some.inj this
    rcases hq with rfl | rfl
    · exact end_multiB t n w hn hs h0 l2 g1 g2
    · exact end_multiL t n w hn hs h0 l2 g1 g2
  · rcases hq with rfl | rfl
    · exact end_singleB t n w hn hs h0 hc
    · exact end_singleL t n w hn hs h0 hc
end Go.Proofs.Qxb6600556a
