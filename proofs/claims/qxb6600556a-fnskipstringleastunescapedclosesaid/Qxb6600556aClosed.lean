import Derived.Test.Qxb6600556aCalls
namespace Go.Proofs.Qxb6600556a
open Go.RowKit
set_option linter.unusedVariables false

/-- What the run's loop keeps: at place m with the parity o so far. -/
def RunIs (l : List UInt8) (lo p m : Nat) (o : Bool) : Prop := lo ≤ m ∧ m ≤ p ∧ xor o (Pl.oddRun l lo m) = Pl.oddRun l lo p

theorem RunIs.start {l : List UInt8} {lo p : Nat} (h : lo ≤ p) : RunIs l lo p p false := ⟨h, Nat.le_refl _, by simp⟩
theorem RunIs.next {l : List UInt8} {lo p j : Nat} {o : Bool} (h : RunIs l lo p (j + 1) o) (hlo : lo ≤ j) (hb : l[j]? = some 92) : RunIs l lo p j (!o) := by
  refine ⟨hlo, by have := h.2.1; omega, ?_⟩
  rw [← h.2.2, Pl.odd_next hlo hb]
  cases o <;> cases Pl.oddRun l lo j <;> rfl
theorem RunIs.low {l : List UInt8} {lo p m : Nat} {o : Bool} (h : RunIs l lo p m o) (hlo : m ≤ lo) : o = Pl.oddRun l lo p := by
  have e : m = lo := by have := h.1; omega
  rw [← h.2.2, e, Pl.oddRun_lo]; simp
theorem RunIs.other {l : List UInt8} {lo p j : Nat} {o : Bool} (h : RunIs l lo p (j + 1) o) (hb : l[j]? ≠ some 92) : o = Pl.oddRun l lo p := by
  rw [← h.2.2, Pl.odd_zero hb]; simp

theorem even_fin {o : Bool} {l : List UInt8} {lo p : Nat} (h : o = Pl.oddRun l lo p) : Ending.returned (.bool (!o)) = .returned (.bool (!(Pl.oddRun l lo p))) := by rw [h]

theorem eq_lit {c d : UInt8} (h : c ≠ d) : ((c.toNat : Int) == (d.toNat : Int)) = false := by
  rw [beq_eq_false_iff_ne]; exact fun e => h (UInt8.toNat_inj.1 (by omega))

set_option maxHeartbeats 400000 in
theorem even_any (t : ByteArray) (lo p : Nat) (w : World) (hlo : lo ≤ p) (hp : p ≤ t.size) (hs : t.size ≤ 4194304) :
    Calls Try.prog 20 #[.string t, .int .i64 (lo : Int), .int .i64 (p : Int)] w fun e w' => e = .returned (.bool (!(Pl.oddRun t.data.toList lo p))) ∧ w' = w := by
  have hp2 : (p : Int) ≤ 4194304 := by omega
  go_enter Try.func20, Try.ntmps20
  go_wp2
  go_loop [7, 8] (fun ov kv => ∃ (m : Nat) (o : Bool), ov = .bool o ∧ kv = .int .i64 ((m : Int) - 1) ∧ Hid (RunIs t.data.toList lo p m o)) (fun _ kv => (intOf kv + 1).toNat)
  case atStart => exact ⟨p, false, rfl, rfl, RunIs.start hlo⟩
  case round =>
    obtain ⟨m, o, rfl, rfl, hr⟩ := hrel
    have hmp : m ≤ p := hr.out.2.1
    by_cases h1 : m ≤ lo
    · have h1' : (m : Int) - 1 < (lo : Int) := by omega
      go_wp2
      go_ret
      exact ⟨even_fin (hr.out.low h1), rfl⟩
    · obtain ⟨j, rfl⟩ : ∃ j, m = j + 1 := ⟨m - 1, by omega⟩
      have hj : j < t.size := by omega
      have ej : ((j + 1 : Nat) : Int) - 1 = (j : Int) := by omega
      have hlj : (lo : Int) ≤ (j : Int) := by omega
      by_cases h2 : t[j] = 92
      · have HN : Hid (RunIs t.data.toList lo p j (!o)) := hr.out.next (by omega) (by rw [get_list t j hj, h2])
        rw [ej]
        go_wp2
        exact ⟨⟨j, !o, rfl, rfl, HN.out⟩, by simp [intOf]⟩
      · have h2' : ((t[j].toNat : Int) == 92) = false := eq_lit (d := 92) h2
        have HN : Hid (o = Pl.oddRun t.data.toList lo p) := hr.out.other (by rw [get_list t j hj]; exact fun e => h2 (Option.some.inj e))
        clear h2
        rw [ej]
        go_wp2
        go_ret
        exact ⟨even_fin HN.out, rfl⟩

theorem some_of {t : ByteArray} {k : Nat} {q : UInt8} (hk : k < t.size) (h : t[k] = q) : t.data.toList[k]? = some q := by rw [get_list t k hk, h]
theorem not_some {t : ByteArray} {k : Nat} {q : UInt8} (hk : k < t.size) (h : t[k] ≠ q) : t.data.toList[k]? ≠ some q := by rw [get_list t k hk]; exact fun e => h (Option.some.inj e)

/-- The run of quotes, in the closed form's own loop. -/
def RunTo (t : ByteArray) (q : UInt8) (k c : Nat) : Prop := ∀ p, k ≤ p → p < k + c → t.data.toList[p]? = some q

theorem RunTo.next {t : ByteArray} {q : UInt8} {k c : Nat} (h : RunTo t q k c) (h1 : t.data.toList[k + c]? = some q) : RunTo t q k (c + 1) := fun p h2 h3 => by
  by_cases e : p < k + c
  · exact h p h2 e
  · have e2 : p = k + c := by omega
    rw [e2]; exact h1

theorem even_at (t : ByteArray) (lo : Int) (lo' p : Nat) (o : Bool) (w : World) (e : lo = (lo' : Int)) (ho : Pl.oddRun t.data.toList lo' p = o) (hlo : lo' ≤ p) (hp : p ≤ t.size) (hs : t.size ≤ 4194304) :
    Calls Try.prog 20 #[.string t, .int .i64 lo, .int .i64 (p : Int)] w fun e w' => e = .returned (.bool (!o)) ∧ w' = w := by
  subst e ho
  exact even_any t lo' p w hlo hp hs

set_option maxRecDepth 100000 in
set_option maxHeartbeats 4000000 in
theorem end_multiB (t : ByteArray) (n : Nat) (w : World) (hn : n < t.size) (hs : t.size ≤ 4194304) (h0 : t[n] = 34) (hn2 : n + 2 < t.size) (h1 : t[n + 1] = 34) (h2 : t[n + 2] = 34) :
    Calls Try.prog 10 #[.string t, .int .i64 (n : Int)] w fun e w' => ∃ e' : Nat, e = .returned (.int .i64 (e' : Int)) ∧ Pl.Skip t.data.toList 34 n e' ∧ w' = w := by
  have hlen : t.data.toList.length = t.size := by simp
  have HC : Hid (Pl.Cl3 t.data.toList 34 n) := ⟨some_of hn h0, some_of (by omega) h1, some_of hn2 h2⟩
  have b1 : (n : Int) + 2 < (t.size : Int) := by omega
  have b2 : (n : Int) + 1 < (t.size : Int) := by omega
  have b3 : (t.size : Int) ≤ 4194304 := by omega
  go_enter Try.func10, Try.ntmps10
  go_wp2
  go_loop [8] (fun pv => ∃ k : Nat, pv = .int .i64 (k : Int) ∧ Hid (Pl.Inv' (Pl.Cl3 t.data.toList 34) t.data.toList 34 (n + 3) k)) (fun pv => t.size - (intOf pv).toNat)
  case atStart => exact ⟨n + 3, by go_num, Pl.Inv'.start (by rw [hlen]; omega)⟩
  case round =>
    obtain ⟨k, rfl, hinv⟩ := hrel
    have hks : k ≤ t.size := by have := hinv.out.2.1; rwa [hlen] at this
    have hkl : n + 3 ≤ k := hinv.out.1
    by_cases hk : k < t.size
    case neg =>
      have hk' : (t.size : Int) ≤ (k : Int) := by omega
      have HF : Hid (Pl.First (Pl.Stop (Pl.Cl3 t.data.toList 34) t.data.toList 34 (n + 3)) (n + 3) t.data.toList.length k) := hinv.out.stop (fun h => absurd h (by omega))
      clear h0 h1 h2
      go_wp2
      go_loop [9, 10] (fun ev cv => ev = .int .i64 (k : Int) ∧ cv = .int .i64 0) (fun _ _ => 0)
      case atStart => exact ⟨rfl, rfl⟩
      case round =>
        obtain ⟨rfl, rfl⟩ := hrel
        have HR : Hid (t.data.toList[k]? ≠ some 34) := fun e => hk (by have := Pl.lt_of_some e; rwa [hlen] at this)
        go_wp2
        go_ret
        exact ⟨k, rfl, Or.inl ⟨HC.out, k, HF.out, by omega, by omega, fun p h1 h2 => absurd h1 (by omega), fun h5 => HR.out⟩, rfl⟩
    case pos =>
      have hk' : (k : Int) < (t.size : Int) := by omega
      by_cases k2 : k + 2 < t.size
      case neg =>
        have k2' : (t.size : Int) ≤ (k : Int) + 2 := by omega
        have HNS : Hid (¬ Pl.Stop (Pl.Cl3 t.data.toList 34) t.data.toList 34 (n + 3) k) := fun s => k2 (by have := Pl.lt_of_some s.1.2.2; rwa [hlen] at this)
        go_wp2
        exact ⟨⟨k + 1, by go_num, Pl.Inv'.next hinv.out (by rw [hlen]; exact hk) HNS.out⟩, by simp [intOf]; omega⟩
      case pos =>
        have k2' : (k : Int) + 2 < (t.size : Int) := by omega
        have k1 : k + 1 < t.size := by omega
        have k1' : (k : Int) + 1 < (t.size : Int) := by omega
        by_cases ga : t[k] = 34
        case neg =>
          have ga' : ((t[k].toNat : Int) == 34) = false := eq_lit (d := 34) ga
          have HNS : Hid (¬ Pl.Stop (Pl.Cl3 t.data.toList 34) t.data.toList 34 (n + 3) k) := fun s => not_some hk ga s.1.1
          clear ga
          go_wp2
          exact ⟨⟨k + 1, by go_num, Pl.Inv'.next hinv.out (by rw [hlen]; exact hk) HNS.out⟩, by simp [intOf]; omega⟩
        case pos =>
          by_cases gb : t[k + 1] = 34
          case neg =>
            have gb' : ((t[k + 1].toNat : Int) == 34) = false := eq_lit (d := 34) gb
            have HNS : Hid (¬ Pl.Stop (Pl.Cl3 t.data.toList 34) t.data.toList 34 (n + 3) k) := fun s => not_some k1 gb s.1.2.1
            clear gb
            go_wp2
            exact ⟨⟨k + 1, by go_num, Pl.Inv'.next hinv.out (by rw [hlen]; exact hk) HNS.out⟩, by simp [intOf]; omega⟩
          case pos =>
            by_cases gc : t[k + 2] = 34
            case neg =>
              have gc' : ((t[k + 2].toNat : Int) == 34) = false := eq_lit (d := 34) gc
              have HNS : Hid (¬ Pl.Stop (Pl.Cl3 t.data.toList 34) t.data.toList 34 (n + 3) k) := fun s => not_some k2 gc s.1.2.2
              clear gc
              go_wp2
              exact ⟨⟨k + 1, by go_num, Pl.Inv'.next hinv.out (by rw [hlen]; exact hk) HNS.out⟩, by simp [intOf]; omega⟩
            case pos =>
              have HCK : Hid (Pl.Cl3 t.data.toList 34 k) := ⟨some_of hk ga, some_of k1 gb, some_of k2 gc⟩
              cases ho : Pl.oddRun t.data.toList (n + 3) k with
              | true =>
                have HO : Hid (Pl.oddRun t.data.toList (n + 3) k = true) := ho
                clear ho
                have HNS : Hid (¬ Pl.Stop (Pl.Cl3 t.data.toList 34) t.data.toList 34 (n + 3) k) := fun s => by have := s.2 rfl; rw [HO.out] at this; cases this
                go_wp2_with (go_at_call 20; refine (even_at t _ (n + 3) k true _ (by omega) HO.out hkl hks hs).mono ?_; rintro e w' ⟨rfl, rfl⟩)
                exact ⟨⟨k + 1, by go_num, Pl.Inv'.next hinv.out (by rw [hlen]; exact hk) HNS.out⟩, by simp [intOf]; omega⟩
              | false =>
                have HO : Hid (Pl.oddRun t.data.toList (n + 3) k = false) := ho
                clear ho
                have HF : Hid (Pl.First (Pl.Stop (Pl.Cl3 t.data.toList 34) t.data.toList 34 (n + 3)) (n + 3) t.data.toList.length k) := hinv.out.stop (fun _ => ⟨HCK.out, fun _ => HO.out⟩)
                go_wp2_with (go_at_call 20; refine (even_at t _ (n + 3) k false _ (by omega) HO.out hkl hks hs).mono ?_; rintro e w' ⟨rfl, rfl⟩)
                clear h0 h1 h2 ga gb gc
                go_wp2
                go_loop [9, 10] (fun ev cv => ∃ c : Nat, ev = .int .i64 ((k + c : Nat) : Int) ∧ cv = .int .i64 (c : Int) ∧ c ≤ 5 ∧ k + c ≤ t.size ∧ Hid (RunTo t 34 k c)) (fun _ cv => 5 - (intOf cv).toNat)
                case atStart => exact ⟨0, rfl, rfl, by omega, by omega, fun p h1 h2 => absurd h1 (by omega)⟩
                case round =>
                  obtain ⟨c, rfl, rfl, hc5, hkc, hrun⟩ := hrel
                  have ekc : ((k + c : Nat) : Int) = (k : Int) + (c : Int) := by omega
                  by_cases g1 : c < 5
                  · have g1' : (c : Int) < 5 := by omega
                    by_cases g2 : k + c < t.size
                    · have g2' : (k : Int) + (c : Int) < (t.size : Int) := by omega
                      by_cases g3 : t[k + c] = 34
                      · have HR : Hid (RunTo t 34 k (c + 1)) := hrun.out.next (some_of g2 g3)
                        go_wp2
                        exact ⟨⟨c + 1, by go_num, by go_num, by omega, by omega, HR.out⟩, by simp [intOf]; omega⟩
                      · have g3' : ((t[k + c].toNat : Int) == 34) = false := eq_lit (d := 34) g3
                        have HR : Hid (t.data.toList[k + c]? ≠ some 34) := not_some g2 g3
                        clear g3
                        go_wp2
                        go_ret
                        exact ⟨k + c, by go_num, Or.inl ⟨HC.out, k, HF.out, by omega, by omega, hrun.out, fun h5 => HR.out⟩, rfl⟩
                    · have g2' : (t.size : Int) ≤ (k : Int) + (c : Int) := by omega
                      have HR : Hid (t.data.toList[k + c]? ≠ some 34) := fun e => g2 (by have := Pl.lt_of_some e; rwa [hlen] at this)
                      go_wp2
                      go_ret
                      exact ⟨k + c, by go_num, Or.inl ⟨HC.out, k, HF.out, by omega, by omega, hrun.out, fun h5 => HR.out⟩, rfl⟩
                  · have g1' : (5 : Int) ≤ (c : Int) := by omega
                    go_wp2
                    go_ret
                    exact ⟨k + c, by go_num, Or.inl ⟨HC.out, k, HF.out, by omega, by omega, hrun.out, fun h5 => absurd h5 (by omega)⟩, rfl⟩

set_option maxRecDepth 100000 in
set_option maxHeartbeats 4000000 in
theorem end_multiL (t : ByteArray) (n : Nat) (w : World) (hn : n < t.size) (hs : t.size ≤ 4194304) (h0 : t[n] = 39) (hn2 : n + 2 < t.size) (h1 : t[n + 1] = 39) (h2 : t[n + 2] = 39) :
    Calls Try.prog 10 #[.string t, .int .i64 (n : Int)] w fun e w' => ∃ e' : Nat, e = .returned (.int .i64 (e' : Int)) ∧ Pl.Skip t.data.toList 39 n e' ∧ w' = w := by
  have hlen : t.data.toList.length = t.size := by simp
  have HC : Hid (Pl.Cl3 t.data.toList 39 n) := ⟨some_of hn h0, some_of (by omega) h1, some_of hn2 h2⟩
  have b1 : (n : Int) + 2 < (t.size : Int) := by omega
  have b2 : (n : Int) + 1 < (t.size : Int) := by omega
  have b3 : (t.size : Int) ≤ 4194304 := by omega
  go_enter Try.func10, Try.ntmps10
  go_wp2
  go_loop [8] (fun pv => ∃ k : Nat, pv = .int .i64 (k : Int) ∧ Hid (Pl.Inv' (Pl.Cl3 t.data.toList 39) t.data.toList 39 (n + 3) k)) (fun pv => t.size - (intOf pv).toNat)
  case atStart => exact ⟨n + 3, by go_num, Pl.Inv'.start (by rw [hlen]; omega)⟩
  case round =>
    obtain ⟨k, rfl, hinv⟩ := hrel
    have hks : k ≤ t.size := by have := hinv.out.2.1; rwa [hlen] at this
    have hkl : n + 3 ≤ k := hinv.out.1
    by_cases hk : k < t.size
    case neg =>
      have hk' : (t.size : Int) ≤ (k : Int) := by omega
      have HF : Hid (Pl.First (Pl.Stop (Pl.Cl3 t.data.toList 39) t.data.toList 39 (n + 3)) (n + 3) t.data.toList.length k) := hinv.out.stop (fun h => absurd h (by omega))
      clear h0 h1 h2
      go_wp2
      go_loop [9, 10] (fun ev cv => ev = .int .i64 (k : Int) ∧ cv = .int .i64 0) (fun _ _ => 0)
      case atStart => exact ⟨rfl, rfl⟩
      case round =>
        obtain ⟨rfl, rfl⟩ := hrel
        have HR : Hid (t.data.toList[k]? ≠ some 39) := fun e => hk (by have := Pl.lt_of_some e; rwa [hlen] at this)
        go_wp2
        go_ret
        exact ⟨k, rfl, Or.inl ⟨HC.out, k, HF.out, by omega, by omega, fun p h1 h2 => absurd h1 (by omega), fun h5 => HR.out⟩, rfl⟩
    case pos =>
      have hk' : (k : Int) < (t.size : Int) := by omega
      by_cases k2 : k + 2 < t.size
      case neg =>
        have k2' : (t.size : Int) ≤ (k : Int) + 2 := by omega
        have HNS : Hid (¬ Pl.Stop (Pl.Cl3 t.data.toList 39) t.data.toList 39 (n + 3) k) := fun s => k2 (by have := Pl.lt_of_some s.1.2.2; rwa [hlen] at this)
        go_wp2
        exact ⟨⟨k + 1, by go_num, Pl.Inv'.next hinv.out (by rw [hlen]; exact hk) HNS.out⟩, by simp [intOf]; omega⟩
      case pos =>
        have k2' : (k : Int) + 2 < (t.size : Int) := by omega
        have k1 : k + 1 < t.size := by omega
        have k1' : (k : Int) + 1 < (t.size : Int) := by omega
        by_cases ga : t[k] = 39
        case neg =>
          have ga' : ((t[k].toNat : Int) == 39) = false := eq_lit (d := 39) ga
          have HNS : Hid (¬ Pl.Stop (Pl.Cl3 t.data.toList 39) t.data.toList 39 (n + 3) k) := fun s => not_some hk ga s.1.1
          clear ga
          go_wp2
          exact ⟨⟨k + 1, by go_num, Pl.Inv'.next hinv.out (by rw [hlen]; exact hk) HNS.out⟩, by simp [intOf]; omega⟩
        case pos =>
          by_cases gb : t[k + 1] = 39
          case neg =>
            have gb' : ((t[k + 1].toNat : Int) == 39) = false := eq_lit (d := 39) gb
            have HNS : Hid (¬ Pl.Stop (Pl.Cl3 t.data.toList 39) t.data.toList 39 (n + 3) k) := fun s => not_some k1 gb s.1.2.1
            clear gb
            go_wp2
            exact ⟨⟨k + 1, by go_num, Pl.Inv'.next hinv.out (by rw [hlen]; exact hk) HNS.out⟩, by simp [intOf]; omega⟩
          case pos =>
            by_cases gc : t[k + 2] = 39
            case neg =>
              have gc' : ((t[k + 2].toNat : Int) == 39) = false := eq_lit (d := 39) gc
              have HNS : Hid (¬ Pl.Stop (Pl.Cl3 t.data.toList 39) t.data.toList 39 (n + 3) k) := fun s => not_some k2 gc s.1.2.2
              clear gc
              go_wp2
              exact ⟨⟨k + 1, by go_num, Pl.Inv'.next hinv.out (by rw [hlen]; exact hk) HNS.out⟩, by simp [intOf]; omega⟩
            case pos =>
              have HCK : Hid (Pl.Cl3 t.data.toList 39 k) := ⟨some_of hk ga, some_of k1 gb, some_of k2 gc⟩
              have HF : Hid (Pl.First (Pl.Stop (Pl.Cl3 t.data.toList 39) t.data.toList 39 (n + 3)) (n + 3) t.data.toList.length k) := hinv.out.stop (fun _ => ⟨HCK.out, fun e => absurd e (by decide)⟩)
              go_wp2
              clear h0 h1 h2 ga gb gc
              go_wp2
              go_loop [9, 10] (fun ev cv => ∃ c : Nat, ev = .int .i64 ((k + c : Nat) : Int) ∧ cv = .int .i64 (c : Int) ∧ c ≤ 5 ∧ k + c ≤ t.size ∧ Hid (RunTo t 39 k c)) (fun _ cv => 5 - (intOf cv).toNat)
              case atStart => exact ⟨0, rfl, rfl, by omega, by omega, fun p h1 h2 => absurd h1 (by omega)⟩
              case round =>
                obtain ⟨c, rfl, rfl, hc5, hkc, hrun⟩ := hrel
                have ekc : ((k + c : Nat) : Int) = (k : Int) + (c : Int) := by omega
                by_cases g1 : c < 5
                · have g1' : (c : Int) < 5 := by omega
                  by_cases g2 : k + c < t.size
                  · have g2' : (k : Int) + (c : Int) < (t.size : Int) := by omega
                    by_cases g3 : t[k + c] = 39
                    · have HR : Hid (RunTo t 39 k (c + 1)) := hrun.out.next (some_of g2 g3)
                      go_wp2
                      exact ⟨⟨c + 1, by go_num, by go_num, by omega, by omega, HR.out⟩, by simp [intOf]; omega⟩
                    · have g3' : ((t[k + c].toNat : Int) == 39) = false := eq_lit (d := 39) g3
                      have HR : Hid (t.data.toList[k + c]? ≠ some 39) := not_some g2 g3
                      clear g3
                      go_wp2
                      go_ret
                      exact ⟨k + c, by go_num, Or.inl ⟨HC.out, k, HF.out, by omega, by omega, hrun.out, fun h5 => HR.out⟩, rfl⟩
                  · have g2' : (t.size : Int) ≤ (k : Int) + (c : Int) := by omega
                    have HR : Hid (t.data.toList[k + c]? ≠ some 39) := fun e => g2 (by have := Pl.lt_of_some e; rwa [hlen] at this)
                    go_wp2
                    go_ret
                    exact ⟨k + c, by go_num, Or.inl ⟨HC.out, k, HF.out, by omega, by omega, hrun.out, fun h5 => HR.out⟩, rfl⟩
                · have g1' : (5 : Int) ≤ (c : Int) := by omega
                  go_wp2
                  go_ret
                  exact ⟨k + c, by go_num, Or.inl ⟨HC.out, k, HF.out, by omega, by omega, hrun.out, fun h5 => absurd h5 (by omega)⟩, rfl⟩

end Go.Proofs.Qxb6600556a
