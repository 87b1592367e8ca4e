import Derived.Test.Qxb6600556aSkip
namespace Go.Proofs.Qxb6600556a
open Go.RowKit Go.Sort
set_option linter.unusedVariables false

theorem byte_ne_false {c : UInt8} (h : c = 10) : ((c.toNat : Int) != 10) = false := by rw [h]; rfl
theorem byte_ne_true {c : UInt8} (h : c ≠ 10) : ((c.toNat : Int) != 10) = true := by
  rw [bne_iff_ne]; exact fun e => h (UInt8.toNat_inj.1 (by have : (10 : UInt8).toNat = 10 := rfl; omega))

set_option maxRecDepth 100000 in
set_option maxHeartbeats 2000000 in
theorem skip_single (b : Nat) (t : ByteArray) (q : UInt8) (hq : q = 34 ∨ q = 39) (i : Nat) (w : World) (h : Scan b t i w) (hi : i < t.size) (hs : t.size ≤ 4194304) (hqi : t.data.toList[i]? = some q)
    (hc : ¬ Pl.Cl3 t.data.toList q i) :
    Calls Try.prog 19 #[.pointer (some ⟨b, 0, none⟩)] w fun e w' => e = .returned (.tuple #[]) ∧ ∃ k, Pl.Skip t.data.toList q i k ∧ Scan b t k w' ∧ Below b w w' := by
  have HSC : Hid (Scan b t i w) := h
  obtain ⟨h0, h1, h2⟩ := h
  have i1 : (i : Int) + 1 ≤ (t.size : Int) := by omega
  have i0 : (i : Int) ≤ (t.size : Int) := by omega
  have hx := quote_at t q i hqi
  have HC : Hid (¬ Pl.Cl3 t.data.toList q i) := hc
  have hlt : b < w.heap.size := World.block_lt_of_cell? _ _ h0
  have hlen : t.data.toList.length = t.size := by simp
  have HS : Hid (i + 1 ≤ t.data.toList.length) := by have : i + 1 ≤ t.data.toList.length := by omega
                                                     exact this
  clear hqi hc
  go_enter Try.func19, Try.ntmps19
  go_wp2
  go_quiet (fail)
  go_wp2
  have hB : Below w.heap.size w (w.drewN nq) := below_drewN (Below.refl _ _) _
  generalize w.drewN nq = W at hB ⊢
  have k0 := cell_regrown (w := W) ((hB.cell hlt).trans h0)
  have k1 := cell_regrown (w := W) ((hB.cell hlt).trans h1)
  have cR := fun d os => Calls.regrown_of (w := W) (d := d) (os := os) (rep_call q _)
  have cH := fun d os => Calls.regrown_of (w := W) (d := d) (os := os) (has_call t q i false ⟨fun e => Bool.noConfusion e, fun e => absurd e HC.out⟩ _)
  refine wp_region_quiet_below (by kernel_rfl) (by kernel_rfl) ?_
  repeat (quiet_step (first | exact cR _ _ | exact cH _ _))
  refine wpQuiet_nil ?_
  intro _ hw'
  obtain ⟨⟨dq, osq⟩, hw''⟩ := hw'
  subst hw''
  clear k0 k1 cR cH
  have hB2 : Below w.heap.size w (grow (redrawn W dq) osq) := hB.trans ((below_regrown W dq osq).mono hB.size)
  generalize grow (redrawn W dq) osq = W2 at hB2 ⊢
  have HS2 : Hid (Scan b t i W2) := HSC.out.below hB2
  obtain ⟨s0, s1, s2⟩ := HS2.out
  have HB2 : Hid (Below w.heap.size w W2) := hB2
  clear hB hB2 h0 h1 h2
  go_wp2
  go_loopw [] (fun wl => ∃ k : Nat, Hid (Pl.Inv (Pl.Cl1 t.data.toList q) t.data.toList q (i + 1) k) ∧ Hid (Scan b t k wl) ∧ Hid (Below b w wl)) (fun wl => t.size - plc b wl)
  case atStart => exact ⟨i + 1, Pl.Inv.start HS.out, HS2.out.store (m := i + 1), (HB2.out.mono (Nat.le_of_lt hlt)).setCell (Nat.le_refl _) _⟩
  case round =>
    obtain ⟨k, hinv, hsc, hbl⟩ := hrel
    obtain ⟨c0, c1, c2⟩ := hsc.out
    have hkb : b < wr.heap.size := World.block_lt_of_cell? _ _ c0
    have hk3 : Hid (k ≤ t.size) := by have := hinv.out.2.1; rw [hlen] at this; exact this
    clear s0 s1 s2
    by_cases hk : k < t.size
    case neg =>
      have kl : decide ((k : Int) < (t.size : Int)) = false := by simp; omega
      have kb : (k : Int) ≤ 4194304 := by have := hk3.out; omega
      have HF : Hid (Pl.First (Pl.Stop (Pl.Cl1 t.data.toList q) t.data.toList q (i + 1)) (i + 1) t.data.toList.length k) := hinv.out.stop (fun h => absurd h (by omega))
      go_wp2
      go_quiet (fail)
      go_wp2
      clear c0 c1 c2
      have hsc2 := hsc.out.below (w' := wr.drewN nq) ⟨rfl, rfl, rfl, Nat.le_refl _, fun _ _ => rfl⟩
      have hbl2 := hbl.out.trans (c := wr.drewN nq) ⟨rfl, rfl, rfl, Nat.le_refl _, fun _ _ => rfl⟩
      generalize wr.drewN nq = W3 at hsc2 hbl2 ⊢
      have HSC2 : Hid (Scan b t k W3) := hsc2
      have HBL2 : Hid (Below b w W3) := hbl2
      obtain ⟨c0, c1, c2⟩ := hsc2
      clear hbl2
      go_region
      all_goals
        go_end0
        exact ⟨rfl, min (k + 1) t.size, Or.inr ⟨HC.out, k, HF.out, by rw [hlen]⟩, (HSC2.out.storeI (m := min (k + 1) t.size) (by omega)).below ⟨rfl, rfl, rfl, Nat.le_refl _, fun _ _ => rfl⟩, (HBL2.out.setCell (Nat.le_refl _) _).drew⟩
    case pos =>
      have kl : (k : Int) < (t.size : Int) := by omega
      have kl1 : (k : Int) + 1 ≤ (t.size : Int) := by omega
      by_cases gq : t.data.toList[k]? = some q
      case pos =>
        have hx2 : ((t.extract k (k + 1)).toList == [q]) = true := is_quote t q k gq
        have HF : Hid (Pl.First (Pl.Stop (Pl.Cl1 t.data.toList q) t.data.toList q (i + 1)) (i + 1) t.data.toList.length k) := hinv.out.stop (fun h => Or.inl gq)
        clear gq
        go_wp2
        go_quiet (fail)
        go_wp2
        clear c0 c1 c2
        have hsc2 := hsc.out.below (w' := wr.drewN nq) ⟨rfl, rfl, rfl, Nat.le_refl _, fun _ _ => rfl⟩
        have hbl2 := hbl.out.trans (c := wr.drewN nq) ⟨rfl, rfl, rfl, Nat.le_refl _, fun _ _ => rfl⟩
        generalize wr.drewN nq = W3 at hsc2 hbl2 ⊢
        have HSC2 : Hid (Scan b t k W3) := hsc2
        have HBL2 : Hid (Below b w W3) := hbl2
        obtain ⟨c0, c1, c2⟩ := hsc2
        clear hbl2
        go_region
        all_goals
          go_end0
          exact ⟨rfl, min (k + 1) t.size, Or.inr ⟨HC.out, k, HF.out, by rw [hlen]⟩, (HSC2.out.storeI (m := min (k + 1) t.size) (by omega)).below ⟨rfl, rfl, rfl, Nat.le_refl _, fun _ _ => rfl⟩, (HBL2.out.setCell (Nat.le_refl _) _).drew⟩
      case neg =>
        have hx2 : ((t.extract k (k + 1)).toList == [q]) = false := not_quote t q k hk gq
        by_cases gn : t.data.toList[k]? = some 10
        case pos =>
          have hx3 : ((t[k].toNat : Int) != 10) = false := byte_ne_false (by have := get_list t k hk; rw [gn] at this; exact (Option.some.inj this).symm)
          have HF : Hid (Pl.First (Pl.Stop (Pl.Cl1 t.data.toList q) t.data.toList q (i + 1)) (i + 1) t.data.toList.length k) := hinv.out.stop (fun h => Or.inr gn)
          clear gq gn
          go_wp2
          go_quiet (fail)
          go_wp2
          clear c0 c1 c2
          have hsc2 := hsc.out.below (w' := wr.drewN nq) ⟨rfl, rfl, rfl, Nat.le_refl _, fun _ _ => rfl⟩
          have hbl2 := hbl.out.trans (c := wr.drewN nq) ⟨rfl, rfl, rfl, Nat.le_refl _, fun _ _ => rfl⟩
          generalize wr.drewN nq = W3 at hsc2 hbl2 ⊢
          have HSC2 : Hid (Scan b t k W3) := hsc2
          have HBL2 : Hid (Below b w W3) := hbl2
          obtain ⟨c0, c1, c2⟩ := hsc2
          clear hbl2
          go_region
          all_goals
            go_end0
            exact ⟨rfl, min (k + 1) t.size, Or.inr ⟨HC.out, k, HF.out, by rw [hlen]⟩, (HSC2.out.storeI (m := min (k + 1) t.size) (by omega)).below ⟨rfl, rfl, rfl, Nat.le_refl _, fun _ _ => rfl⟩, (HBL2.out.setCell (Nat.le_refl _) _).drew⟩
        case neg =>
          have hx3 : ((t[k].toNat : Int) != 10) = true := byte_ne_true (fun e => gn (by rw [get_list t k hk, e]))
          have HI : Hid (Pl.Inv (Pl.Cl1 t.data.toList q) t.data.toList q (i + 1) (k + escN t q k)) := inv_step hinv.out (fun h => h.elim gq gn) hk
          clear gq gn
          go_wp2
          go_quiet (fail)
          go_wp2
          clear c0 c1 c2
          have hsc2 := hsc.out.below (w' := wr.drewN nq) ⟨rfl, rfl, rfl, Nat.le_refl _, fun _ _ => rfl⟩
          have hbl2 := hbl.out.trans (c := wr.drewN nq) ⟨rfl, rfl, rfl, Nat.le_refl _, fun _ _ => rfl⟩
          generalize wr.drewN nq = W3 at hsc2 hbl2 ⊢
          have HSC2 : Hid (Scan b t k W3) := hsc2
          have HBL2 : Hid (Below b w W3) := hbl2
          obtain ⟨c0, c1, c2⟩ := hsc2
          clear hbl2
          have he := escN_le t q k
          have hwr := wrap_small k (escN t q k) (by omega) he.2
          go_region_with (go_at_call 24; refine (esc_any b t q hq k _ ?_ hk hs).mono ?_; exact HSC2.out.below ⟨rfl, rfl, rfl, Nat.le_refl _, fun _ _ => rfl⟩; rintro e w' ⟨rfl, n, rfl⟩)
          all_goals
            have hsf := (HSC2.out.below (w' := W3.drewN (1 + n)) ⟨rfl, rfl, rfl, Nat.le_refl _, fun _ _ => rfl⟩).storeI (m := k + escN t q k) (v := (k : Int) + (escN t q k : Int)) (by omega)
            have hbf := (HBL2.out.trans (c := W3.drewN (1 + n)) ⟨rfl, rfl, rfl, Nat.le_refl _, fun _ _ => rfl⟩).setCell (p := ⟨b, 1, none⟩) (Nat.le_refl _) (.int .i64 ((k : Int) + (escN t q k : Int)))
            have hpl := plc_of hsf
            have hpl0 := plc_of hsc.out
            generalize (W3.drewN (1 + n)).setCell ⟨b, 1, none⟩ (.int .i64 ((k : Int) + (escN t q k : Int))) = W4 at hsf hbf hpl ⊢
            clear c0 c1 c2
            go_wp2
            exact ⟨⟨_, HI.out, hsf, hbf⟩, by rw [hpl, hpl0]; omega⟩

theorem skip_any (b : Nat) (t : ByteArray) (q : UInt8) (hq : q = 34 ∨ q = 39) (i : Nat) (w : World) (h : Scan b t i w) (hi : i < t.size) (hs : t.size ≤ 4194304) (hqi : t.data.toList[i]? = some q) :
    Calls Try.prog 19 #[.pointer (some ⟨b, 0, none⟩)] w fun e w' => e = .returned (.tuple #[]) ∧ ∃ k, Pl.Skip t.data.toList q i k ∧ Scan b t k w' ∧ Below b w w' := by
  by_cases hc : Pl.Cl3 t.data.toList q i
  · exact skip_multi b t q hq i w h hi hs hqi hc
  · exact skip_single b t q hq i w h hi hs hqi hc

set_option maxHeartbeats 400000 in
theorem zz_skip (t : ByteArray) (q : UInt8) (hq : q = 34 ∨ q = 39) (i : Nat) (w : World) (hi : i < t.size) (hs : t.size ≤ 4194304) (hqi : t.data.toList[i]? = some q) :
    Calls Try.prog 9 #[.string t, .int .i64 (i : Int)] w fun e w' => ∃ k : Nat, e = .returned (.int .i64 (k : Int)) ∧ Pl.Skip t.data.toList q i k ∧ Below w.heap.size w w' := by
  have HQ : Hid (t.data.toList[i]? = some q) := hqi
  clear hqi
  go_enter Try.func9, Try.ntmps9
  go_wp2_with fail
  refine (skip_any _ t q hq i _ ⟨by simp, by simp, by simp⟩ hi hs HQ.out).mono ?_
  rintro e w1 ⟨rfl, k, hsk, hsc, hb⟩
  obtain ⟨c0, c1, c2⟩ := hsc
  have HSK : Hid (Pl.Skip t.data.toList q i k) := hsk
  have HB : Hid (Below w.heap.size w w1) := ((Below.refl _ w).alloc (Nat.le_refl _) _).trans hb
  clear hsk hb
  go_wp2
  go_ret
  exact ⟨k, rfl, HSK.out, HB.out⟩
end Go.Proofs.Qxb6600556a
