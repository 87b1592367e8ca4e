import Derived.Test.Qxb6600556aCalls
import Derived.Lib.QuietBelow
namespace Go.Proofs.Qxb6600556a
open Go.RowKit Go.Sort
set_option linter.unusedVariables false

/-- Three quotes. -/
def trio (q : UInt8) : ByteArray := ⟨#[q, q, q]⟩

theorem trio_eq (q : UInt8) : (⟨(Lib.repeatL (ByteArray.mk #[q]).data.toList 3).toArray⟩ : ByteArray) = trio q := rfl

theorem rep_call (q : UInt8) (w : World) : Calls Try.prog 23 #[.string ⟨#[q]⟩, .int .i64 3] w fun e w' => e = .returned (.string (trio q)) ∧ Below w.heap.size w w' := by
  have := Try.strings_Repeat ⟨#[q]⟩ 3 w (by omega) (by simp [ByteArray.size])
  rw [trio_eq] at this
  exact this

/-- The three bytes at k are quotes. -/
theorem extract_drop (t : ByteArray) (k : Nat) : (t.extract k t.size).data.toList = t.data.toList.drop k := by
  rw [ByteArray.data_extract, Array.toList_extract]
  have : t.data.toList.length = t.size := by simp
  rw [List.extract_eq_take_drop]
  apply List.take_of_length_le
  rw [List.length_drop]
  omega

theorem pre_iff (l : List UInt8) (q : UInt8) (k : Nat) : Lib.hasPrefix (l.drop k) [q, q, q] = true ↔ Pl.Cl3 l q k := by
  unfold Lib.hasPrefix Pl.Cl3
  rw [List.isPrefixOf_iff_prefix]
  constructor
  · rintro ⟨u, hu⟩
    have h : ∀ j, l[k + j]? = (l.drop k)[j]? := fun j => by rw [List.getElem?_drop]
    refine ⟨?_, ?_, ?_⟩
    · have := h 0; rw [Nat.add_zero] at this; rw [this, ← hu]; rfl
    · rw [h 1, ← hu]; rfl
    · rw [h 2, ← hu]; rfl
  · rintro ⟨h0, h1, h2⟩
    have h : ∀ j, (l.drop k)[j]? = l[k + j]? := fun j => by rw [List.getElem?_drop]
    have e0 := h 0; rw [Nat.add_zero, h0] at e0
    have e1 := h 1; rw [h1] at e1
    have e2 := h 2; rw [h2] at e2
    match l.drop k, e0, e1, e2 with
    | a :: b :: c :: u, e0, e1, e2 =>
      simp at e0 e1 e2
      exact ⟨u, by simp [e0, e1, e2]⟩

theorem has_call (t : ByteArray) (q : UInt8) (k : Nat) (v : Bool) (hv : v = true ↔ Pl.Cl3 t.data.toList q k) (w : World) :
    Calls Try.prog 22 #[.string (t.extract k t.size), .string (trio q)] w fun e w' => e = .returned (.bool v) ∧ Below w.heap.size w w' := by
  have e : Lib.hasPrefix (t.extract k t.size).data.toList (trio q).data.toList = v := by
    rw [extract_drop]
    have := pre_iff t.data.toList q k
    show Lib.hasPrefix _ [q, q, q] = v
    rw [Bool.eq_iff_iff, this, hv]
  refine (Try.strings_HasPrefix (t.extract k t.size) (trio q) w).mono ?_
  rintro e w' ⟨rfl, rfl⟩
  rw [‹Lib.hasPrefix _ _ = v›]
  exact ⟨rfl, Below.refl _ _⟩

theorem quote_at (t : ByteArray) (q : UInt8) (i : Nat) (hqi : t.data.toList[i]? = some q) : t.extract i (i + 1) = ⟨#[q]⟩ := by
  apply Go.WideShapes.bytes_inj
  rw [ByteArray.data_extract, Array.toList_extract, List.extract_eq_take_drop]
  have hi := Pl.lt_of_some hqi
  have : t.data.toList.drop i = q :: t.data.toList.drop (i + 1) := by
    rw [List.drop_eq_getElem_cons hi]
    rw [List.getElem?_eq_getElem hi] at hqi
    rw [Option.some.inj hqi]
  rw [this]
  simp

theorem is_quote (t : ByteArray) (q : UInt8) (i : Nat) (h : t.data.toList[i]? = some q) : ((t.extract i (i + 1)).toList == [q]) = true := by
  rw [quote_at t q i h, ByteArray.toList_eq]
  simp

theorem not_quote (t : ByteArray) (q : UInt8) (i : Nat) (hi : i < t.size) (h : t.data.toList[i]? ≠ some q) : ((t.extract i (i + 1)).toList == [q]) = false := by
  have hg := get_list t i hi
  rw [quote_at t t[i] i hg, ByteArray.toList_eq]
  have : t[i] ≠ q := fun e => h (by rw [hg, e])
  simpa using this

/-- The scanner's place, as a number. -/
def plc (b : Nat) (w : World) : Nat := match w.cell? ⟨b, 1, none⟩ with | some (.int _ n) => n.toNat | _ => 0

theorem plc_of {b : Nat} {t : ByteArray} {k : Nat} {w : World} (h : Scan b t k w) : plc b w = k := by
  unfold plc; rw [h.2.1]; rfl

theorem Scan.below {b : Nat} {t : ByteArray} {k : Nat} {w w' : World} (h : Scan b t k w) (hb : Below w.heap.size w w') : Scan b t k w' := by
  have hlt : b < w.heap.size := World.block_lt_of_cell? _ _ h.1
  exact ⟨(hb.cell hlt).trans h.1, (hb.cell hlt).trans h.2.1, (hb.frozen hlt).trans h.2.2⟩

theorem Scan.storeI {b : Nat} {t : ByteArray} {k m : Nat} {v : Int} {w : World} (h : Scan b t k w) (hv : v = (m : Int)) : Scan b t m (w.setCell ⟨b, 1, none⟩ (.int .i64 v)) := by
  subst hv
  refine ⟨(World.cell?_setCell_other _ _ _ _ (by simp)).trans h.1, World.cell?_setCell_same _ _ _ h.2.1, ?_⟩
  have := h.2.2
  simpa using this

theorem Scan.store {b : Nat} {t : ByteArray} {k m : Nat} {w : World} (h : Scan b t k w) : Scan b t m (w.setCell ⟨b, 1, none⟩ (.int .i64 (m : Int))) := by
  refine ⟨(World.cell?_setCell_other _ _ _ _ (by simp)).trans h.1, World.cell?_setCell_same _ _ _ h.2.1, ?_⟩
  have := h.2.2
  simpa using this

/-- One turn of the scanner's loop. -/
theorem inv_step {C : Nat → Prop} {t : ByteArray} {q : UInt8} {lo k : Nat} (h : Pl.Inv C t.data.toList q lo k) (hC : ¬ C k) (hk : k < t.size) : Pl.Inv C t.data.toList q lo (k + escN t q k) := by
  have hlen : t.data.toList.length = t.size := by simp
  unfold escN
  by_cases he : q = 34 ∧ t.data.toList[k]? = some 92 ∧ k + 1 < t.size
  · rw [if_pos he]
    exact h.two hC he.1 he.2.1 (by rw [hlen]; exact he.2.2)
  · rw [if_neg he]
    exact h.one hC (by rw [hlen]; exact hk) (fun h1 h2 h3 => he ⟨h1, h2, by rw [hlen] at h3; exact h3⟩)

theorem wrap_small (k e : Nat) (hk : k < 4194304) (he : e ≤ 2) : IntKind.i64.wrap ((k : Int) + (e : Int)) = ((k + e : Nat) : Int) := by
  rw [IntKind.wrap_i64]; omega

theorem escN_le (t : ByteArray) (q : UInt8) (k : Nat) : 1 ≤ escN t q k ∧ escN t q k ≤ 2 := by unfold escN; split <;> omega

set_option maxRecDepth 100000 in
set_option maxHeartbeats 1000000 in
theorem skip_multi (b : Nat) (t : ByteArray) (q : UInt8) (hq : q = 34 ∨ q = 39) (i : Nat) (w : World) (h : Scan b t i w) (hi : i < t.size) (hs : t.size ≤ 4194304) (hqi : t.data.toList[i]? = some q)
    (hc : Pl.Cl3 t.data.toList q i) :
    Calls Try.prog 19 #[.pointer (some ⟨b, 0, none⟩)] w fun e w' => e = .returned (.tuple #[]) ∧ ∃ k, Pl.Skip t.data.toList q i k ∧ Scan b t k w' ∧ Below b w w' := by
  have HSC : Hid (Scan b t i w) := h
  obtain ⟨h0, h1, h2⟩ := h
  have i1 : (i : Int) + 1 ≤ (t.size : Int) := by omega
  have i0 : (i : Int) ≤ (t.size : Int) := by omega
  have hx := quote_at t q i hqi
  have HC : Hid (Pl.Cl3 t.data.toList q i) := hc
  have hlt : b < w.heap.size := World.block_lt_of_cell? _ _ h0
  have hlen : t.data.toList.length = t.size := by simp
  have HS : Hid (i + 3 ≤ t.data.toList.length) := Pl.lt_of_some hc.2.2
  clear hqi hc
  go_enter Try.func19, Try.ntmps19
  go_wp2
  go_quiet (fail)
  go_wp2
  have hB : Below w.heap.size w (w.drewN nq) := below_drewN (Below.refl _ _) _
  generalize w.drewN nq = W at hB ⊢
  have k0 := cell_regrown (w := W) ((hB.cell hlt).trans h0)
  have k1 := cell_regrown (w := W) ((hB.cell hlt).trans h1)
  have cR := fun d os => Calls.regrown_of (w := W) (d := d) (os := os) (rep_call q _)
  have cH := fun d os => Calls.regrown_of (w := W) (d := d) (os := os) (has_call t q i true ⟨fun _ => HC.out, fun _ => rfl⟩ _)
  refine wp_region_quiet_below (by kernel_rfl) (by kernel_rfl) ?_
  repeat (quiet_step (first | exact cR _ _ | exact cH _ _))
  refine wpQuiet_nil ?_
  intro _ hw'
  obtain ⟨⟨dq, osq⟩, hw''⟩ := hw'
  subst hw''
  clear k0 k1 cR cH
  have hB2 : Below w.heap.size w (grow (redrawn W dq) osq) := hB.trans ((below_regrown W dq osq).mono hB.size)
  generalize grow (redrawn W dq) osq = W2 at hB2 ⊢
  have HS2 : Hid (Scan b t i W2) := HSC.out.below hB2
  obtain ⟨s0, s1, s2⟩ := HS2.out
  have HB2 : Hid (Below w.heap.size w W2) := hB2
  clear hB hB2 h0 h1 h2
  go_wp2
  go_loopw [] (fun wl => ∃ k : Nat, Hid (Pl.Inv (Pl.Cl3 t.data.toList q) t.data.toList q (i + 3) k) ∧ Hid (Scan b t k wl) ∧ Hid (Below b w wl)) (fun wl => t.size - plc b wl)
  case atStart => exact ⟨i + 3, Pl.Inv.start HS.out, HS2.out.store (m := i + 3), (HB2.out.mono (Nat.le_of_lt hlt)).setCell (Nat.le_refl _) _⟩
  case round =>
    obtain ⟨k, hinv, hsc, hbl⟩ := hrel
    obtain ⟨c0, c1, c2⟩ := hsc.out
    have hkb : b < wr.heap.size := World.block_lt_of_cell? _ _ c0
    have hk3 : Hid (k ≤ t.size) := by have := hinv.out.2.1; rw [hlen] at this; exact this
    clear s0 s1 s2
    by_cases hgo : k < t.size ∧ ¬ Pl.Cl3 t.data.toList q k
    · obtain ⟨hk, hn3⟩ := hgo
      have kl : (k : Int) < (t.size : Int) := by omega
      have kl' : (k : Int) ≤ (t.size : Int) := by omega
      have HN : Hid (¬ Pl.Cl3 t.data.toList q k) := hn3
      clear hn3
      have k0 := cell_regrown (w := wr) c0
      have k1 := cell_regrown (w := wr) c1
      have cR := fun d os => Calls.regrown_of (w := wr) (d := d) (os := os) (rep_call q _)
      have cH := fun d os => Calls.regrown_of (w := wr) (d := d) (os := os) (has_call t q k false ⟨fun e => Bool.noConfusion e, fun e => absurd e HN.out⟩ _)
      go_wp2
      refine wp_region_quiet_below (by kernel_rfl) (by kernel_rfl) ?_
      repeat (quiet_step (first | exact cR _ _ | exact cH _ _))
      refine wpQuiet_nil ?_
      intro _ hw'
      obtain ⟨⟨dr, osr⟩, hw''⟩ := hw'
      subst hw''
      clear k0 k1 cR cH c0 c1 c2
      have hsc2 := hsc.out.below (below_regrown wr dr osr)
      have hbl2 := hbl.out.trans ((below_regrown wr dr osr).mono (Nat.le_of_lt hkb))
      generalize grow (redrawn wr dr) osr = W3 at hsc2 hbl2 ⊢
      have HSC2 : Hid (Scan b t k W3) := hsc2
      have HBL2 : Hid (Below b w W3) := hbl2
      obtain ⟨c0, c1, c2⟩ := hsc2
      clear hbl2
      go_wp2
      have he := escN_le t q k
      have hwr := wrap_small k (escN t q k) (by omega) he.2
      have HI : Hid (Pl.Inv (Pl.Cl3 t.data.toList q) t.data.toList q (i + 3) (k + escN t q k)) := inv_step hinv.out HN.out hk
      go_region_with (go_at_call 24; refine (esc_any b t q hq k _ ?_ hk hs).mono ?_; exact HSC2.out.below ⟨rfl, rfl, rfl, Nat.le_refl _, fun _ _ => rfl⟩; rintro e w' ⟨rfl, n, rfl⟩)
      all_goals
        have hsf := (HSC2.out.below (w' := W3.drewN (1 + n)) ⟨rfl, rfl, rfl, Nat.le_refl _, fun _ _ => rfl⟩).storeI (m := k + escN t q k) (v := (k : Int) + (escN t q k : Int)) (by omega)
        have hbf := (HBL2.out.trans (c := W3.drewN (1 + n)) ⟨rfl, rfl, rfl, Nat.le_refl _, fun _ _ => rfl⟩).setCell (p := ⟨b, 1, none⟩) (Nat.le_refl _) (.int .i64 ((k : Int) + (escN t q k : Int)))
        have hpl := plc_of hsf
        have hpl0 := plc_of hsc.out
        generalize (W3.drewN (1 + n)).setCell ⟨b, 1, none⟩ (.int .i64 ((k : Int) + (escN t q k : Int))) = W4 at hsf hbf hpl ⊢
        clear c0 c1 c2
        go_wp2
        exact ⟨⟨_, HI.out, hsf, hbf⟩, by rw [hpl, hpl0]; omega⟩
    · have hex : (¬ k < t.size) ∨ (k < t.size ∧ Pl.Cl3 t.data.toList q k) := by
        by_cases hk : k < t.size
        · exact Or.inr ⟨hk, Classical.byContradiction fun hn => hgo ⟨hk, hn⟩⟩
        · exact Or.inl hk
      have HF : Hid (Pl.First (Pl.Stop (Pl.Cl3 t.data.toList q) t.data.toList q (i + 3)) (i + 3) t.data.toList.length k) := hinv.out.stop (fun hk => by
        rw [hlen] at hk
        rcases hex with h | h
        · exact absurd hk h
        · exact h.2)
      clear hgo
      rcases hex with hk | ⟨hk, h3⟩
      case' inl =>
        have kl : decide ((k : Int) < (t.size : Int)) = false := by simp; omega
        go_wp2
        go_quiet (fail)
        clear c0 c1 c2
        have hsc2 := hsc.out.below (w' := wr.drewN nq) ⟨rfl, rfl, rfl, Nat.le_refl _, fun _ _ => rfl⟩
        have hbl2 := hbl.out.trans (c := wr.drewN nq) ⟨rfl, rfl, rfl, Nat.le_refl _, fun _ _ => rfl⟩
        generalize wr.drewN nq = W3 at hsc2 hbl2 ⊢
      case' inr =>
        have kl : (k : Int) < (t.size : Int) := by omega
        have kl' : (k : Int) ≤ (t.size : Int) := by omega
        have H3 : Hid (Pl.Cl3 t.data.toList q k) := h3
        clear h3
        have k0 := cell_regrown (w := wr) c0
        have k1 := cell_regrown (w := wr) c1
        have cR := fun d os => Calls.regrown_of (w := wr) (d := d) (os := os) (rep_call q _)
        have cH := fun d os => Calls.regrown_of (w := wr) (d := d) (os := os) (has_call t q k true ⟨fun _ => H3.out, fun _ => rfl⟩ _)
        go_wp2
        refine wp_region_quiet_below (by kernel_rfl) (by kernel_rfl) ?_
        repeat (quiet_step (first | exact cR _ _ | exact cH _ _))
        refine wpQuiet_nil ?_
        intro _ hw'
        obtain ⟨⟨dr, osr⟩, hw''⟩ := hw'
        subst hw''
        clear k0 k1 cR cH c0 c1 c2
        have hsc2 := hsc.out.below (below_regrown wr dr osr)
        have hbl2 := hbl.out.trans ((below_regrown wr dr osr).mono (Nat.le_of_lt hkb))
        generalize grow (redrawn wr dr) osr = W3 at hsc2 hbl2 ⊢
      all_goals
        have HSC2 : Hid (Scan b t k W3) := hsc2
        have HBL2 : Hid (Below b w W3) := hbl2
        clear hsc2 hbl2
        go_wp2
        go_loopw [3] (fun nv wl => ∃ c : Nat, nv = .int .i64 c ∧ c ≤ 5 ∧ k + c ≤ t.size ∧ Hid (∀ p, k ≤ p → p < k + c → t.data.toList[p]? = some q) ∧ Hid (Scan b t (k + c) wl) ∧ Hid (Below b w wl)) (fun nv _ => 5 - (intOf nv).toNat)
        case atStart => exact ⟨0, rfl, by omega, by have := hk3.out; omega, fun p h1 h2 => absurd h1 (by omega), HSC2.out, HBL2.out⟩
        case round =>
          obtain ⟨c, rfl, hc5, hkc, hrun, hsc3, hbl3⟩ := hrel
          obtain ⟨e0, e1, e2⟩ := hsc3.out
          rw [Int.natCast_add] at e1
          have hkb3 : b < wr.heap.size := World.block_lt_of_cell? _ _ e0
          by_cases g1 : c < 5
          · have g1' : (c : Int) < 5 := by omega
            by_cases g2 : k + c < t.size
            · have g2' : (k : Int) + (c : Int) < (t.size : Int) := by omega
              have g2'' : (k : Int) + (c : Int) + 1 ≤ (t.size : Int) := by omega
              try (exfalso; omega)
              all_goals
                by_cases g3 : t.data.toList[k + c]? = some q
                · have hx2 : ((t.extract (k + c) (k + c + 1)).toList == [q]) = true := is_quote t q (k + c) g3
                  have G3 : Hid (t.data.toList[k + c]? = some q) := g3
                  clear g3
                  go_wp2
                  go_quiet (fail)
                  go_wp2
                  refine ⟨⟨c + 1, by go_num, by omega, by omega, fun p h1 h2 => ?_, (hsc3.out.below (w' := wr.drewN nq) ⟨rfl, rfl, rfl, Nat.le_refl _, fun _ _ => rfl⟩).storeI (by omega), (hbl3.out.trans (c := wr.drewN nq) ⟨rfl, rfl, rfl, Nat.le_refl _, fun _ _ => rfl⟩).setCell (Nat.le_refl _) _⟩, by simp [intOf]; omega⟩
                  by_cases hp : p < k + c
                  · exact hrun.out p h1 hp
                  · have hp2 : p = k + c := by omega
                    rw [hp2]; exact G3.out
                · have hx2 : ((t.extract (k + c) (k + c + 1)).toList == [q]) = false := not_quote t q (k + c) g2 g3
                  have G3 : Hid (¬ t.data.toList[k + c]? = some q) := g3
                  clear g3
                  go_wp2
                  go_quiet (fail)
                  go_wp2
                  refine bodyPost_ret (results_none rfl _ _ _) rfl ?_
                  exact ⟨rfl, k + c, Or.inl ⟨HC.out, k, HF.out, by omega, by omega, hrun.out, fun hlt5 => G3.out⟩, hsc3.out.below ⟨rfl, rfl, rfl, Nat.le_refl _, fun _ _ => rfl⟩, hbl3.out.trans ⟨rfl, rfl, rfl, Nat.le_refl _, fun _ _ => rfl⟩⟩
            · have g2' : decide ((k : Int) + (c : Int) < (t.size : Int)) = false := by simp; omega
              go_wp2
              go_quiet (fail)
              go_wp2
              refine bodyPost_ret (results_none rfl _ _ _) rfl ?_
              exact ⟨rfl, k + c, Or.inl ⟨HC.out, k, HF.out, by omega, by omega, hrun.out, fun hlt5 => fun e => g2 (by have := Pl.lt_of_some e; rwa [hlen] at this)⟩, hsc3.out.below ⟨rfl, rfl, rfl, Nat.le_refl _, fun _ _ => rfl⟩, hbl3.out.trans ⟨rfl, rfl, rfl, Nat.le_refl _, fun _ _ => rfl⟩⟩
          · have g1' : decide ((c : Int) < 5) = false := by simp; omega
            go_wp2
            go_quiet (fail)
            go_wp2
            refine bodyPost_ret (results_none rfl _ _ _) rfl ?_
            exact ⟨rfl, k + c, Or.inl ⟨HC.out, k, HF.out, by omega, by omega, hrun.out, fun hlt5 => absurd hlt5 (by omega)⟩, hsc3.out.below ⟨rfl, rfl, rfl, Nat.le_refl _, fun _ _ => rfl⟩, hbl3.out.trans ⟨rfl, rfl, rfl, Nat.le_refl _, fun _ _ => rfl⟩⟩
end Go.Proofs.Qxb6600556a
