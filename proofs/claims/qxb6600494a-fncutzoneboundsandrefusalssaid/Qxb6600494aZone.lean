import Derived.Test.Qxb6600494aCalls
import Derived.RegionTactic
namespace Go.Proofs.Qxb6600494a
open Go.RowKit

/-- What the loop keeps: the loop's own reckoning, told from here on, is the whole's. -/
def Same (k : Nat) (o : Int) (r : ByteArray) (R : Option (Int × List UInt8)) : Prop := Pl.parts (([60, 1] : List Int).drop k) o r.data.toList = R

theorem same_stop {k : Nat} {o : Int} {r : ByteArray} {R : Option (Int × List UInt8)} (h : Same k o r R) (hr : r.data.toList.head? ≠ some 58) : R = some (o, r.data.toList) := by
  rw [← h, Pl.parts_stop _ _ _ hr]

theorem same_end {o : Int} {r : ByteArray} {R : Option (Int × List UInt8)} (h : Same 2 o r R) : R = some (o, r.data.toList) := by
  rw [← h]; rfl

theorem head_cons {r : ByteArray} (hr : r.data.toList.head? = some 58) : r.data.toList = 58 :: (r.extract 1 r.size).data.toList := by
  rw [extract_list]
  cases h : r.data.toList with
  | nil => rw [h] at hr; cases hr
  | cons a l => rw [h] at hr; cases hr; rfl

theorem same_none {k : Nat} (hk : k < 2) {o : Int} {r : ByteArray} {R : Option (Int × List UInt8)} (h : Same k o r R) (hr : r.data.toList.head? = some 58) (hd : Pl.cutDig (r.extract 1 r.size).data.toList = none) : R = none := by
  unfold Same at h
  rw [← h, head_cons hr]
  generalize (r.extract 1 r.size).data.toList = q at hd ⊢
  have : k = 0 ∨ k = 1 := by omega
  rcases this with rfl | rfl <;> simp [Pl.parts, hd]

theorem same_far {k : Nat} (hk : k < 2) {o : Int} {r : ByteArray} {R : Option (Int × List UInt8)} (h : Same k o r R) (hr : r.data.toList.head? = some 58) {n : Int} (hd : Pl.cutDig (r.extract 1 r.size).data.toList = some n) (hn : ¬ n ≤ 59) : R = none := by
  unfold Same at h
  rw [← h, head_cons hr]
  generalize (r.extract 1 r.size).data.toList = q at hd ⊢
  have : k = 0 ∨ k = 1 := by omega
  rcases this with rfl | rfl <;> simp [Pl.parts, hd, hn]

theorem same_next {k : Nat} {u : Int} (hu : (k = 0 ∧ u = 60) ∨ (k = 1 ∧ u = 1)) {o : Int} {r : ByteArray} {R : Option (Int × List UInt8)} (h : Same k o r R) (hr : r.data.toList.head? = some 58) {n : Int} (hd : Pl.cutDig (r.extract 1 r.size).data.toList = some n) (hn : n ≤ 59) :
    Same (k + 1) (o + n * u) ((r.extract 1 r.size).extract 2 (r.size - 1)) R := by
  rw [show r.size - 1 = (r.extract 1 r.size).size by rw [ByteArray.size_extract]; omega]
  rw [← h]
  unfold Same
  rw [head_cons hr, extract_list (r.extract 1 r.size) 2]
  generalize (r.extract 1 r.size).data.toList = q at hd ⊢
  rcases hu with ⟨rfl, rfl⟩ | ⟨rfl, rfl⟩ <;> simp [Pl.parts, hd, hn]

theorem same_one {o : Int} {r : ByteArray} {R : Option (Int × List UInt8)} (h : Same 1 o r R) (hr : r.data.toList.head? = some 58) {n : Int} (hd : Pl.cutDig (r.extract 1 r.size).data.toList = some n) (hn : n ≤ 59) :
    Same 2 (o + n) ((r.extract 1 r.size).extract 2 (r.size - 1)) R := by
  have := same_next (Or.inr ⟨rfl, rfl⟩) h hr hd hn
  rwa [Int.mul_one] at this

/-- The whole's answer out of the loop's. -/
def ZoneOf (s : ByteArray) (c : UInt8) (R : Option (Int × List UInt8)) : Prop := Pl.zone s.data.toList = R.map (fun p => (if c = 45 then -p.1 else p.1, p.2))

theorem zone_eq {s : ByteArray} {c : UInt8} {t : List UInt8} (h : s.data.toList = c :: t) (hc : c = 43 ∨ c = 45) {v : Int} (hd : Pl.cutDig t = some v) (hv : v ≤ 15) :
    ZoneOf s c (Pl.parts [60, 1] (v * 3600) (t.drop 2)) := by
  unfold ZoneOf
  rw [h]
  simp only [Pl.zone, if_pos hc, hd, if_pos hv]
  cases Pl.parts [60, 1] (v * 3600) (t.drop 2) with
  | none => rfl
  | some p => rfl

theorem part_facts {r : ByteArray} {n : Int} (hd : Pl.cutDig (r.extract 1 r.size).data.toList = some n) : 2 ≤ (r.extract 1 r.size).size ∧ 0 ≤ n ∧ n ≤ 99 := by
  obtain ⟨a, b, t', e, da, db, rfl⟩ := Pl.cutDig_some hd
  have := Pl.dig_val da
  have := Pl.dig_val db
  have hl : (r.extract 1 r.size).data.toList.length = (r.extract 1 r.size).size := by simp
  refine ⟨by rw [← hl, e]; simp, by omega, by omega⟩

theorem zone_fin {s r : ByteArray} {bt : Nat} {w wr : World} {o o' : Int} {R : Option (Int × List UInt8)} {c : UInt8} {x : Value} (HZ : ZoneOf s c R)
    (hR : R = some (o, r.data.toList)) (ho : o' = if c = 45 then -o else o) (hbt : bt < w.heap.size) (hww : Below w.heap.size w wr) (z0 : wr.cell? ⟨bt, 7, none⟩ = some x) :
    ZoneEnd s bt w (.returned (.tuple #[.string r, .bool true])) (wr.setCell ⟨bt, 7, none⟩ (.int .i64 o')) := by
  refine Or.inr ⟨o', r, by unfold ZoneOf at HZ; rw [HZ, hR, ho]; rfl, rfl, World.cell?_setCell_same _ _ _ z0, (hww.mono (Nat.le_of_lt hbt)).setCell (Nat.le_refl _) _⟩

theorem zone_ref {s : ByteArray} {bt : Nat} {w wr : World} {R : Option (Int × List UInt8)} {c : UInt8} (HZ : ZoneOf s c R)
    (hR : R = none) (hww : Below w.heap.size w wr) : ZoneEnd s bt w (.returned (.tuple #[.string s, .bool false])) wr :=
  Or.inl ⟨by unfold ZoneOf at HZ; rw [HZ, hR]; rfl, rfl, hww⟩

set_option maxHeartbeats 2000000 in
theorem zone_loop (s : ByteArray) (bt : Nat) (w : World) (hs : s.size ≤ 2097152) (c : UInt8) (t : List UInt8) (h : s.data.toList = c :: t) (hc : c = 43 ∨ c = 45) (v : Int) (hd : Pl.cutDig t = some v) (hv : v ≤ 15)
    (x : Value) (hcell : w.cell? ⟨bt, 7, none⟩ = some x) (hfz : w.frozen? ⟨bt, 7, none⟩ = false) :
    Calls Try.prog 10 #[.pointer (some ⟨bt, 0, none⟩), .string s] w (ZoneEnd s bt w) := by
  have hv0 : 0 ≤ v := by
    obtain ⟨a, b, t', _, da, db, rfl⟩ := Pl.cutDig_some hd
    have := Pl.dig_val da
    have := Pl.dig_val db
    omega
  have hbt : bt < w.heap.size := World.block_lt_of_cell? _ _ hcell
  obtain ⟨h0, he, hg⟩ := first_of h
  have h3 : 3 ≤ s.size := by
    obtain ⟨a, b, t', e, _⟩ := Pl.cutDig_some hd
    have hl : s.data.toList.length = s.size := by simp
    rw [← hl, h, e]; simp
  have hd' : Hid (Pl.cutDig (s.extract 1 s.size).data.toList = some v) := by show Pl.cutDig (s.extract 1 s.size).data.toList = some v; rw [extract_list, h]; exact hd
  have hsz : (s.extract 1 s.size).size ≤ maxLen := by unfold maxLen; rw [ByteArray.size_extract]; omega
  have hz := zone_eq h hc hd hv
  have hst : Hid (Same 0 (v * 3600) (s.extract 3 s.size) (Pl.parts [60, 1] (v * 3600) (t.drop 2))) := by
    show Same 0 _ _ _
    unfold Same
    rw [extract_list, h]
    rfl
  generalize Pl.parts [60, 1] (v * 3600) (t.drop 2) = R at hz hst
  have HZ : Hid (ZoneOf s c R) := hz
  clear hz h hd
  rcases hc with rfl | rfl
  all_goals
    go_enter Try.func10, Try.ntmps10
    go_wp2_with (go_at_call 12; refine (dig_some _ v hd'.out _ hsz).mono ?_; rintro e wx ⟨rfl, hb⟩)
    go_loopw [8, 9, 47] (fun rv ov iv wl => ∃ (k : Nat) (o : Int) (r : ByteArray), k ≤ 2 ∧ rv = .string r ∧ ov = .int .i64 o ∧ iv = .int .i64 k ∧ 0 ≤ o ∧ o ≤ 54000 + 3600 * k ∧ r.size ≤ 2097152 ∧ Hid (Same k o r R) ∧ Below (wx.heap.size + 1) (wx.alloc (.cells #[.int .i64 60, .int .i64 1] 3)) wl) (fun _ _ iv _ => 2 - (intOf iv).toNat)
    case atStart => exact ⟨0, _, _, by omega, rfl, rfl, rfl, by omega, by omega, by rw [ByteArray.size_extract]; omega, hst, Below.refl _ _⟩
    case round =>
      obtain ⟨k, o, r, hk, rfl, rfl, rfl, ho0, ho1, hr, hsame, hwr⟩ := hrel
      have hwx : Below w.heap.size w (wx.alloc (.cells #[.int .i64 60, .int .i64 1] 3)) := hb.alloc hb.size _
      have hww : Below w.heap.size w wr := hwx.trans (hwr.mono (by have := hb.size; omega))
      have q0 : wr.cell? ⟨wx.heap.size, 0, none⟩ = some (.int .i64 60) := by rw [hwr.cell (by simp)]; simp
      have q1 : wr.cell? ⟨wx.heap.size, 1, none⟩ = some (.int .i64 1) := by rw [hwr.cell (by simp)]; simp
      have z0 : wr.cell? ⟨bt, 7, none⟩ = some x := by rw [hww.cell hbt]; exact hcell
      have z1 : wr.frozen? ⟨bt, 7, none⟩ = false := by rw [hww.frozen hbt]; exact hfz
      have Hww : Hid (Below w.heap.size w wr) := hww
      have Hwr : Hid (Below (wx.heap.size + 1) (wx.alloc (.cells #[.int .i64 60, .int .i64 1] 3)) wr) := hwr
      have Hb : Hid (Below w.heap.size w wx) := hb
      clear hwx hww hwr hst hb
      have hrz : r.size ≤ maxLen := by unfold maxLen; omega
      have hpz : (r.extract 1 r.size).size ≤ maxLen := by unfold maxLen; rw [ByteArray.size_extract]; omega
      have hkk : k = 0 ∨ k = 1 ∨ k = 2 := by omega
      rcases hkk with rfl | rfl | rfl
      case' inr.inr =>
        go_wp2
        go_ret2
        exact zone_fin HZ.out (same_end hsame.out) (by simp) hbt Hww.out z0
      all_goals
        by_cases hc58 : r.data.toList.head? = some 58
        · cases hdd : Pl.cutDig (r.extract 1 r.size).data.toList with
          | none =>
            have H58 : Hid (r.data.toList.head? = some 58) := hc58
            have HDD : Hid (Pl.cutDig (r.extract 1 r.size).data.toList = none) := hdd
            clear hc58 hdd
            go_wp2_with (first | (go_at_call 13; refine (cp_yes _ _ hrz H58.out).mono ?_; rintro e w' ⟨rfl, rfl⟩) | (go_at_call 12; refine (dig_none _ HDD.out _ hpz).mono ?_; rintro e w2 ⟨rfl, hb2⟩))
            go_ret2
            exact zone_ref HZ.out (same_none (by omega) hsame.out H58.out HDD.out) (Hww.out.trans (hb2.mono Hww.out.size))
          | some n =>
            obtain ⟨hp2, hn0, hn1⟩ := part_facts hdd
            have H58 : Hid (r.data.toList.head? = some 58) := hc58
            have HDD : Hid (Pl.cutDig (r.extract 1 r.size).data.toList = some n) := hdd
            clear hc58 hdd
            by_cases hn : n ≤ 59
            · go_wp2_with (first | (go_at_call 13; refine (cp_yes _ _ hrz H58.out).mono ?_; rintro e w' ⟨rfl, rfl⟩) | (go_at_call 12; refine (dig_some _ n HDD.out _ hpz).mono ?_; rintro e w2 ⟨rfl, hb2⟩))
              go_region
              go_wp2
              have hfin := (Hwr.out.trans (hb2.mono (by have := Hwr.out.size; simpa using this))).drew
              first
                | exact ⟨⟨1, _, _, by omega, rfl, rfl, rfl, by omega, by omega, by rw [ByteArray.size_extract]; omega, same_next (Or.inl ⟨rfl, rfl⟩) hsame.out H58.out HDD.out hn, hfin⟩, by simp [intOf]⟩
                | exact ⟨⟨2, _, _, by omega, rfl, rfl, rfl, by omega, by omega, by rw [ByteArray.size_extract]; omega, same_one hsame.out H58.out HDD.out hn, hfin⟩, by simp [intOf]⟩
            · have hn' : 59 < n := by omega
              go_wp2_with (first | (go_at_call 13; refine (cp_yes _ _ hrz H58.out).mono ?_; rintro e w' ⟨rfl, rfl⟩) | (go_at_call 12; refine (dig_some _ n HDD.out _ hpz).mono ?_; rintro e w2 ⟨rfl, hb2⟩))
              go_ret2
              exact zone_ref HZ.out (same_far (by omega) hsame.out H58.out HDD.out (by omega)) (Hww.out.trans (hb2.mono Hww.out.size))
        · have H58 : Hid (¬ r.data.toList.head? = some 58) := hc58
          clear hc58
          go_wp2_with (go_at_call 13; refine (cp_no _ _ hrz H58.out).mono ?_; rintro e w' ⟨rfl, rfl⟩)
          go_ret2
          exact zone_fin HZ.out (same_stop hsame.out H58.out) (by simp) hbt Hww.out z0

end Go.Proofs.Qxb6600494a
