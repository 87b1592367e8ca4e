import Derived.Test.Qxb6600632aOut
import Derived.Lib.LazyBuf
namespace Go.Proofs.Qxb6600632a
open Go.RowKit Go.Lib Go.Sort
set_option linter.unusedVariables false

/-- What the struct literal's region holds: the box, and all that was there. -/
abbrev Kp (b : Nat) (w5 w' : World) : Prop := (∀ i, w'.cell? ⟨b, i, none⟩ = w5.cell? ⟨b, i, none⟩) ∧ Hid (Below w5.heap.size w5 w')
theorem kpB {b : Nat} {w5 w' : World} (hb : b < w5.heap.size) (h : Below w5.heap.size w5 w') : Kp b w5 w' := ⟨fun i => h.cell hb, h⟩
theorem kp0 {b : Nat} {w5 : World} (hb : b < w5.heap.size) : Kp b w5 w5.drew := kpB hb (Below.refl _ w5).drew
theorem kpD {b : Nat} {w5 : World} {o : Obj} (hb : b < w5.heap.size) : Kp b w5 (w5.alloc o).drew := kpB hb ((Below.refl _ w5).alloc (Nat.le_refl _) o).drew
theorem kpA {b : Nat} {w5 w' : World} {o : Obj} (hb : b < w5.heap.size) (h : Kp b w5 w') : Kp b w5 (w'.alloc o) := kpB hb (h.2.out.alloc h.2.out.size o)
theorem kpC {b : Nat} {w5 w' w6 : World} (hb : b < w5.heap.size) (h : Kp b w5 w') (h6 : Hid (Below w'.heap.size w' w6)) : Kp b w5 w6 := kpB hb (h.2.out.trans (h6.out.mono h.2.out.size))
theorem kpS {b : Nat} {w5 w' w6 : World} (hb : b < w5.heap.size) (h : Kp b w5 w') (h6 : Below w5.heap.size w' w6) : Kp b w5 w6 := kpB hb (h.2.out.trans h6)
theorem kpT {b : Nat} {w5 w' w6 : World} (h : Kp b w5 w') (h6 : Below w'.heap.size w' w6) : Hid (Below w5.heap.size w5 w6) := h.2.out.trans (h6.mono h.2.out.size)
theorem below_set {B : Nat} {a w : World} (h : Below B a w) (i : Nat) (v : Value) : Below B a (w.setCell ⟨B, i, none⟩ v) := h.setCell (Nat.le_refl _) v
theorem row36 {w5 w6 : World} {c : Array Value} (hc : c.size = 15) (h6 : w6.heap[w5.heap.size]? = (w5.alloc (.cells c 36)).drew.heap[w5.heap.size]?) : ∃ f0, w6.rowIs w5.heap.size 36 15 f0 :=
  ⟨_, (World.rowIs_alloc w5 c 36 (fun i => c[i]?.getD default) (fun i hi => by rw [Array.getElem?_eq_getElem hi]; rfl)).of_block h6 |> fun h => hc ▸ h⟩

theorem box_sets {w6 : World} {b : Nat} {cs : List Value} {f0 : Nat → Value} (h : w6.rowIs b 36 15 f0) (hl : cs.length = 15) : BoxIs b cs (w6.setCells b 0 cs) := fun j v e => by
  have hj : j < cs.length := (List.getElem?_eq_some_iff.1 e).1
  have h2 := (rowIs_setCells cs 0 w6 f0 h).cell (i := j) (by omega)
  rw [h2, if_pos (by omega), Nat.sub_zero, e]
  rfl

theorem ent_sets {zy : Nat → Int} {n : Nat} {w6 : World} {v : Value} {b : Nat} {f0 : Nat → Value} (h : EntIs zy n w6 v) (h36 : w6.rowIs b 36 15 f0) (cs : List Value) : EntIs zy n (w6.setCells b 0 cs) v := by
  obtain ⟨oe, ce, rfl, h⟩ := h
  refine ⟨oe, ce, rfl, fun hn => ?_⟩
  obtain ⟨g, f, e, hr, ht⟩ := h hn
  refine ⟨g, f, e, rowIs_setCells_other (fun hg => ?_) cs 0 w6 hr, ht⟩
  subst hg
  obtain ⟨c1, e1, -⟩ := hr
  obtain ⟨c2, e2, -⟩ := h36
  rw [e1] at e2
  simp at e2

theorem lt_al (w : World) (o : Obj) : w.heap.size < (w.alloc o).heap.size := by simp
theorem Hid.mk' {p : Prop} (h : p) : Hid p := h

set_option maxRecDepth 100000 in
set_option maxHeartbeats 4000000 in
theorem law_in (ty : Int) (joining transfer : Bool) (x3 x4 x5 x6 x7 x8 x9 : Int) (b10 b11 : Bool) (fr to : ByteArray) (oi ot oy od : Option Addr) (ci ct cy cd ni nt n nd : Nat) (zi zt zy : Nat → Int) (zd : Nat → ByteArray) (w : World)
    (hi : SlIs (fun j => .int .u64 (zi j)) w (.slice oi ni ci) ni) (ht : SlIs (fun j => .int .u64 (zt j)) w (.slice ot nt ct) nt) (hy : SlIs (fun j => .int .u8 (zy j)) w (.slice oy n cy) n) (hds : SlIs (fun j => .string (zd j)) w (.slice od nd cd) nd)
    (hd : In (fun j => .string (zd j)) w od nd) (hz : ∀ j, j < nd → (zd j).size ≤ maxLen) (hsm : fr.size + to.size + ni + nt + n + nd ≤ 1048576)
    (b1 : ni ≤ 16384) (b2 : nt ≤ 16384) (b3 : n ≤ 16384) (b4 : nd ≤ 16384) (b5 : fr.size + to.size + 8 * ni + 8 * nt + n + 16 * nd ≤ 1048576) :
    Calls Try.prog 3 #[.agg #[.int .u8 ty, .string fr, .string to, .int .u64 x3, .int .u64 x4, .int .u64 x5, .int .u64 x6, .int .u64 x7, .int .u64 x8, .int .u64 x9, .bool b10, .bool b11, .bool joining, .bool transfer], .slice oi ni ci, .slice ot nt ct, .slice oy n cy, .slice od nd cd] w fun e w' => e = .returned (.bool true) ∧ Below w.heap.size w w' := by
  have HD : Hid (In (fun j => .string (zd j)) w od nd) := hd
  have HZ : Hid (∀ j, j < nd → (zd j).size ≤ maxLen) := hz
  have HI : Hid (SlIs (fun j => .int .u64 (zi j)) w (.slice oi ni ci) ni) := hi
  have HT : Hid (SlIs (fun j => .int .u64 (zt j)) w (.slice ot nt ct) nt) := ht
  have HY : Hid (SlIs (fun j => .int .u8 (zy j)) w (.slice oy n cy) n) := hy
  have HDS : Hid (SlIs (fun j => .string (zd j)) w (.slice od nd cd) nd) := hds
  have d1 : (ni : Int) ≤ 16384 := by omega
  have d2 : (nt : Int) ≤ 16384 := by omega
  have d3 : (n : Int) ≤ 16384 := by omega
  have d4 : (nd : Int) ≤ 16384 := by omega
  have d5 : (fr.size : Int) + to.size + 8 * ni + 8 * nt + n + 16 * nd ≤ 1048576 := by omega
  clear hd hz hi ht hy hds
  go_enter Try.func3, Try.ntmps3
  go_wp2_with fail
  refine (zz_any _ (.int .u64 x3) (.int .u64 x4) (.int .u64 x5) (.int .u64 x6) (.int .u64 x7) (.int .u64 x8) (.int .u64 x9) (.bool b10) (.bool b11) _ _ fr to oi ot oy od ci ct cy cd ni nt n nd zd _ (fun h0 => ?_) HZ.out hsm).mono ?_
  · obtain ⟨b, off, e, hc⟩ := HD.out h0
    exact ⟨b, off, e, fun j hj => cell_al (hc j hj) _⟩
  rintro e w1 ⟨⟨bb, rfl⟩, hb⟩
  have HB : Hid (Below w.heap.size w w1) := ((Below.refl _ w).alloc (Nat.le_refl _) _).trans (hb.mono (by simp))
  have hbox : BoxIs w.heap.size [.int .u8 ty, .string fr, .string to, .int .u64 x3, .int .u64 x4, .int .u64 x5, .int .u64 x6, .int .u64 x7, .int .u64 x8, .int .u64 x9, .bool b10, .bool b11, .bool joining, .bool transfer] w1 := (BoxIs.alloc w _ 24).below hb
  have HBOX : Hid (BoxIs w.heap.size [.int .u8 ty, .string fr, .string to, .int .u64 x3, .int .u64 x4, .int .u64 x5, .int .u64 x6, .int .u64 x7, .int .u64 x8, .int .u64 x9, .bool b10, .bool b11, .bool joining, .bool transfer] w1) := hbox
  have q1 : w1.cell? ⟨w.heap.size, 1, none⟩ = some (.string fr) := hbox 1 _ rfl
  have q2 : w1.cell? ⟨w.heap.size, 2, none⟩ = some (.string to) := hbox 2 _ rfl
  clear hb hbox
  cases bb
  · go_wp2
    go_ret
    exact ⟨rfl, HB.out⟩
  · go_wp2
    clear q1 q2
    go_loop [11, 12] (fun sv iv => ∃ (k : Nat) (s : Int), iv = .int .i64 (k : Int) ∧ k ≤ nd ∧ sv = .int .i64 s ∧ 0 ≤ s ∧ s ≤ 1048576 ∧ Hid (∀ j, j < k → (zd j).size ≤ 1048576)) (fun _ iv => nd - (intOf iv).toNat)
    case atStart => exact ⟨0, _, rfl, by omega, rfl, by omega, by omega, fun j hj => absurd hj (by omega)⟩
    case round =>
      obtain ⟨k, s, rfl, hk, rfl, hs0, hs1, hzs⟩ := hrel
      by_cases hlt : k < nd
      · have hlt2 : (k : Int) < (nd : Int) := by omega
        obtain ⟨b, off, rfl, hcell⟩ := HD.out (by omega)
        have e0 := hcell k hlt
        have e1 : w1.cell? ⟨b, off + k, none⟩ = some (.string (zd k)) := by rw [HB.out.cell (World.block_lt_of_cell? _ _ e0)]; exact e0
        have hz := HZ.out k hlt
        unfold maxLen at hz
        clear hcell HD HZ e0 HI HT HY HDS HBOX
        by_cases g1 : (zd k).size ≤ 1048576
        · have g1' : ((zd k).size : Int) ≤ 1048576 := by omega
          by_cases g2 : s + ((zd k).size : Int) ≤ 1048576
          · have HZN : Hid (∀ j, j < k + 1 → (zd j).size ≤ 1048576) := fun j hj => by
              by_cases e : j < k
              · exact hzs.out j e
              · have e2 : j = k := by omega
                rw [e2]; exact g1
            go_wp2
            exact ⟨⟨k + 1, _, by go_num, by omega, rfl, by omega, by omega, HZN.out⟩, by simp [intOf]; omega⟩
          · have g2' : 1048576 < s + ((zd k).size : Int) := by omega
            go_wp2
            go_ret
            exact ⟨rfl, HB.out⟩
        · have g1' : 1048576 < ((zd k).size : Int) := by omega
          go_wp2
          go_ret
          exact ⟨rfl, HB.out⟩
      · have hlt2 : (nd : Int) ≤ (k : Int) := by omega
        have HZB : Hid (∀ j, j < nd → (zd j).size ≤ 1048576) := fun j hj => hzs.out j (by omega)
        clear hzs HD HZ
        go_wp2_with fail
        refine (clone6 zi _ ni _ (HI.out.below HB.out) (by omega)).mono ?_
        rintro e w2 ⟨vi, rfl, hsi, hbi⟩
        have HB2 : Hid (Below w.heap.size w w2) := HB.out.trans (hbi.mono HB.out.size)
        have HBOX2 : Hid (BoxIs w.heap.size [.int .u8 ty, .string fr, .string to, .int .u64 x3, .int .u64 x4, .int .u64 x5, .int .u64 x6, .int .u64 x7, .int .u64 x8, .int .u64 x9, .bool b10, .bool b11, .bool joining, .bool transfer] w2) := HBOX.out.below hbi
        have HI2 : Hid (SlIs (fun j => Value.int .u64 (zi j)) w2 vi ni) := hsi
        clear hsi hbi HI HB HBOX
        go_wp2_with fail
        refine (clone6 zt _ nt _ (HT.out.below HB2.out) (by omega)).mono ?_
        rintro e w3 ⟨vt, rfl, hst, hbt⟩
        have HB3 : Hid (Below w.heap.size w w3) := HB2.out.trans (hbt.mono HB2.out.size)
        have HBOX3 : Hid (BoxIs w.heap.size [.int .u8 ty, .string fr, .string to, .int .u64 x3, .int .u64 x4, .int .u64 x5, .int .u64 x6, .int .u64 x7, .int .u64 x8, .int .u64 x9, .bool b10, .bool b11, .bool joining, .bool transfer] w3) := HBOX2.out.below hbt
        have HI3 : Hid (SlIs (fun j => Value.int .u64 (zi j)) w3 vi ni) := HI2.out.below hbt
        have HT3 : Hid (SlIs (fun j => Value.int .u64 (zt j)) w3 vt nt) := hst
        clear hst hbt HT HB2 HBOX2 HI2
        go_wp2_with fail
        refine (clone7 zy _ n _ (HY.out.below HB3.out) (by omega)).mono ?_
        rintro e w4 ⟨vy, rfl, hsy, hby⟩
        have HB4 : Hid (Below w.heap.size w w4) := HB3.out.trans (hby.mono HB3.out.size)
        have HBOX4 : Hid (BoxIs w.heap.size [.int .u8 ty, .string fr, .string to, .int .u64 x3, .int .u64 x4, .int .u64 x5, .int .u64 x6, .int .u64 x7, .int .u64 x8, .int .u64 x9, .bool b10, .bool b11, .bool joining, .bool transfer] w4) := HBOX3.out.below hby
        have HI4 : Hid (SlIs (fun j => Value.int .u64 (zi j)) w4 vi ni) := HI3.out.below hby
        have HT4 : Hid (SlIs (fun j => Value.int .u64 (zt j)) w4 vt nt) := HT3.out.below hby
        have HY4 : Hid (SlIs (fun j => Value.int .u8 (zy j)) w4 vy n) := hsy
        clear hsy hby HY HB3 HBOX3 HI3 HT3
        go_wp2_with fail
        refine (clone8 zd _ nd _ (HDS.out.below HB4.out) (by omega)).mono ?_
        rintro e w5 ⟨vd, rfl, hsd, hbd⟩
        have HB5 : Hid (Below w.heap.size w w5) := HB4.out.trans (hbd.mono HB4.out.size)
        have HBOX5 : Hid (BoxIs w.heap.size [.int .u8 ty, .string fr, .string to, .int .u64 x3, .int .u64 x4, .int .u64 x5, .int .u64 x6, .int .u64 x7, .int .u64 x8, .int .u64 x9, .bool b10, .bool b11, .bool joining, .bool transfer] w5) := HBOX4.out.below hbd
        have HI5 : Hid (SlIs (fun j => Value.int .u64 (zi j)) w5 vi ni) := HI4.out.below hbd
        have HT5 : Hid (SlIs (fun j => Value.int .u64 (zt j)) w5 vt nt) := HT4.out.below hbd
        have HY5 : Hid (SlIs (fun j => Value.int .u8 (zy j)) w5 vy n) := HY4.out.below hbd
        have HD5 : Hid (SlIs (fun j => Value.string (zd j)) w5 vd nd) := hsd
        clear hsd hbd HDS HB4 HBOX4 HI4 HT4 HY4
        go_wp2
        have HBB : Hid (ni ≤ 1048576 ∧ nt ≤ 1048576 ∧ n ≤ 1048576 ∧ nd ≤ 1048576) := ⟨by omega, by omega, by omega, by omega⟩
        clear hsm b1 b2 b3 b4 b5 d1 d2 d3 d4 d5 hk hs0 hs1 hlt hlt2
        have q0 : w5.cell? ⟨w.heap.size, 0, none⟩ = some (.int .u8 ty) := HBOX5.out 0 _ rfl
        have q1 : w5.cell? ⟨w.heap.size, 1, none⟩ = some (.string fr) := HBOX5.out 1 _ rfl
        have q2 : w5.cell? ⟨w.heap.size, 2, none⟩ = some (.string to) := HBOX5.out 2 _ rfl
        have q3 : w5.cell? ⟨w.heap.size, 3, none⟩ = some (.int .u64 x3) := HBOX5.out 3 _ rfl
        have q4 : w5.cell? ⟨w.heap.size, 4, none⟩ = some (.int .u64 x4) := HBOX5.out 4 _ rfl
        have q5 : w5.cell? ⟨w.heap.size, 5, none⟩ = some (.int .u64 x5) := HBOX5.out 5 _ rfl
        have q6 : w5.cell? ⟨w.heap.size, 6, none⟩ = some (.int .u64 x6) := HBOX5.out 6 _ rfl
        have q7 : w5.cell? ⟨w.heap.size, 7, none⟩ = some (.int .u64 x7) := HBOX5.out 7 _ rfl
        have q8 : w5.cell? ⟨w.heap.size, 8, none⟩ = some (.int .u64 x8) := HBOX5.out 8 _ rfl
        have q9 : w5.cell? ⟨w.heap.size, 9, none⟩ = some (.int .u64 x9) := HBOX5.out 9 _ rfl
        have q10 : w5.cell? ⟨w.heap.size, 10, none⟩ = some (.bool b10) := HBOX5.out 10 _ rfl
        have q11 : w5.cell? ⟨w.heap.size, 11, none⟩ = some (.bool b11) := HBOX5.out 11 _ rfl
        have q12 : w5.cell? ⟨w.heap.size, 12, none⟩ = some (.bool joining) := HBOX5.out 12 _ rfl
        have q13 : w5.cell? ⟨w.heap.size, 13, none⟩ = some (.bool transfer) := HBOX5.out 13 _ rfl
        have hlt5 : w.heap.size < w5.heap.size := World.block_lt_of_cell? _ _ q0
        have hl5 : Hid (w.heap.size < w5.heap.size) := hlt5
        clear HBOX5 hlt5
        go_region_held3 (fun w' => (∀ i, w'.cell? ⟨w.heap.size, i, none⟩ = w5.cell? ⟨w.heap.size, i, none⟩) ∧ Hid (Below w5.heap.size w5 w')) (first | with_reducible exact kp0 hl5.out | with_reducible exact kpD hl5.out | with_reducible exact kpB hl5.out HW6.out | with_reducible exact kpA hl5.out (by assumption) | with_reducible exact kpA hl5.out (kpB hl5.out HW6.out) | (with_reducible refine kpS hl5.out (kpB hl5.out HW6.out) ?_; repeat (first | with_reducible exact Below.refl _ _ | with_reducible refine below_set ?_ _ _)))
          (first | (go_at_call 9; refine (entries_any zi zt zy zd vi vt vy vd ni nt n nd _ (HI5.out.below (Hid.out (And.right (by assumption)))) (HT5.out.below (Hid.out (And.right (by assumption)))) (HY5.out.below (Hid.out (And.right (by assumption)))) (HD5.out.below (Hid.out (And.right (by assumption)))) HZB.out HBB.out.1 HBB.out.2.1 HBB.out.2.2.1 HBB.out.2.2.2).mono ?_; rintro e w6 ⟨v, rfl, hent, hb6⟩; obtain ⟨oe, ce, rfl, hx⟩ := hent; have HE6 : Hid (EntIs zy n w6 (.slice oe n ce)) := ⟨oe, ce, rfl, hx⟩; have HW6 : Hid (Below w5.heap.size w5 w6) := kpT (b := w.heap.size) (by assumption) hb6; (try have g1 := fun i => hb6.cell (p := ⟨w5.heap.size, i, none⟩) (lt_al w5 _)); (try have g2 := fun i => hb6.frozen (p := ⟨w5.heap.size, i, none⟩) (lt_al w5 _)); (try have HR36 : Hid (∃ f0, w6.rowIs w5.heap.size 36 15 f0) := row36 rfl (hb6.block w5.heap.size (lt_al w5 _))); clear hx hb6))
        · rename_i hHeld
          have HBX : Hid (BoxIs w6.heap.size [.int .u8 ty, .string fr, .string to, .int .u64 x3, .int .u64 x4, .int .u64 x5, .int .u64 x6, .int .u64 x7, .int .u64 x8, .int .u64 x9, .bool b10, .bool b11, .bool joining, .bool transfer, .slice oe n ce] (w6.alloc (.cells #[.int .u8 ty, .string fr, .string to, .int .u64 x3, .int .u64 x4, .int .u64 x5, .int .u64 x6, .int .u64 x7, .int .u64 x8, .int .u64 x9, .bool b10, .bool b11, .bool joining, .bool transfer, .slice oe n ce] 36))) := BoxIs.alloc w6 _ 36
          have HE7 : Hid (EntIs zy n (w6.alloc (.cells #[.int .u8 ty, .string fr, .string to, .int .u64 x3, .int .u64 x4, .int .u64 x5, .int .u64 x6, .int .u64 x7, .int .u64 x8, .int .u64 x9, .bool b10, .bool b11, .bool joining, .bool transfer, .slice oe n ce] 36)) (.slice oe n ce)) := HE6.out.below ((Below.refl _ w6).alloc (Nat.le_refl _) _)
          have HY7 : Hid (SlIs (fun j => Value.int .u8 (zy j)) (w6.alloc (.cells #[.int .u8 ty, .string fr, .string to, .int .u64 x3, .int .u64 x4, .int .u64 x5, .int .u64 x6, .int .u64 x7, .int .u64 x8, .int .u64 x9, .bool b10, .bool b11, .bool joining, .bool transfer, .slice oe n ce] 36)) vy n) := HY5.out.below hHeld.2.out
          have HP : Hid (∀ i, (w6.alloc (.cells #[.int .u8 ty, .string fr, .string to, .int .u64 x3, .int .u64 x4, .int .u64 x5, .int .u64 x6, .int .u64 x7, .int .u64 x8, .int .u64 x9, .bool b10, .bool b11, .bool joining, .bool transfer, .slice oe n ce] 36)).cell? ⟨w.heap.size, i, none⟩ = w5.cell? ⟨w.heap.size, i, none⟩) := hHeld.1
          have HW7 : Hid (Below w.heap.size w (w6.alloc (.cells #[.int .u8 ty, .string fr, .string to, .int .u64 x3, .int .u64 x4, .int .u64 x5, .int .u64 x6, .int .u64 x7, .int .u64 x8, .int .u64 x9, .bool b10, .bool b11, .bool joining, .bool transfer, .slice oe n ce] 36))) := HB5.out.trans (hHeld.2.out.mono HB5.out.size)
          clear hHeld HI5 HT5 HY5 HD5 HE6 HB5
          generalize w6.alloc (.cells #[.int .u8 ty, .string fr, .string to, .int .u64 x3, .int .u64 x4, .int .u64 x5, .int .u64 x6, .int .u64 x7, .int .u64 x8, .int .u64 x9, .bool b10, .bool b11, .bool joining, .bool transfer, .slice oe n ce] 36) = W7 at HBX HE7 HY7 HP HW7 ⊢
          have m0 : W7.cell? ⟨w6.heap.size, 0, none⟩ = some (.int .u8 ty) := HBX.out 0 _ rfl
          have m1 : W7.cell? ⟨w6.heap.size, 1, none⟩ = some (.string fr) := HBX.out 1 _ rfl
          have m2 : W7.cell? ⟨w6.heap.size, 2, none⟩ = some (.string to) := HBX.out 2 _ rfl
          have m3 : W7.cell? ⟨w6.heap.size, 3, none⟩ = some (.int .u64 x3) := HBX.out 3 _ rfl
          have m4 : W7.cell? ⟨w6.heap.size, 4, none⟩ = some (.int .u64 x4) := HBX.out 4 _ rfl
          have m5 : W7.cell? ⟨w6.heap.size, 5, none⟩ = some (.int .u64 x5) := HBX.out 5 _ rfl
          have m6 : W7.cell? ⟨w6.heap.size, 6, none⟩ = some (.int .u64 x6) := HBX.out 6 _ rfl
          have m7 : W7.cell? ⟨w6.heap.size, 7, none⟩ = some (.int .u64 x7) := HBX.out 7 _ rfl
          have m8 : W7.cell? ⟨w6.heap.size, 8, none⟩ = some (.int .u64 x8) := HBX.out 8 _ rfl
          have m9 : W7.cell? ⟨w6.heap.size, 9, none⟩ = some (.int .u64 x9) := HBX.out 9 _ rfl
          have m10 : W7.cell? ⟨w6.heap.size, 10, none⟩ = some (.bool b10) := HBX.out 10 _ rfl
          have m11 : W7.cell? ⟨w6.heap.size, 11, none⟩ = some (.bool b11) := HBX.out 11 _ rfl
          have m12 : W7.cell? ⟨w6.heap.size, 12, none⟩ = some (.bool joining) := HBX.out 12 _ rfl
          have m13 : W7.cell? ⟨w6.heap.size, 13, none⟩ = some (.bool transfer) := HBX.out 13 _ rfl
          have m14 : W7.cell? ⟨w6.heap.size, 14, none⟩ = some (.slice oe n ce) := HBX.out 14 _ rfl
          have p0 : W7.cell? ⟨w.heap.size, 0, none⟩ = some (.int .u8 ty) := (HP.out 0).trans q0
          have p12 : W7.cell? ⟨w.heap.size, 12, none⟩ = some (.bool joining) := (HP.out 12).trans q12
          have p13 : W7.cell? ⟨w.heap.size, 13, none⟩ = some (.bool transfer) := (HP.out 13).trans q13
          clear q0 q1 q2 q3 q4 q5 q6 q7 q8 q9 q10 q11 q12 q13
          have mk0 := cell_regrown (w := W7) m0
          have mk1 := cell_regrown (w := W7) m1
          have mk2 := cell_regrown (w := W7) m2
          have mk3 := cell_regrown (w := W7) m3
          have mk4 := cell_regrown (w := W7) m4
          have mk5 := cell_regrown (w := W7) m5
          have mk6 := cell_regrown (w := W7) m6
          have mk7 := cell_regrown (w := W7) m7
          have mk8 := cell_regrown (w := W7) m8
          have mk9 := cell_regrown (w := W7) m9
          have mk10 := cell_regrown (w := W7) m10
          have mk11 := cell_regrown (w := W7) m11
          have mk12 := cell_regrown (w := W7) m12
          have mk13 := cell_regrown (w := W7) m13
          have mk14 := cell_regrown (w := W7) m14
          have pk0 := cell_regrown (w := W7) p0
          have pk12 := cell_regrown (w := W7) p12
          have pk13 := cell_regrown (w := W7) p13
          have cZ := fun d os => Calls.regrown_of (w := W7) (d := d) (os := os) (zz_form ty (.string fr) (.string to) (.int .u64 x3) (.int .u64 x4) (.int .u64 x5) (.int .u64 x6) (.int .u64 x7) (.int .u64 x8) (.int .u64 x9) (.bool b10) (.bool b11) joining transfer zy n (.slice oe n ce) _ (HE7.out.below (below_regrown W7 d os)) HBB.out.2.2.1)
          have cM := fun d os => Calls.regrown_of (w := W7) (d := d) (os := os) ((model ty joining transfer zy n vy _ (HY7.out.below (below_regrown W7 d os)) HBB.out.2.2.1).mono (fun e w' h => ⟨h.1, h.2 ▸ Below.refl _ _⟩))
          clear HE7 HY7 HBX HP m0 m1 m2 m3 m4 m5 m6 m7 m8 m9 m10 m11 m12 m13 m14 p0 p12 p13
          go_wp2
          refine wp_region_quiet_below (by kernel_rfl) (by kernel_rfl) ?_
          repeat (quiet_step (first | exact cZ _ _ | exact cM _ _))
          refine wpQuiet_nil ?_
          intro _ hw'
          obtain ⟨⟨dq, osq⟩, hw''⟩ := hw'
          subst hw''
          have HBF : Hid (Below w.heap.size w (grow (redrawn W7 dq) osq)) := HW7.out.trans ((below_regrown W7 dq osq).mono HW7.out.size)
          generalize grow (redrawn W7 dq) osq = W8 at HBF ⊢
          clear cZ cM mk0 mk1 mk2 mk3 mk4 mk5 mk6 mk7 mk8 mk9 mk10 mk11 mk12 mk13 mk14 pk0 pk12 pk13
          go_wp2
          go_ret
          exact ⟨rfl, HBF.out⟩
        · rename_i hHeld
          obtain ⟨f0, h36⟩ := HR36.out
          have HBX : Hid (BoxIs w5.heap.size [.int .u8 ty, .string fr, .string to, .int .u64 x3, .int .u64 x4, .int .u64 x5, .int .u64 x6, .int .u64 x7, .int .u64 x8, .int .u64 x9, .bool b10, .bool b11, .bool joining, .bool transfer, .slice oe n ce] (w6.setCells w5.heap.size 0 [.int .u8 ty, .string fr, .string to, .int .u64 x3, .int .u64 x4, .int .u64 x5, .int .u64 x6, .int .u64 x7, .int .u64 x8, .int .u64 x9, .bool b10, .bool b11, .bool joining, .bool transfer, .slice oe n ce])) := box_sets h36 rfl
          have HE7 : Hid (EntIs zy n (w6.setCells w5.heap.size 0 [.int .u8 ty, .string fr, .string to, .int .u64 x3, .int .u64 x4, .int .u64 x5, .int .u64 x6, .int .u64 x7, .int .u64 x8, .int .u64 x9, .bool b10, .bool b11, .bool joining, .bool transfer, .slice oe n ce]) (.slice oe n ce)) := ent_sets HE6.out h36 _
          have HK : Kp w.heap.size w5 (w6.setCells w5.heap.size 0 [.int .u8 ty, .string fr, .string to, .int .u64 x3, .int .u64 x4, .int .u64 x5, .int .u64 x6, .int .u64 x7, .int .u64 x8, .int .u64 x9, .bool b10, .bool b11, .bool joining, .bool transfer, .slice oe n ce]) := hHeld
          have HY7 : Hid (SlIs (fun j => Value.int .u8 (zy j)) (w6.setCells w5.heap.size 0 [.int .u8 ty, .string fr, .string to, .int .u64 x3, .int .u64 x4, .int .u64 x5, .int .u64 x6, .int .u64 x7, .int .u64 x8, .int .u64 x9, .bool b10, .bool b11, .bool joining, .bool transfer, .slice oe n ce]) vy n) := HY5.out.below HK.2.out
          have HP : Hid (∀ i, (w6.setCells w5.heap.size 0 [.int .u8 ty, .string fr, .string to, .int .u64 x3, .int .u64 x4, .int .u64 x5, .int .u64 x6, .int .u64 x7, .int .u64 x8, .int .u64 x9, .bool b10, .bool b11, .bool joining, .bool transfer, .slice oe n ce]).cell? ⟨w.heap.size, i, none⟩ = w5.cell? ⟨w.heap.size, i, none⟩) := HK.1
          have HW7 : Hid (Below w.heap.size w (w6.setCells w5.heap.size 0 [.int .u8 ty, .string fr, .string to, .int .u64 x3, .int .u64 x4, .int .u64 x5, .int .u64 x6, .int .u64 x7, .int .u64 x8, .int .u64 x9, .bool b10, .bool b11, .bool joining, .bool transfer, .slice oe n ce])) := HB5.out.trans (HK.2.out.mono HB5.out.size)
          change Exit.then _ _ Exit.normal _ (w6.setCells w5.heap.size 0 [.int .u8 ty, .string fr, .string to, .int .u64 x3, .int .u64 x4, .int .u64 x5, .int .u64 x6, .int .u64 x7, .int .u64 x8, .int .u64 x9, .bool b10, .bool b11, .bool joining, .bool transfer, .slice oe n ce])
          clear hHeld HK HI5 HT5 HY5 HD5 HE6 HB5 HR36 h36 g1 g2
          generalize w6.setCells w5.heap.size 0 [.int .u8 ty, .string fr, .string to, .int .u64 x3, .int .u64 x4, .int .u64 x5, .int .u64 x6, .int .u64 x7, .int .u64 x8, .int .u64 x9, .bool b10, .bool b11, .bool joining, .bool transfer, .slice oe n ce] = W7 at HBX HE7 HY7 HP HW7 ⊢
          have m0 : W7.cell? ⟨w5.heap.size, 0, none⟩ = some (.int .u8 ty) := HBX.out 0 _ rfl
          have m1 : W7.cell? ⟨w5.heap.size, 1, none⟩ = some (.string fr) := HBX.out 1 _ rfl
          have m2 : W7.cell? ⟨w5.heap.size, 2, none⟩ = some (.string to) := HBX.out 2 _ rfl
          have m3 : W7.cell? ⟨w5.heap.size, 3, none⟩ = some (.int .u64 x3) := HBX.out 3 _ rfl
          have m4 : W7.cell? ⟨w5.heap.size, 4, none⟩ = some (.int .u64 x4) := HBX.out 4 _ rfl
          have m5 : W7.cell? ⟨w5.heap.size, 5, none⟩ = some (.int .u64 x5) := HBX.out 5 _ rfl
          have m6 : W7.cell? ⟨w5.heap.size, 6, none⟩ = some (.int .u64 x6) := HBX.out 6 _ rfl
          have m7 : W7.cell? ⟨w5.heap.size, 7, none⟩ = some (.int .u64 x7) := HBX.out 7 _ rfl
          have m8 : W7.cell? ⟨w5.heap.size, 8, none⟩ = some (.int .u64 x8) := HBX.out 8 _ rfl
          have m9 : W7.cell? ⟨w5.heap.size, 9, none⟩ = some (.int .u64 x9) := HBX.out 9 _ rfl
          have m10 : W7.cell? ⟨w5.heap.size, 10, none⟩ = some (.bool b10) := HBX.out 10 _ rfl
          have m11 : W7.cell? ⟨w5.heap.size, 11, none⟩ = some (.bool b11) := HBX.out 11 _ rfl
          have m12 : W7.cell? ⟨w5.heap.size, 12, none⟩ = some (.bool joining) := HBX.out 12 _ rfl
          have m13 : W7.cell? ⟨w5.heap.size, 13, none⟩ = some (.bool transfer) := HBX.out 13 _ rfl
          have m14 : W7.cell? ⟨w5.heap.size, 14, none⟩ = some (.slice oe n ce) := HBX.out 14 _ rfl
          have p0 : W7.cell? ⟨w.heap.size, 0, none⟩ = some (.int .u8 ty) := (HP.out 0).trans q0
          have p12 : W7.cell? ⟨w.heap.size, 12, none⟩ = some (.bool joining) := (HP.out 12).trans q12
          have p13 : W7.cell? ⟨w.heap.size, 13, none⟩ = some (.bool transfer) := (HP.out 13).trans q13
          clear q0 q1 q2 q3 q4 q5 q6 q7 q8 q9 q10 q11 q12 q13
          have mk0 := cell_regrown (w := W7) m0
          have mk1 := cell_regrown (w := W7) m1
          have mk2 := cell_regrown (w := W7) m2
          have mk3 := cell_regrown (w := W7) m3
          have mk4 := cell_regrown (w := W7) m4
          have mk5 := cell_regrown (w := W7) m5
          have mk6 := cell_regrown (w := W7) m6
          have mk7 := cell_regrown (w := W7) m7
          have mk8 := cell_regrown (w := W7) m8
          have mk9 := cell_regrown (w := W7) m9
          have mk10 := cell_regrown (w := W7) m10
          have mk11 := cell_regrown (w := W7) m11
          have mk12 := cell_regrown (w := W7) m12
          have mk13 := cell_regrown (w := W7) m13
          have mk14 := cell_regrown (w := W7) m14
          have pk0 := cell_regrown (w := W7) p0
          have pk12 := cell_regrown (w := W7) p12
          have pk13 := cell_regrown (w := W7) p13
          have cZ := fun d os => Calls.regrown_of (w := W7) (d := d) (os := os) (zz_form ty (.string fr) (.string to) (.int .u64 x3) (.int .u64 x4) (.int .u64 x5) (.int .u64 x6) (.int .u64 x7) (.int .u64 x8) (.int .u64 x9) (.bool b10) (.bool b11) joining transfer zy n (.slice oe n ce) _ (HE7.out.below (below_regrown W7 d os)) HBB.out.2.2.1)
          have cM := fun d os => Calls.regrown_of (w := W7) (d := d) (os := os) ((model ty joining transfer zy n vy _ (HY7.out.below (below_regrown W7 d os)) HBB.out.2.2.1).mono (fun e w' h => ⟨h.1, h.2 ▸ Below.refl _ _⟩))
          clear HE7 HY7 HBX HP m0 m1 m2 m3 m4 m5 m6 m7 m8 m9 m10 m11 m12 m13 m14 p0 p12 p13
          go_wp2
          refine wp_region_quiet_below (by kernel_rfl) (by kernel_rfl) ?_
          repeat (quiet_step (first | exact cZ _ _ | exact cM _ _))
          refine wpQuiet_nil ?_
          intro _ hw'
          obtain ⟨⟨dq, osq⟩, hw''⟩ := hw'
          subst hw''
          have HBF : Hid (Below w.heap.size w (grow (redrawn W7 dq) osq)) := HW7.out.trans ((below_regrown W7 dq osq).mono HW7.out.size)
          generalize grow (redrawn W7 dq) osq = W8 at HBF ⊢
          clear cZ cM mk0 mk1 mk2 mk3 mk4 mk5 mk6 mk7 mk8 mk9 mk10 mk11 mk12 mk13 mk14 pk0 pk12 pk13
          go_wp2
          go_ret
          exact ⟨rfl, HBF.out⟩
end Go.Proofs.Qxb6600632a
