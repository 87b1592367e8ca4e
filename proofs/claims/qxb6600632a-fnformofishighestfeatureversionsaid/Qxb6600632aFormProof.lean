import Derived.Test.Qxb6600632aLaw
import Derived.Lib.ItoaMem
import Derived.Test.Qxb6600632aRows
import Derived.WalkKit
import Derived.ProofKit
import Derived.OpenShut
import Derived.ShutString
import Derived.SliceStrings
import Derived.ChangeOld
import Derived.Below
namespace Go.Proofs.Qxb6600632a.fnFormOfIsHighestFeatureVersion
open Go.ChangeShapes Go.WideShapes Go.ChangeAt Go.RowKit
open Go.ChangeMaps (open_string shut_string)
set_option linter.unusedVariables false

theorem own : ownKnob Try.prog.godebug = none := by kernel_rfl
theorem laidOut : laidOutB Try.prog = true := by kernel_rfl
theorem cells4 : Try.prog.cellsOf 4 = 1 := by kernel_rfl
theorem cells5 : Try.prog.cellsOf 5 = 1 := by kernel_rfl
theorem cells9 : Try.prog.cellsOf 9 = 1 := by kernel_rfl
theorem cells22 : Try.prog.cellsOf 22 = 1 := by kernel_rfl
theorem cells24 : Try.prog.cellsOf 24 = 14 := by kernel_rfl

set_option maxRecDepth 100000 in
/-- The message that came in, its fourteen cells. -/
theorem open_msg {H : Type} {enc : TypeId × Value → H} {w : World} {base : Nat} {spare : Nat → Bool} {held : Bool} {fuel : Nat} {cs : List Value} {x : DataW H × List MemPlace}
    (h : DataW.trod enc Try.prog w base spare held fuel 24 cs = some x) :
    ∃ (ty : Int) (fr to : ByteArray) (x3 x4 x5 x6 x7 x8 x9 : Int) (b10 b11 jo tr : Bool), cs = [.int .u8 ty, .string fr, .string to, .int .u64 x3, .int .u64 x4, .int .u64 x5, .int .u64 x6, .int .u64 x7, .int .u64 x8, .int .u64 x9, .bool b10, .bool b11, .bool jo, .bool tr] ∧ fr.size ≤ maxLen ∧ to.size ≤ maxLen := by
  obtain ⟨xs, n, -, -, hlen, hxs, hf⟩ := DataW.trod_struct Try.underlying24 h
  rw [cells24] at hlen
  have hxs' : xs.length = 14 := hxs
  obtain ⟨c0, c1, c2, c3, c4, c5, c6, c7, c8, c9, c10, c11, c12, c13, rfl⟩ : ∃ c0 c1 c2 c3 c4 c5 c6 c7 c8 c9 c10 c11 c12 c13, cs = [c0, c1, c2, c3, c4, c5, c6, c7, c8, c9, c10, c11, c12, c13] := by
    match cs, hlen with
    | [c0, c1, c2, c3, c4, c5, c6, c7, c8, c9, c10, c11, c12, c13], _ => exact ⟨_, _, _, _, _, _, _, _, _, _, _, _, _, _, rfl⟩
  have e0 : DataW.trod enc Try.prog w base spare held n 5 (List.take (Try.prog.cellsOf 5) (List.drop 0 [c0, c1, c2, c3, c4, c5, c6, c7, c8, c9, c10, c11, c12, c13])) = xs[0]? := hf 0 _ rfl
  rw [cells5] at e0
  have g0 : DataW.trod enc Try.prog w base spare held n 5 [c0] = some (xs[0]'(by omega)) := e0.trans (List.getElem?_eq_getElem (by omega))
  obtain ⟨ty, f0, -, -⟩ := DataW.trod_int Try.underlying5 g0
  have e1 : DataW.trod enc Try.prog w base spare held n 9 (List.take (Try.prog.cellsOf 9) (List.drop 1 [c0, c1, c2, c3, c4, c5, c6, c7, c8, c9, c10, c11, c12, c13])) = xs[1]? := hf 1 _ rfl
  rw [cells9] at e1
  have g1 : DataW.trod enc Try.prog w base spare held n 9 [c1] = some (xs[1]'(by omega)) := e1.trans (List.getElem?_eq_getElem (by omega))
  obtain ⟨fr, f1, -, m1⟩ := DataW.trod_string Try.underlying9 g1
  have e2 : DataW.trod enc Try.prog w base spare held n 9 (List.take (Try.prog.cellsOf 9) (List.drop 2 [c0, c1, c2, c3, c4, c5, c6, c7, c8, c9, c10, c11, c12, c13])) = xs[2]? := hf 2 _ rfl
  rw [cells9] at e2
  have g2 : DataW.trod enc Try.prog w base spare held n 9 [c2] = some (xs[2]'(by omega)) := e2.trans (List.getElem?_eq_getElem (by omega))
  obtain ⟨to, f2, -, m2⟩ := DataW.trod_string Try.underlying9 g2
  have e3 : DataW.trod enc Try.prog w base spare held n 22 (List.take (Try.prog.cellsOf 22) (List.drop 3 [c0, c1, c2, c3, c4, c5, c6, c7, c8, c9, c10, c11, c12, c13])) = xs[3]? := hf 3 _ rfl
  rw [cells22] at e3
  have g3 : DataW.trod enc Try.prog w base spare held n 22 [c3] = some (xs[3]'(by omega)) := e3.trans (List.getElem?_eq_getElem (by omega))
  obtain ⟨x3, f3, -, -⟩ := DataW.trod_int Try.underlying22 g3
  have e4 : DataW.trod enc Try.prog w base spare held n 22 (List.take (Try.prog.cellsOf 22) (List.drop 4 [c0, c1, c2, c3, c4, c5, c6, c7, c8, c9, c10, c11, c12, c13])) = xs[4]? := hf 4 _ rfl
  rw [cells22] at e4
  have g4 : DataW.trod enc Try.prog w base spare held n 22 [c4] = some (xs[4]'(by omega)) := e4.trans (List.getElem?_eq_getElem (by omega))
  obtain ⟨x4, f4, -, -⟩ := DataW.trod_int Try.underlying22 g4
  have e5 : DataW.trod enc Try.prog w base spare held n 22 (List.take (Try.prog.cellsOf 22) (List.drop 5 [c0, c1, c2, c3, c4, c5, c6, c7, c8, c9, c10, c11, c12, c13])) = xs[5]? := hf 5 _ rfl
  rw [cells22] at e5
  have g5 : DataW.trod enc Try.prog w base spare held n 22 [c5] = some (xs[5]'(by omega)) := e5.trans (List.getElem?_eq_getElem (by omega))
  obtain ⟨x5, f5, -, -⟩ := DataW.trod_int Try.underlying22 g5
  have e6 : DataW.trod enc Try.prog w base spare held n 22 (List.take (Try.prog.cellsOf 22) (List.drop 6 [c0, c1, c2, c3, c4, c5, c6, c7, c8, c9, c10, c11, c12, c13])) = xs[6]? := hf 6 _ rfl
  rw [cells22] at e6
  have g6 : DataW.trod enc Try.prog w base spare held n 22 [c6] = some (xs[6]'(by omega)) := e6.trans (List.getElem?_eq_getElem (by omega))
  obtain ⟨x6, f6, -, -⟩ := DataW.trod_int Try.underlying22 g6
  have e7 : DataW.trod enc Try.prog w base spare held n 22 (List.take (Try.prog.cellsOf 22) (List.drop 7 [c0, c1, c2, c3, c4, c5, c6, c7, c8, c9, c10, c11, c12, c13])) = xs[7]? := hf 7 _ rfl
  rw [cells22] at e7
  have g7 : DataW.trod enc Try.prog w base spare held n 22 [c7] = some (xs[7]'(by omega)) := e7.trans (List.getElem?_eq_getElem (by omega))
  obtain ⟨x7, f7, -, -⟩ := DataW.trod_int Try.underlying22 g7
  have e8 : DataW.trod enc Try.prog w base spare held n 22 (List.take (Try.prog.cellsOf 22) (List.drop 8 [c0, c1, c2, c3, c4, c5, c6, c7, c8, c9, c10, c11, c12, c13])) = xs[8]? := hf 8 _ rfl
  rw [cells22] at e8
  have g8 : DataW.trod enc Try.prog w base spare held n 22 [c8] = some (xs[8]'(by omega)) := e8.trans (List.getElem?_eq_getElem (by omega))
  obtain ⟨x8, f8, -, -⟩ := DataW.trod_int Try.underlying22 g8
  have e9 : DataW.trod enc Try.prog w base spare held n 22 (List.take (Try.prog.cellsOf 22) (List.drop 9 [c0, c1, c2, c3, c4, c5, c6, c7, c8, c9, c10, c11, c12, c13])) = xs[9]? := hf 9 _ rfl
  rw [cells22] at e9
  have g9 : DataW.trod enc Try.prog w base spare held n 22 [c9] = some (xs[9]'(by omega)) := e9.trans (List.getElem?_eq_getElem (by omega))
  obtain ⟨x9, f9, -, -⟩ := DataW.trod_int Try.underlying22 g9
  have e10 : DataW.trod enc Try.prog w base spare held n 4 (List.take (Try.prog.cellsOf 4) (List.drop 10 [c0, c1, c2, c3, c4, c5, c6, c7, c8, c9, c10, c11, c12, c13])) = xs[10]? := hf 10 _ rfl
  rw [cells4] at e10
  have g10 : DataW.trod enc Try.prog w base spare held n 4 [c10] = some (xs[10]'(by omega)) := e10.trans (List.getElem?_eq_getElem (by omega))
  obtain ⟨b10, f10, -⟩ := DataW.trod_bool Try.underlying4 g10
  have e11 : DataW.trod enc Try.prog w base spare held n 4 (List.take (Try.prog.cellsOf 4) (List.drop 11 [c0, c1, c2, c3, c4, c5, c6, c7, c8, c9, c10, c11, c12, c13])) = xs[11]? := hf 11 _ rfl
  rw [cells4] at e11
  have g11 : DataW.trod enc Try.prog w base spare held n 4 [c11] = some (xs[11]'(by omega)) := e11.trans (List.getElem?_eq_getElem (by omega))
  obtain ⟨b11, f11, -⟩ := DataW.trod_bool Try.underlying4 g11
  have e12 : DataW.trod enc Try.prog w base spare held n 4 (List.take (Try.prog.cellsOf 4) (List.drop 12 [c0, c1, c2, c3, c4, c5, c6, c7, c8, c9, c10, c11, c12, c13])) = xs[12]? := hf 12 _ rfl
  rw [cells4] at e12
  have g12 : DataW.trod enc Try.prog w base spare held n 4 [c12] = some (xs[12]'(by omega)) := e12.trans (List.getElem?_eq_getElem (by omega))
  obtain ⟨jo, f12, -⟩ := DataW.trod_bool Try.underlying4 g12
  have e13 : DataW.trod enc Try.prog w base spare held n 4 (List.take (Try.prog.cellsOf 4) (List.drop 13 [c0, c1, c2, c3, c4, c5, c6, c7, c8, c9, c10, c11, c12, c13])) = xs[13]? := hf 13 _ rfl
  rw [cells4] at e13
  have g13 : DataW.trod enc Try.prog w base spare held n 4 [c13] = some (xs[13]'(by omega)) := e13.trans (List.getElem?_eq_getElem (by omega))
  obtain ⟨tr, f13, -⟩ := DataW.trod_bool Try.underlying4 g13
  clear e0 g0 e1 g1 e2 g2 e3 g3 e4 g4 e5 g5 e6 g6 e7 g7 e8 g8 e9 g9 e10 g10 e11 g11 e12 g12 e13 g13 hf h
  simp only [List.cons.injEq, and_true] at f0 f1 f2 f3 f4 f5 f6 f7 f8 f9 f10 f11 f12 f13
  subst f0 f1 f2 f3 f4 f5 f6 f7 f8 f9 f10 f11 f12 f13
  exact ⟨_, _, _, _, _, _, _, _, _, _, _, _, _, _, rfl, m1, m2⟩

/-- A slice that came in: its cells. -/
theorem in_of {vals : Nat → Value} {w : World} {a : Addr} {len n : Nat} (hl : len ≤ n) (hc : ∀ i, i < n → w.cell? (a.add i) = some (vals i)) : In vals w (some a) len := fun h0 => by
  have h1 := hc 0 (by omega)
  have hs : a.spot = none := by simpa [Addr.add] using World.cell?_spot h1
  obtain ⟨b, off, sp⟩ := a
  simp only at hs
  subst hs
  refine ⟨b, off, rfl, fun j hj => ?_⟩
  have := hc j (by omega)
  rw [Lib.add_plain] at this
  exact this

theorem in_none {vals : Nat → Value} {w : World} : In vals w none 0 := fun h => absurd h (by omega)

set_option maxRecDepth 100000 in
theorem lifted (os : Os) (started : os.Started) (H : Type) (enc : TypeId × Value → H) :
    ReturnsInHanded {} Try.checked os 3 .any (Rows.fnFormOfIsHighestFeatureVersionSpec.pre6 enc Try.prog Try.f3 Rows.fnFormOfIsHighestFeatureVersionRow.domain false) (Rows.fnFormOfIsHighestFeatureVersionSpec.post enc Try.prog Try.f3 false true false false) := by
  refine returnsInHanded_of_change (C := Try.checked) own started (by kernel_rfl) Try.func3
    (ChangeSpec.witness6 (enc := enc) (C := Try.checked) false ⟨#[], #[.agg #[.int .u8 0, .string ByteArray.empty, .string ByteArray.empty, .int .u64 0, .int .u64 0, .int .u64 0, .int .u64 0, .int .u64 0, .int .u64 0, .int .u64 0, .bool false, .bool false, .bool false, .bool false], .slice none 0 0, .slice none 0 0, .slice none 0 0, .slice none 0 0], []⟩ 8 (by kernel_rfl) (by kernel_rfl) (by kernel_rfl) (by kernel_rfl)) ?_
  intro W base args ds gs before hval0 hW hcnd _
  have hval : ∀ (j : Nat) t v, Try.f3.params[j]? = some t → args[j]? = some v → Value.okWide Try.prog W .any base t v := hval0
  have hW' := hW
  obtain ⟨p, q, hA0, hV, rfl, hfz, hnd⟩ := hW
  have hA : DataW.TrodAll enc Try.prog W 0 (fun _ => true) true Try.f3.params.toList args.toList ds p := hA0
  rw [Try.params3] at hA hval
  obtain ⟨v0, vs0, d0, ds0, p0, q0, hargs, rfl, rfl, h0, r0⟩ := trodAll_cons hA
  obtain ⟨v1, vs1, d1, ds1, p1, q1, rfl, rfl, rfl, h1, r1⟩ := trodAll_cons r0
  obtain ⟨v2, vs2, d2, ds2, p2, q2, rfl, rfl, rfl, h2, r2⟩ := trodAll_cons r1
  obtain ⟨v3, vs3, d3, ds3, p3, q3, rfl, rfl, rfl, h3, r3⟩ := trodAll_cons r2
  obtain ⟨v4, vs4, d4, ds4, p4, q4, rfl, rfl, rfl, h4, r4⟩ := trodAll_cons r3
  obtain ⟨rfl, rfl, rfl⟩ := trodAll_nil r4
  obtain rfl : args = #[v0, v1, v2, v3, v4] := by cases args; simp_all
  obtain ⟨rfl, rfl⟩ := trodVars_none hV
  have k0 := h0
  have lt0 : ∀ x ∈ p0, x.block < W.heap.size := by obtain ⟨m, hm⟩ := k0; exact DataW.trod_lt m _ _ _ hm
  obtain ⟨ca, rfl, -⟩ := okWide_struct Try.underlying24 (hval 0 24 v0 rfl rfl)
  obtain ⟨ty, fr, to, x3, x4, x5, x6, x7, x8, x9, b10, b11, jo, tr, hca, m1, m2⟩ : ∃ (ty : Int) (fr to : ByteArray) (x3 x4 x5 x6 x7 x8 x9 : Int) (b10 b11 jo tr : Bool), ca = #[.int .u8 ty, .string fr, .string to, .int .u64 x3, .int .u64 x4, .int .u64 x5, .int .u64 x6, .int .u64 x7, .int .u64 x8, .int .u64 x9, .bool b10, .bool b11, .bool jo, .bool tr] ∧ fr.size ≤ maxLen ∧ to.size ≤ maxLen := by
    obtain ⟨fuel, hf⟩ := h0
    obtain ⟨ty, fr, to, x3, x4, x5, x6, x7, x8, x9, b10, b11, jo, tr, e, m1, m2⟩ := open_msg hf
    refine ⟨ty, fr, to, x3, x4, x5, x6, x7, x8, x9, b10, b11, jo, tr, ?_, m1, m2⟩
    obtain ⟨l⟩ := ca
    simp only [Value.cells] at e
    rw [e]
  subst hca
  obtain ⟨a1, len1, cap1, rfl⟩ := okWide_slice Try.underlying25 (hval 1 25 v1 rfl rfl)
  have k1 := h1
  have lt1 : ∀ x ∈ p1, x.block < W.heap.size := by obtain ⟨m, hm⟩ := k1; exact DataW.trod_lt m _ _ _ hm
  obtain ⟨z1, n1, s1, M1⟩ : ∃ zs : Nat → Int, (a1 = none → len1 = 0 ∧ cap1 = 0) ∧ In (fun j => .int .u64 (zs j)) W a1 len1 ∧ len1 ≤ maxLen := by
    obtain ⟨fuel, hf⟩ := h1
    rcases open_ints Try.underlying25 Try.underlying22 cells22 hf with ⟨hcs, _⟩ | ⟨x, l, c, zs, hcs, _, hl, hm, hz, _, hcell, hwz⟩
    · simp [Value.cells] at hcs
      obtain ⟨rfl, rfl, rfl⟩ := hcs
      exact ⟨fun _ => 0, fun _ => ⟨rfl, rfl⟩, in_none, by unfold maxLen; omega⟩
    · simp [Value.cells] at hcs
      obtain ⟨rfl, rfl, rfl⟩ := hcs
      have hz' : zs.length = cap1 := by simpa using hz
      exact ⟨fun j => zs.getD j 0, fun e => (by cases e), in_of (by omega) hcell, by omega⟩
  obtain ⟨a2, len2, cap2, rfl⟩ := okWide_slice Try.underlying25 (hval 2 25 v2 rfl rfl)
  have k2 := h2
  have lt2 : ∀ x ∈ p2, x.block < W.heap.size := by obtain ⟨m, hm⟩ := k2; exact DataW.trod_lt m _ _ _ hm
  obtain ⟨z2, n2, s2, M2⟩ : ∃ zs : Nat → Int, (a2 = none → len2 = 0 ∧ cap2 = 0) ∧ In (fun j => .int .u64 (zs j)) W a2 len2 ∧ len2 ≤ maxLen := by
    obtain ⟨fuel, hf⟩ := h2
    rcases open_ints Try.underlying25 Try.underlying22 cells22 hf with ⟨hcs, _⟩ | ⟨x, l, c, zs, hcs, _, hl, hm, hz, _, hcell, hwz⟩
    · simp [Value.cells] at hcs
      obtain ⟨rfl, rfl, rfl⟩ := hcs
      exact ⟨fun _ => 0, fun _ => ⟨rfl, rfl⟩, in_none, by unfold maxLen; omega⟩
    · simp [Value.cells] at hcs
      obtain ⟨rfl, rfl, rfl⟩ := hcs
      have hz' : zs.length = cap2 := by simpa using hz
      exact ⟨fun j => zs.getD j 0, fun e => (by cases e), in_of (by omega) hcell, by omega⟩
  obtain ⟨a3, len3, cap3, rfl⟩ := okWide_slice Try.underlying26 (hval 3 26 v3 rfl rfl)
  have k3 := h3
  have lt3 : ∀ x ∈ p3, x.block < W.heap.size := by obtain ⟨m, hm⟩ := k3; exact DataW.trod_lt m _ _ _ hm
  obtain ⟨z3, n3, s3, M3⟩ : ∃ zs : Nat → Int, (a3 = none → len3 = 0 ∧ cap3 = 0) ∧ In (fun j => .int .u8 (zs j)) W a3 len3 ∧ len3 ≤ maxLen := by
    obtain ⟨fuel, hf⟩ := h3
    rcases open_ints Try.underlying26 Try.underlying5 cells5 hf with ⟨hcs, _⟩ | ⟨x, l, c, zs, hcs, _, hl, hm, hz, _, hcell, hwz⟩
    · simp [Value.cells] at hcs
      obtain ⟨rfl, rfl, rfl⟩ := hcs
      exact ⟨fun _ => 0, fun _ => ⟨rfl, rfl⟩, in_none, by unfold maxLen; omega⟩
    · simp [Value.cells] at hcs
      obtain ⟨rfl, rfl, rfl⟩ := hcs
      have hz' : zs.length = cap3 := by simpa using hz
      exact ⟨fun j => zs.getD j 0, fun e => (by cases e), in_of (by omega) hcell, by omega⟩
  obtain ⟨a4, len4, cap4, rfl⟩ := okWide_slice Try.underlying27 (hval 4 27 v4 rfl rfl)
  have k4 := h4
  have lt4 : ∀ x ∈ p4, x.block < W.heap.size := by obtain ⟨m, hm⟩ := k4; exact DataW.trod_lt m _ _ _ hm
  obtain ⟨z4, n4, s4, M4, Z4⟩ : ∃ zs : Nat → ByteArray, (a4 = none → len4 = 0 ∧ cap4 = 0) ∧ In (fun j => .string (zs j)) W a4 len4 ∧ len4 ≤ maxLen ∧ ∀ j, j < len4 → (zs j).size ≤ maxLen := by
    obtain ⟨fuel, hf⟩ := h4
    rcases open_strings Try.underlying27 Try.underlying9 cells9 hf with ⟨hcs, _⟩ | ⟨x, l, c, zs, hcs, _, hl, hm, hz, _, hcell, hwz⟩
    · simp [Value.cells] at hcs
      obtain ⟨rfl, rfl, rfl⟩ := hcs
      exact ⟨fun _ => ByteArray.empty, fun _ => ⟨rfl, rfl⟩, in_none, by unfold maxLen; omega, fun j hj => absurd hj (by omega)⟩
    · simp [Value.cells] at hcs
      obtain ⟨rfl, rfl, rfl⟩ := hcs
      have hz' : zs.length = cap4 := by simpa using hz
      refine ⟨fun j => zs.getD j ByteArray.empty, fun e => (by cases e), in_of (by omega) hcell, by omega, fun j hj => ?_⟩
      have hj' : j < zs.length := by omega
      show (zs.getD j ByteArray.empty).size ≤ maxLen
      rw [List.getD_eq_getElem?_getD, List.getElem?_eq_getElem hj', Option.getD_some]
      exact hwz _ (List.getElem_mem hj')
  clear hA0 hval0
  have walk : Calls Try.prog 3 #[.agg #[.int .u8 ty, .string fr, .string to, .int .u64 x3, .int .u64 x4, .int .u64 x5, .int .u64 x6, .int .u64 x7, .int .u64 x8, .int .u64 x9, .bool b10, .bool b11, .bool jo, .bool tr], .slice a1 len1 cap1, .slice a2 len2 cap2, .slice a3 len3 cap3, .slice a4 len4 cap4] W fun e w' => e = .returned (.bool true) ∧ Below W.heap.size W w' := by
    by_cases hbig : 1048576 < fr.size + to.size + len1 + len2 + len3 + len4
    · exact law_no ty jo tr _ _ _ _ _ _ _ _ _ fr to a1 a2 a3 a4 cap1 cap2 cap3 cap4 len1 len2 len3 len4 W m1 m2 M1 M2 M3 M4 hbig
    · by_cases hin : len1 ≤ 16384 ∧ len2 ≤ 16384 ∧ len3 ≤ 16384 ∧ len4 ≤ 16384 ∧ fr.size + to.size + 8 * len1 + 8 * len2 + len3 + 16 * len4 ≤ 1048576
      · exact law_in ty jo tr x3 x4 x5 x6 x7 x8 x9 b10 b11 fr to a1 a2 a3 a4 cap1 cap2 cap3 cap4 len1 len2 len3 len4 z1 z2 z3 z4 W (s1.sl n1) (s2.sl n2) (s3.sl n3) (s4.sl n4) s4 Z4 (by omega) hin.1 hin.2.1 hin.2.2.1 hin.2.2.2.1 hin.2.2.2.2
      · exact law_out ty jo tr _ _ _ _ _ _ _ _ _ fr to a1 a2 a3 a4 cap1 cap2 cap3 cap4 len1 len2 len3 len4 z4 W s4 Z4 (by omega) hin
  refine walk.mono fun e W' ⟨he, bel⟩ => ?_
  subst he
  exact ⟨_, rfl, _, _, _, [], _, [], hW', trodAll_mk1 (shut_bool Try.underlying4 _), (trodAll_cons_mk (Below.trod laidOut (by kernel_rfl) (of_decide_eq_true (by kernel_rfl)) k0 bel lt0) (trodAll_cons_mk (Below.trod laidOut (by kernel_rfl) (of_decide_eq_true (by kernel_rfl)) k1 bel lt1) (trodAll_cons_mk (Below.trod laidOut (by kernel_rfl) (of_decide_eq_true (by kernel_rfl)) k2 bel lt2) (trodAll_cons_mk (Below.trod laidOut (by kernel_rfl) (of_decide_eq_true (by kernel_rfl)) k3 bel lt3) (trodAll_cons_mk (Below.trod laidOut (by kernel_rfl) (of_decide_eq_true (by kernel_rfl)) k4 bel lt4) trodAll_mk0))))), rfl, bel.frame _, fun h => by cases h⟩

theorem over : Rows.fnFormOfIsHighestFeatureVersionRow.holds Try.pinned (OpenSpec.ofChange Rows.fnFormOfIsHighestFeatureVersionSpec) :=
  OpenClaim.holds_of_wide 3 Try.f3 rfl rfl rfl rfl rfl rfl rfl ⟨rfl, rfl, rfl, rfl, rfl⟩ rfl rfl rfl rfl rfl (by kernel_rfl) Try.func3 (by kernel_rfl)
    (of_decide_eq_true (by kernel_rfl)) (by unfold Func.isWrapper; first | (rw [if_pos (by decide +kernel)]; kernel_rfl) | (rw [if_neg (by decide +kernel)]; exact ⟨rfl, rfl⟩))
    (fun os started H enc _ => lifted os started H enc)

/-- ████ THE STATEMENT ████ -/
theorem proved : Rows.FnFormOfIsHighestFeatureVersionSaid := over
end Go.Proofs.Qxb6600632a.fnFormOfIsHighestFeatureVersion
