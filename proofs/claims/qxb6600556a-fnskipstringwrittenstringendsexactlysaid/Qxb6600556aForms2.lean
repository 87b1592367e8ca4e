import Derived.Test.Qxb6600556aWrite
import Derived.Test.Qxb6600556aSkip1
import Derived.Test.Qxb6600556aForms
namespace Go.Proofs.Qxb6600556a
open Go.RowKit
set_option linter.unusedVariables false

set_option maxRecDepth 100000 in
set_option maxHeartbeats 1000000 in
theorem wr_2e (P C R : ByteArray) (form : Int) (w : World) (hb : P.size + C.size + R.size ≤ 1048576) (hf : form % 4 = 2) (hR : 0 < R.size) (hR0 : ((R[0].toNat : Int) == 34) = true) :
    Calls Try.prog 4 #[.string P, .string C, .int .i64 form, .string R] w fun e w' => e = .returned (.bool true) ∧ Below w.heap.size w w' := by
  have hb1 : (P.size : Int) + (C.size : Int) + (R.size : Int) ≤ 1048576 := by omega
  have hf' : bits .and .i64 form 3 = 2 := by rw [i64_and3]; exact hf
  clear hf
  go_enter Try.func4, Try.ntmps4
  go_wp2_with (first | (go_at_call 11; go_in))
  all_goals
    go_ret
    exact ⟨rfl, Below.refl _ _⟩

set_option maxRecDepth 100000 in
set_option maxHeartbeats 4000000 in
theorem wr_2a (P C R : ByteArray) (form : Int) (w : World) (hb : P.size + C.size + R.size ≤ 1048576) (hf : form % 4 = 2) (hR : ¬ 0 < R.size) (hlaw : Pl.NoOpen 34 R.data.toList) :
    Calls Try.prog 4 #[.string P, .string C, .int .i64 form, .string R] w fun e w' => e = .returned (.bool true) ∧ Below w.heap.size w w' := by
  have hb1 : (P.size : Int) + (C.size : Int) + (R.size : Int) ≤ 1048576 := by omega
  have hf' : bits .and .i64 form 3 = 2 := by rw [i64_and3]; exact hf
  clear hf
  have HLAW : Hid (Pl.NoOpen 34 R.data.toList) := hlaw
  clear hlaw
  obtain ⟨i0, hi, hz0, hz1, hz2⟩ := info_parts info5
  go_enter Try.func4, Try.ntmps4
  go_wp2_with (first | (go_at_call 11; go_in) | (at_make; refine wpList_make_own _ rfl _ _ 27 rfl w.heap.size 5 i0 (.int .u8 0) 1 Try.underlying27 hi hz0 hz1 .i64 .i64 ((P.size : Int) + 2 * (C.size : Int) + (R.size : Int) + 6) (P.size + 2 * C.size + R.size + 6) rfl rfl (by omega) (by rw [hz2]; omega) (by unfold maxLen; omega) (Nat.le_refl _) ?_; intro wm hown hgrow))
  obtain ⟨cap, hcape⟩ : ∃ cap, cap = P.size + 2 * C.size + R.size + 6 := ⟨_, rfl⟩
  have hcapl : P.size + 2 * C.size + R.size + 6 ≤ cap := by omega
  rw [← hcape] at hown ⊢
  clear hcape
  have HBM : Hid (Below w.heap.size w wm) := (Below.refl _ w).grown hgrow (Nat.le_refl _) (fun k hk => by cases hk)
  have HOM : Hid (OwnB w.heap.size cap [] wm) := OwnB.of_make hown
  clear hown hgrow
  go_loopw [13, 14] (fun bv kv wl => ∃ (k : Nat) (bs : List UInt8), kv = .int .i64 (k : Int) ∧ bv = .slice (some ⟨w.heap.size, 0, none⟩) bs.length cap ∧ k ≤ P.size ∧ Hid (bs = P.data.toList.take k) ∧ Hid (OwnB w.heap.size cap bs wl) ∧ Hid (Below w.heap.size w wl)) (fun _ kv _ => P.size - (intOf kv).toNat)
  case atStart => exact ⟨0, [], rfl, rfl, by omega, rfl, HOM.out, HBM.out⟩
  case round =>
    clear HBM HOM
    obtain ⟨k, bs, rfl, rfl, hk, hbs, hown, hbel⟩ := hrel
    have hle : bs.length ≤ k := by rw [hbs.out]; exact List.length_take_le _ _
    by_cases hk2 : k < P.size
    case pos =>
      have hk3 : (k : Int) < (P.size : Int) := by omega
      have HE : Hid (bs ++ [P[k]] = P.data.toList.take (k + 1)) := by show bs ++ [P[k]] = P.data.toList.take (k + 1); rw [take_snocB P k hk2, hbs.out]
      go_wp2_with (at_builtin; refine wp_app1 wr rfl (.tmp 127) (.tmp 131) rfl w.heap.size cap bs P[k] _ rfl rfl rfl hown.out (by omega) ?_; intro w1 hown1 hbel1)
      exact ⟨⟨k + 1, bs ++ [P[k]], by go_num, by simp, by omega, HE.out, hown1, hbel.out.trans hbel1⟩, by simp [intOf]; omega⟩
    case neg =>
      have hk3 : (P.size : Int) ≤ (k : Int) := by omega
      have HE : Hid (bs = P.data.toList) := by show bs = P.data.toList; rw [hbs.out]; exact List.take_of_length_le (by simp; omega)
      have hl1 : bs.length ≤ P.size := by omega
      clear hbs hle
      go_wp2
      go_loopw [13, 15] (fun bv kv wl => ∃ (k : Nat) (bs : List UInt8), kv = .int .i64 (k : Int) ∧ bv = .slice (some ⟨w.heap.size, 0, none⟩) bs.length cap ∧ k ≤ 3 ∧ Hid (bs = P.data.toList ++ List.replicate k 34) ∧ Hid (OwnB w.heap.size cap bs wl) ∧ Hid (Below w.heap.size w wl)) (fun _ kv _ => 3 - (intOf kv).toNat)
      case atStart => exact ⟨0, bs, rfl, rfl, by omega, by show bs = _; rw [HE.out]; simp, hown.out, hbel.out⟩
      case round =>
        clear HE hl1 hown hbel hk hk2 hk3
        obtain ⟨k, bs, rfl, rfl, hk, hbs, hown, hbel⟩ := hrel
        have hle : bs.length ≤ P.size + k := by rw [hbs.out]; simp
        by_cases hk2 : k < 3
        case pos =>
          have hk3 : (k : Int) < 3 := by omega
          have HE : Hid (bs ++ [34] = P.data.toList ++ List.replicate (k + 1) 34) := by show bs ++ [34] = _; rw [hbs.out, List.replicate_succ', List.append_assoc]
          go_wp2_with (at_builtin; refine wp_app1 wr rfl (.tmp 138) (.tmp 140) rfl w.heap.size cap bs 34 _ rfl rfl rfl hown.out (by omega) ?_; intro w1 hown1 hbel1)
          exact ⟨⟨k + 1, bs ++ [34], by go_num, by simp, by omega, HE.out, hown1, hbel.out.trans hbel1⟩, by simp [intOf]; omega⟩
        case neg =>
          have hk3 : (3 : Int) ≤ (k : Int) := by omega
          have HE : Hid (bs = P.data.toList ++ List.replicate 3 34) := by show bs = _; rw [hbs.out, show k = 3 by omega]
          have hl1 : bs.length ≤ P.size + 3 := by omega
          clear hbs hle
          go_wp2
          go_loopw [13, 16] (fun bv kv wl => ∃ (k : Nat) (bs : List UInt8), kv = .int .i64 (k : Int) ∧ bv = .slice (some ⟨w.heap.size, 0, none⟩) bs.length cap ∧ k ≤ C.size ∧ Hid (bs = P.data.toList ++ List.replicate 3 34 ++ Pl.escL 2 (C.data.toList.take k)) ∧ Hid (OwnB w.heap.size cap bs wl) ∧ Hid (Below w.heap.size w wl)) (fun _ kv _ => C.size - (intOf kv).toNat)
          case atStart => exact ⟨0, bs, rfl, rfl, by omega, by show bs = _; rw [HE.out]; simp [Pl.escL], hown.out, hbel.out⟩
          case round =>
            clear HE hl1 hown hbel hk hk2 hk3
            obtain ⟨k, bs, rfl, rfl, hk, hbs, hown, hbel⟩ := hrel
            have hle : bs.length ≤ P.size + 3 + 2 * k := by
              have h1 := Pl.escL_length 2 (C.data.toList.take k)
              have h2 := List.length_take_le k C.data.toList
              rw [hbs.out]
              simp only [List.length_append, List.length_replicate]
              simp only [Array.length_toList, ByteArray.size_data]
              omega
            by_cases hk2 : k < C.size
            case pos =>
              have hk3 : (k : Int) < (C.size : Int) := by omega
              have HT : Hid (C.data.toList.take (k + 1) = C.data.toList.take k ++ [C[k]]) := take_snocB C k hk2
              by_cases c34 : C[k] = 34
              case pos =>
                have HE : Hid (bs ++ [92, C[k]] = P.data.toList ++ List.replicate 3 34 ++ Pl.escL 2 (C.data.toList.take (k + 1))) := by show bs ++ [92, C[k]] = _; rw [HT.out, Pl.escL_append, ← List.append_assoc, ← hbs.out]; simp [Pl.escL, Pl.escB, c34]
                rw [c34] at HE
                go_wp2_with (at_builtin; refine wp_app2 wr rfl (.tmp 161) (.tmp 163) rfl w.heap.size cap bs 92 34 _ _ rfl rfl rfl rfl hown.out (by omega) ?_; intro w1 hown1 hbel1)
                exact ⟨⟨k + 1, bs ++ [92, 34], by go_num, by simp, by omega, HE.out, hown1, hbel.out.trans hbel1⟩, by simp [intOf]; omega⟩
              case neg =>
                have d34 : ((C[k].toNat : Int) == 34) = false := eq_litW (d := 34) c34
                by_cases c92 : C[k] = 92
                case pos =>
                  have HE : Hid (bs ++ [92, C[k]] = P.data.toList ++ List.replicate 3 34 ++ Pl.escL 2 (C.data.toList.take (k + 1))) := by show bs ++ [92, C[k]] = _; rw [HT.out, Pl.escL_append, ← List.append_assoc, ← hbs.out]; simp [Pl.escL, Pl.escB, c92]
                  rw [c92] at HE
                  clear c34 d34
                  go_wp2_with (at_builtin; refine wp_app2 wr rfl (.tmp 161) (.tmp 163) rfl w.heap.size cap bs 92 92 _ _ rfl rfl rfl rfl hown.out (by omega) ?_; intro w1 hown1 hbel1)
                  exact ⟨⟨k + 1, bs ++ [92, 92], by go_num, by simp, by omega, HE.out, hown1, hbel.out.trans hbel1⟩, by simp [intOf]; omega⟩
                case neg =>
                  have d92 : ((C[k].toNat : Int) == 92) = false := eq_litW (d := 92) c92
                  by_cases c10 : C[k] = 10
                  case pos =>
                    have HE : Hid (bs ++ [C[k]] = P.data.toList ++ List.replicate 3 34 ++ Pl.escL 2 (C.data.toList.take (k + 1))) := by show bs ++ [C[k]] = _; rw [HT.out, Pl.escL_append, ← List.append_assoc, ← hbs.out]; simp [Pl.escL, Pl.escB, c10]
                    rw [c10] at HE
                    clear c34 d34 c92 d92
                    go_wp2_with (at_builtin; refine wp_app1 wr rfl (.tmp 178) (.tmp 180) rfl w.heap.size cap bs 10 _ rfl rfl rfl hown.out (by omega) ?_; intro w1 hown1 hbel1)
                    exact ⟨⟨k + 1, bs ++ [10], by go_num, by simp, by omega, HE.out, hown1, hbel.out.trans hbel1⟩, by simp [intOf]; omega⟩
                  case neg =>
                    have d10 : ((C[k].toNat : Int) == 10) = false := eq_litW (d := 10) c10
                    have HE : Hid (bs ++ [C[k]] = P.data.toList ++ List.replicate 3 34 ++ Pl.escL 2 (C.data.toList.take (k + 1))) := by show bs ++ [C[k]] = _; rw [HT.out, Pl.escL_append, ← List.append_assoc, ← hbs.out]; simp [Pl.escL, Pl.escB, c34, c92, c10]
                    clear c34 c92 c10
                    go_wp2_with (at_builtin; refine wp_app1 wr rfl (.tmp 178) (.tmp 180) rfl w.heap.size cap bs C[k] _ rfl rfl rfl hown.out (by omega) ?_; intro w1 hown1 hbel1)
                    exact ⟨⟨k + 1, bs ++ [C[k]], by go_num, by simp, by omega, HE.out, hown1, hbel.out.trans hbel1⟩, by simp [intOf]; omega⟩
            case neg =>
              have hk3 : (C.size : Int) ≤ (k : Int) := by omega
              have HE : Hid (bs = P.data.toList ++ List.replicate 3 34 ++ Pl.escL 2 C.data.toList) := by show bs = _; rw [hbs.out, List.take_of_length_le (by simp; omega)]
              have hl1 : bs.length ≤ P.size + 3 + 2 * C.size := by omega
              clear hbs hle
              go_wp2
              go_loopw [13, 18] (fun bv kv wl => ∃ (k : Nat) (bs : List UInt8), kv = .int .i64 (k : Int) ∧ bv = .slice (some ⟨w.heap.size, 0, none⟩) bs.length cap ∧ k ≤ 3 ∧ Hid (bs = P.data.toList ++ List.replicate 3 34 ++ Pl.escL 2 C.data.toList ++ List.replicate k 34) ∧ Hid (OwnB w.heap.size cap bs wl) ∧ Hid (Below w.heap.size w wl)) (fun _ kv _ => 3 - (intOf kv).toNat)
              case atStart => exact ⟨0, bs, rfl, rfl, by omega, by show bs = _; rw [HE.out]; simp, hown.out, hbel.out⟩
              case round =>
                have HLC : Hid ((P.data.toList ++ List.replicate 3 34 ++ Pl.escL 2 C.data.toList).length ≤ P.size + 3 + 2 * C.size) := by rw [← HE.out]; exact hl1
                clear HE hl1 hown hbel hk hk2 hk3
                obtain ⟨k, bs4, rfl, rfl, hk, hbs, hown, hbel⟩ := hrel
                have hle : bs4.length ≤ P.size + 3 + 2 * C.size + k := by
                  have h1 := HLC.out
                  rw [hbs.out, List.length_append, List.length_replicate]
                  omega
                by_cases hk2 : k < 3
                case pos =>
                  have hk3 : (k : Int) < 3 := by omega
                  have HE : Hid (bs4 ++ [34] = P.data.toList ++ List.replicate 3 34 ++ Pl.escL 2 C.data.toList ++ List.replicate (k + 1) 34) := by show bs4 ++ [34] = _; rw [hbs.out, List.replicate_succ' (n := k)]; simp only [List.append_assoc]
                  go_wp2_with (at_builtin; refine wp_app1 wr rfl (.tmp 187) (.tmp 189) rfl w.heap.size cap bs4 34 _ rfl rfl rfl hown.out (by omega) ?_; intro w1 hown1 hbel1)
                  exact ⟨⟨k + 1, bs4 ++ [34], by go_num, by simp, by omega, HE.out, hown1, hbel.out.trans hbel1⟩, by simp [intOf]; omega⟩
                case neg =>
                  have hk3 : (3 : Int) ≤ (k : Int) := by omega
                  have HE : Hid (bs4 = P.data.toList ++ List.replicate 3 34 ++ Pl.escL 2 C.data.toList ++ List.replicate 3 34) := by show bs4 = _; rw [hbs.out, show k = 3 by omega]
                  have hl1 : bs4.length ≤ P.size + 3 + 2 * C.size + 3 := by omega
                  clear hbs hle HLC
                  have HE4 := HE
                  go_wp2
                  go_loopw [13, 20] (fun bv kv wl => ∃ (k : Nat) (bs : List UInt8), kv = .int .i64 (k : Int) ∧ bv = .slice (some ⟨w.heap.size, 0, none⟩) bs.length cap ∧ k ≤ R.size ∧ Hid (bs = P.data.toList ++ List.replicate 3 34 ++ Pl.escL 2 C.data.toList ++ List.replicate 3 34 ++ R.data.toList.take k) ∧ Hid (OwnB w.heap.size cap bs wl) ∧ Hid (Below w.heap.size w wl)) (fun _ kv _ => R.size - (intOf kv).toNat)
                  case atStart => exact ⟨0, bs4, rfl, rfl, by omega, by show bs4 = _; rw [HE.out]; simp, hown.out, hbel.out⟩
                  case round =>
                    clear hown hbel hk hk2 hk3
                    obtain ⟨k, bs, rfl, rfl, hk, hbs, hown, hbel⟩ := hrel
                    have hle : bs.length ≤ P.size + 3 + 2 * C.size + 3 + k := by
                      have h1 := hl1
                      have h2 := List.length_take_le k R.data.toList
                      rw [hbs.out, List.length_append, ← HE.out]
                      omega
                    by_cases hk2 : k < R.size
                    case pos =>
                      exfalso; omega
                    case neg =>
                      have hk3 : (R.size : Int) ≤ (k : Int) := by omega
                      have HX : Hid (bs = Pl.wrote P.data.toList 34 3 (Pl.escL 2 C.data.toList) R.data.toList) := by
                        show bs = _
                        rw [hbs.out, List.take_of_length_le (by simp; omega)]
                        unfold Pl.wrote
                        simp only [List.append_assoc]
                      have HL4 : Hid (bs4.length = P.data.toList.length + 3 + (Pl.escL 2 C.data.toList).length + 3) := by show bs4.length = _; rw [HE.out]; simp only [List.length_append, List.length_replicate]
                      have hcv := hown.out.string
                      have hle2 : bs.length ≤ 4194304 := by omega
                      clear hbs hle HE hl1
                      go_wp2_with fail
                      have hgt : (⟨bs.toArray⟩ : ByteArray).data.toList = bs := by simp
                      have hgs : (⟨bs.toArray⟩ : ByteArray).size = bs.length := by simp [ByteArray.size]
                      have hPl : P.data.toList.length = P.size := by simp
                      have hsk : Pl.Skip bs 34 P.size (P.size + 3 + (Pl.escL 2 C.data.toList).length + 3) := by rw [HX.out, ← hPl]; exact Pl.skip_form2 _ _ _ HLAW.out
                      have hbl : bs.length = P.size + 3 + (Pl.escL 2 C.data.toList).length + 3 + R.size := by rw [HX.out, Pl.wrote_length, hPl]; simp
                      have hq0 : bs[P.size]? = some 34 := by rw [HX.out, ← hPl]; exact Pl.gd (s := 34 :: 34 :: (Pl.escL 2 C.data.toList ++ (34 :: 34 :: 34 :: R.data.toList))) (by rw [Pl.wrote_drop]; rfl)
                      refine (zz_skip ⟨bs.toArray⟩ 34 (by decide) P.size _ (by rw [hgs, hbl]; omega) (by rw [hgs]; exact hle2) (by rw [hgt]; exact hq0)).mono ?_
                      rintro e w9 ⟨kk, rfl, hsk9, hb9⟩
                      rw [hgt] at hsk9
                      have hkk : kk = bs4.length := by rw [HL4.out, hPl]; exact hsk9.uniq hsk
                      subst hkk
                      have HBF : Hid (Below w.heap.size w w9) := hbel.out.trans (hb9.mono hbel.out.size)
                      clear hsk9 hsk hb9 hbl hq0 hgt hgs hcv HL4 HX
                      go_wp2
                      go_ret
                      exact ⟨rfl, HBF.out⟩

set_option maxRecDepth 100000 in
set_option maxHeartbeats 4000000 in
theorem wr_2b (P C R : ByteArray) (form : Int) (w : World) (hb : P.size + C.size + R.size ≤ 1048576) (hf : form % 4 = 2) (hR : 0 < R.size) (hR0 : ((R[0].toNat : Int) == 34) = false) (hlaw : Pl.NoOpen 34 R.data.toList) :
    Calls Try.prog 4 #[.string P, .string C, .int .i64 form, .string R] w fun e w' => e = .returned (.bool true) ∧ Below w.heap.size w w' := by
  have hb1 : (P.size : Int) + (C.size : Int) + (R.size : Int) ≤ 1048576 := by omega
  have hf' : bits .and .i64 form 3 = 2 := by rw [i64_and3]; exact hf
  clear hf
  have HLAW : Hid (Pl.NoOpen 34 R.data.toList) := hlaw
  clear hlaw
  obtain ⟨i0, hi, hz0, hz1, hz2⟩ := info_parts info5
  go_enter Try.func4, Try.ntmps4
  go_wp2_with (first | (go_at_call 11; go_in) | (at_make; refine wpList_make_own _ rfl _ _ 27 rfl w.heap.size 5 i0 (.int .u8 0) 1 Try.underlying27 hi hz0 hz1 .i64 .i64 ((P.size : Int) + 2 * (C.size : Int) + (R.size : Int) + 6) (P.size + 2 * C.size + R.size + 6) rfl rfl (by omega) (by rw [hz2]; omega) (by unfold maxLen; omega) (Nat.le_refl _) ?_; intro wm hown hgrow))
  obtain ⟨cap, hcape⟩ : ∃ cap, cap = P.size + 2 * C.size + R.size + 6 := ⟨_, rfl⟩
  have hcapl : P.size + 2 * C.size + R.size + 6 ≤ cap := by omega
  rw [← hcape] at hown ⊢
  clear hcape
  have HBM : Hid (Below w.heap.size w wm) := (Below.refl _ w).grown hgrow (Nat.le_refl _) (fun k hk => by cases hk)
  have HOM : Hid (OwnB w.heap.size cap [] wm) := OwnB.of_make hown
  clear hown hgrow
  go_loopw [13, 14] (fun bv kv wl => ∃ (k : Nat) (bs : List UInt8), kv = .int .i64 (k : Int) ∧ bv = .slice (some ⟨w.heap.size, 0, none⟩) bs.length cap ∧ k ≤ P.size ∧ Hid (bs = P.data.toList.take k) ∧ Hid (OwnB w.heap.size cap bs wl) ∧ Hid (Below w.heap.size w wl)) (fun _ kv _ => P.size - (intOf kv).toNat)
  case atStart => exact ⟨0, [], rfl, rfl, by omega, rfl, HOM.out, HBM.out⟩
  case round =>
    clear HBM HOM
    obtain ⟨k, bs, rfl, rfl, hk, hbs, hown, hbel⟩ := hrel
    have hle : bs.length ≤ k := by rw [hbs.out]; exact List.length_take_le _ _
    by_cases hk2 : k < P.size
    case pos =>
      have hk3 : (k : Int) < (P.size : Int) := by omega
      have HE : Hid (bs ++ [P[k]] = P.data.toList.take (k + 1)) := by show bs ++ [P[k]] = P.data.toList.take (k + 1); rw [take_snocB P k hk2, hbs.out]
      go_wp2_with (at_builtin; refine wp_app1 wr rfl (.tmp 127) (.tmp 131) rfl w.heap.size cap bs P[k] _ rfl rfl rfl hown.out (by omega) ?_; intro w1 hown1 hbel1)
      exact ⟨⟨k + 1, bs ++ [P[k]], by go_num, by simp, by omega, HE.out, hown1, hbel.out.trans hbel1⟩, by simp [intOf]; omega⟩
    case neg =>
      have hk3 : (P.size : Int) ≤ (k : Int) := by omega
      have HE : Hid (bs = P.data.toList) := by show bs = P.data.toList; rw [hbs.out]; exact List.take_of_length_le (by simp; omega)
      have hl1 : bs.length ≤ P.size := by omega
      clear hbs hle
      go_wp2
      go_loopw [13, 15] (fun bv kv wl => ∃ (k : Nat) (bs : List UInt8), kv = .int .i64 (k : Int) ∧ bv = .slice (some ⟨w.heap.size, 0, none⟩) bs.length cap ∧ k ≤ 3 ∧ Hid (bs = P.data.toList ++ List.replicate k 34) ∧ Hid (OwnB w.heap.size cap bs wl) ∧ Hid (Below w.heap.size w wl)) (fun _ kv _ => 3 - (intOf kv).toNat)
      case atStart => exact ⟨0, bs, rfl, rfl, by omega, by show bs = _; rw [HE.out]; simp, hown.out, hbel.out⟩
      case round =>
        clear HE hl1 hown hbel hk hk2 hk3
        obtain ⟨k, bs, rfl, rfl, hk, hbs, hown, hbel⟩ := hrel
        have hle : bs.length ≤ P.size + k := by rw [hbs.out]; simp
        by_cases hk2 : k < 3
        case pos =>
          have hk3 : (k : Int) < 3 := by omega
          have HE : Hid (bs ++ [34] = P.data.toList ++ List.replicate (k + 1) 34) := by show bs ++ [34] = _; rw [hbs.out, List.replicate_succ', List.append_assoc]
          go_wp2_with (at_builtin; refine wp_app1 wr rfl (.tmp 138) (.tmp 140) rfl w.heap.size cap bs 34 _ rfl rfl rfl hown.out (by omega) ?_; intro w1 hown1 hbel1)
          exact ⟨⟨k + 1, bs ++ [34], by go_num, by simp, by omega, HE.out, hown1, hbel.out.trans hbel1⟩, by simp [intOf]; omega⟩
        case neg =>
          have hk3 : (3 : Int) ≤ (k : Int) := by omega
          have HE : Hid (bs = P.data.toList ++ List.replicate 3 34) := by show bs = _; rw [hbs.out, show k = 3 by omega]
          have hl1 : bs.length ≤ P.size + 3 := by omega
          clear hbs hle
          go_wp2
          go_loopw [13, 16] (fun bv kv wl => ∃ (k : Nat) (bs : List UInt8), kv = .int .i64 (k : Int) ∧ bv = .slice (some ⟨w.heap.size, 0, none⟩) bs.length cap ∧ k ≤ C.size ∧ Hid (bs = P.data.toList ++ List.replicate 3 34 ++ Pl.escL 2 (C.data.toList.take k)) ∧ Hid (OwnB w.heap.size cap bs wl) ∧ Hid (Below w.heap.size w wl)) (fun _ kv _ => C.size - (intOf kv).toNat)
          case atStart => exact ⟨0, bs, rfl, rfl, by omega, by show bs = _; rw [HE.out]; simp [Pl.escL], hown.out, hbel.out⟩
          case round =>
            clear HE hl1 hown hbel hk hk2 hk3
            obtain ⟨k, bs, rfl, rfl, hk, hbs, hown, hbel⟩ := hrel
            have hle : bs.length ≤ P.size + 3 + 2 * k := by
              have h1 := Pl.escL_length 2 (C.data.toList.take k)
              have h2 := List.length_take_le k C.data.toList
              rw [hbs.out]
              simp only [List.length_append, List.length_replicate]
              simp only [Array.length_toList, ByteArray.size_data]
              omega
            by_cases hk2 : k < C.size
            case pos =>
              have hk3 : (k : Int) < (C.size : Int) := by omega
              have HT : Hid (C.data.toList.take (k + 1) = C.data.toList.take k ++ [C[k]]) := take_snocB C k hk2
              by_cases c34 : C[k] = 34
              case pos =>
                have HE : Hid (bs ++ [92, C[k]] = P.data.toList ++ List.replicate 3 34 ++ Pl.escL 2 (C.data.toList.take (k + 1))) := by show bs ++ [92, C[k]] = _; rw [HT.out, Pl.escL_append, ← List.append_assoc, ← hbs.out]; simp [Pl.escL, Pl.escB, c34]
                rw [c34] at HE
                go_wp2_with (at_builtin; refine wp_app2 wr rfl (.tmp 161) (.tmp 163) rfl w.heap.size cap bs 92 34 _ _ rfl rfl rfl rfl hown.out (by omega) ?_; intro w1 hown1 hbel1)
                exact ⟨⟨k + 1, bs ++ [92, 34], by go_num, by simp, by omega, HE.out, hown1, hbel.out.trans hbel1⟩, by simp [intOf]; omega⟩
              case neg =>
                have d34 : ((C[k].toNat : Int) == 34) = false := eq_litW (d := 34) c34
                by_cases c92 : C[k] = 92
                case pos =>
                  have HE : Hid (bs ++ [92, C[k]] = P.data.toList ++ List.replicate 3 34 ++ Pl.escL 2 (C.data.toList.take (k + 1))) := by show bs ++ [92, C[k]] = _; rw [HT.out, Pl.escL_append, ← List.append_assoc, ← hbs.out]; simp [Pl.escL, Pl.escB, c92]
                  rw [c92] at HE
                  clear c34 d34
                  go_wp2_with (at_builtin; refine wp_app2 wr rfl (.tmp 161) (.tmp 163) rfl w.heap.size cap bs 92 92 _ _ rfl rfl rfl rfl hown.out (by omega) ?_; intro w1 hown1 hbel1)
                  exact ⟨⟨k + 1, bs ++ [92, 92], by go_num, by simp, by omega, HE.out, hown1, hbel.out.trans hbel1⟩, by simp [intOf]; omega⟩
                case neg =>
                  have d92 : ((C[k].toNat : Int) == 92) = false := eq_litW (d := 92) c92
                  by_cases c10 : C[k] = 10
                  case pos =>
                    have HE : Hid (bs ++ [C[k]] = P.data.toList ++ List.replicate 3 34 ++ Pl.escL 2 (C.data.toList.take (k + 1))) := by show bs ++ [C[k]] = _; rw [HT.out, Pl.escL_append, ← List.append_assoc, ← hbs.out]; simp [Pl.escL, Pl.escB, c10]
                    rw [c10] at HE
                    clear c34 d34 c92 d92
                    go_wp2_with (at_builtin; refine wp_app1 wr rfl (.tmp 178) (.tmp 180) rfl w.heap.size cap bs 10 _ rfl rfl rfl hown.out (by omega) ?_; intro w1 hown1 hbel1)
                    exact ⟨⟨k + 1, bs ++ [10], by go_num, by simp, by omega, HE.out, hown1, hbel.out.trans hbel1⟩, by simp [intOf]; omega⟩
                  case neg =>
                    have d10 : ((C[k].toNat : Int) == 10) = false := eq_litW (d := 10) c10
                    have HE : Hid (bs ++ [C[k]] = P.data.toList ++ List.replicate 3 34 ++ Pl.escL 2 (C.data.toList.take (k + 1))) := by show bs ++ [C[k]] = _; rw [HT.out, Pl.escL_append, ← List.append_assoc, ← hbs.out]; simp [Pl.escL, Pl.escB, c34, c92, c10]
                    clear c34 c92 c10
                    go_wp2_with (at_builtin; refine wp_app1 wr rfl (.tmp 178) (.tmp 180) rfl w.heap.size cap bs C[k] _ rfl rfl rfl hown.out (by omega) ?_; intro w1 hown1 hbel1)
                    exact ⟨⟨k + 1, bs ++ [C[k]], by go_num, by simp, by omega, HE.out, hown1, hbel.out.trans hbel1⟩, by simp [intOf]; omega⟩
            case neg =>
              have hk3 : (C.size : Int) ≤ (k : Int) := by omega
              have HE : Hid (bs = P.data.toList ++ List.replicate 3 34 ++ Pl.escL 2 C.data.toList) := by show bs = _; rw [hbs.out, List.take_of_length_le (by simp; omega)]
              have hl1 : bs.length ≤ P.size + 3 + 2 * C.size := by omega
              clear hbs hle
              go_wp2
              go_loopw [13, 18] (fun bv kv wl => ∃ (k : Nat) (bs : List UInt8), kv = .int .i64 (k : Int) ∧ bv = .slice (some ⟨w.heap.size, 0, none⟩) bs.length cap ∧ k ≤ 3 ∧ Hid (bs = P.data.toList ++ List.replicate 3 34 ++ Pl.escL 2 C.data.toList ++ List.replicate k 34) ∧ Hid (OwnB w.heap.size cap bs wl) ∧ Hid (Below w.heap.size w wl)) (fun _ kv _ => 3 - (intOf kv).toNat)
              case atStart => exact ⟨0, bs, rfl, rfl, by omega, by show bs = _; rw [HE.out]; simp, hown.out, hbel.out⟩
              case round =>
                have HLC : Hid ((P.data.toList ++ List.replicate 3 34 ++ Pl.escL 2 C.data.toList).length ≤ P.size + 3 + 2 * C.size) := by rw [← HE.out]; exact hl1
                clear HE hl1 hown hbel hk hk2 hk3
                obtain ⟨k, bs4, rfl, rfl, hk, hbs, hown, hbel⟩ := hrel
                have hle : bs4.length ≤ P.size + 3 + 2 * C.size + k := by
                  have h1 := HLC.out
                  rw [hbs.out, List.length_append, List.length_replicate]
                  omega
                by_cases hk2 : k < 3
                case pos =>
                  have hk3 : (k : Int) < 3 := by omega
                  have HE : Hid (bs4 ++ [34] = P.data.toList ++ List.replicate 3 34 ++ Pl.escL 2 C.data.toList ++ List.replicate (k + 1) 34) := by show bs4 ++ [34] = _; rw [hbs.out, List.replicate_succ' (n := k)]; simp only [List.append_assoc]
                  go_wp2_with (at_builtin; refine wp_app1 wr rfl (.tmp 187) (.tmp 189) rfl w.heap.size cap bs4 34 _ rfl rfl rfl hown.out (by omega) ?_; intro w1 hown1 hbel1)
                  exact ⟨⟨k + 1, bs4 ++ [34], by go_num, by simp, by omega, HE.out, hown1, hbel.out.trans hbel1⟩, by simp [intOf]; omega⟩
                case neg =>
                  have hk3 : (3 : Int) ≤ (k : Int) := by omega
                  have HE : Hid (bs4 = P.data.toList ++ List.replicate 3 34 ++ Pl.escL 2 C.data.toList ++ List.replicate 3 34) := by show bs4 = _; rw [hbs.out, show k = 3 by omega]
                  have hl1 : bs4.length ≤ P.size + 3 + 2 * C.size + 3 := by omega
                  clear hbs hle HLC
                  have HE4 := HE
                  go_wp2
                  go_loopw [13, 20] (fun bv kv wl => ∃ (k : Nat) (bs : List UInt8), kv = .int .i64 (k : Int) ∧ bv = .slice (some ⟨w.heap.size, 0, none⟩) bs.length cap ∧ k ≤ R.size ∧ Hid (bs = P.data.toList ++ List.replicate 3 34 ++ Pl.escL 2 C.data.toList ++ List.replicate 3 34 ++ R.data.toList.take k) ∧ Hid (OwnB w.heap.size cap bs wl) ∧ Hid (Below w.heap.size w wl)) (fun _ kv _ => R.size - (intOf kv).toNat)
                  case atStart => exact ⟨0, bs4, rfl, rfl, by omega, by show bs4 = _; rw [HE.out]; simp, hown.out, hbel.out⟩
                  case round =>
                    clear hown hbel hk hk2 hk3
                    obtain ⟨k, bs, rfl, rfl, hk, hbs, hown, hbel⟩ := hrel
                    have hle : bs.length ≤ P.size + 3 + 2 * C.size + 3 + k := by
                      have h1 := hl1
                      have h2 := List.length_take_le k R.data.toList
                      rw [hbs.out, List.length_append, ← HE.out]
                      omega
                    by_cases hk2 : k < R.size
                    case pos =>
                      have hk3 : (k : Int) < (R.size : Int) := by omega
                      have HX : Hid (bs ++ [R[k]] = P.data.toList ++ List.replicate 3 34 ++ Pl.escL 2 C.data.toList ++ List.replicate 3 34 ++ R.data.toList.take (k + 1)) := by show bs ++ [R[k]] = _; rw [take_snocB R k hk2, hbs.out]; simp only [List.append_assoc]
                      go_wp2_with (at_builtin; refine wp_app1 wr rfl (.tmp 199) (.tmp 203) rfl w.heap.size cap bs R[k] _ rfl rfl rfl hown.out (by omega) ?_; intro w1 hown1 hbel1)
                      exact ⟨⟨k + 1, bs ++ [R[k]], by go_num, by simp, by omega, HX.out, hown1, hbel.out.trans hbel1⟩, by simp [intOf]; omega⟩
                    case neg =>
                      have hk3 : (R.size : Int) ≤ (k : Int) := by omega
                      have HX : Hid (bs = Pl.wrote P.data.toList 34 3 (Pl.escL 2 C.data.toList) R.data.toList) := by
                        show bs = _
                        rw [hbs.out, List.take_of_length_le (by simp; omega)]
                        unfold Pl.wrote
                        simp only [List.append_assoc]
                      have HL4 : Hid (bs4.length = P.data.toList.length + 3 + (Pl.escL 2 C.data.toList).length + 3) := by show bs4.length = _; rw [HE.out]; simp only [List.length_append, List.length_replicate]
                      have hcv := hown.out.string
                      have hle2 : bs.length ≤ 4194304 := by omega
                      clear hbs hle HE hl1
                      go_wp2_with fail
                      have hgt : (⟨bs.toArray⟩ : ByteArray).data.toList = bs := by simp
                      have hgs : (⟨bs.toArray⟩ : ByteArray).size = bs.length := by simp [ByteArray.size]
                      have hPl : P.data.toList.length = P.size := by simp
                      have hsk : Pl.Skip bs 34 P.size (P.size + 3 + (Pl.escL 2 C.data.toList).length + 3) := by rw [HX.out, ← hPl]; exact Pl.skip_form2 _ _ _ HLAW.out
                      have hbl : bs.length = P.size + 3 + (Pl.escL 2 C.data.toList).length + 3 + R.size := by rw [HX.out, Pl.wrote_length, hPl]; simp
                      have hq0 : bs[P.size]? = some 34 := by rw [HX.out, ← hPl]; exact Pl.gd (s := 34 :: 34 :: (Pl.escL 2 C.data.toList ++ (34 :: 34 :: 34 :: R.data.toList))) (by rw [Pl.wrote_drop]; rfl)
                      refine (zz_skip ⟨bs.toArray⟩ 34 (by decide) P.size _ (by rw [hgs, hbl]; omega) (by rw [hgs]; exact hle2) (by rw [hgt]; exact hq0)).mono ?_
                      rintro e w9 ⟨kk, rfl, hsk9, hb9⟩
                      rw [hgt] at hsk9
                      have hkk : kk = bs4.length := by rw [HL4.out, hPl]; exact hsk9.uniq hsk
                      subst hkk
                      have HBF : Hid (Below w.heap.size w w9) := hbel.out.trans (hb9.mono hbel.out.size)
                      clear hsk9 hsk hb9 hbl hq0 hgt hgs hcv HL4 HX
                      go_wp2
                      go_ret
                      exact ⟨rfl, HBF.out⟩

set_option maxRecDepth 100000 in
set_option maxHeartbeats 1000000 in
theorem wr_3ta (P C R : ByteArray) (form : Int) (w : World) (hb : P.size + C.size + R.size ≤ 1048576) (hf : form % 4 = 3) (hR : ¬ 0 < R.size) (h3 : ¬ Pl.NoTriple C.data.toList) :
    Calls Try.prog 4 #[.string P, .string C, .int .i64 form, .string R] w fun e w' => e = .returned (.bool true) ∧ Below w.heap.size w w' := by
  have hb1 : (P.size : Int) + (C.size : Int) + (R.size : Int) ≤ 1048576 := by omega
  have hf' : bits .and .i64 form 3 = 3 := by rw [i64_and3]; exact hf
  clear hf
  have H3 : Hid (¬ Pl.NoTriple C.data.toList) := h3
  clear h3
  go_enter Try.func4, Try.ntmps4
  go_wp2_with (first | (go_at_call 11; go_in) | (go_at_call 13; refine (has_triple C true ⟨fun _ => H3.out, fun _ => rfl⟩ _ (by omega)).mono ?_; rintro e w' ⟨rfl, hw'⟩; replace hw' := hw'.symm; subst hw'))
  all_goals
    go_ret
    exact ⟨rfl, Below.refl _ _⟩

set_option maxRecDepth 100000 in
set_option maxHeartbeats 1000000 in
theorem wr_3tb (P C R : ByteArray) (form : Int) (w : World) (hb : P.size + C.size + R.size ≤ 1048576) (hf : form % 4 = 3) (hR : 0 < R.size) (hR0 : ((R[0].toNat : Int) == 39) = false) (h3 : ¬ Pl.NoTriple C.data.toList) :
    Calls Try.prog 4 #[.string P, .string C, .int .i64 form, .string R] w fun e w' => e = .returned (.bool true) ∧ Below w.heap.size w w' := by
  have hb1 : (P.size : Int) + (C.size : Int) + (R.size : Int) ≤ 1048576 := by omega
  have hf' : bits .and .i64 form 3 = 3 := by rw [i64_and3]; exact hf
  clear hf
  have H3 : Hid (¬ Pl.NoTriple C.data.toList) := h3
  clear h3
  go_enter Try.func4, Try.ntmps4
  go_wp2_with (first | (go_at_call 11; go_in) | (go_at_call 13; refine (has_triple C true ⟨fun _ => H3.out, fun _ => rfl⟩ _ (by omega)).mono ?_; rintro e w' ⟨rfl, hw'⟩; replace hw' := hw'.symm; subst hw'))
  all_goals
    go_ret
    exact ⟨rfl, Below.refl _ _⟩

set_option maxRecDepth 100000 in
set_option maxHeartbeats 1000000 in
theorem wr_3tc (P C R : ByteArray) (form : Int) (w : World) (hb : P.size + C.size + R.size ≤ 1048576) (hf : form % 4 = 3) (hR : 0 < R.size) (hR0 : ((R[0].toNat : Int) == 39) = true) (h3 : ¬ Pl.NoTriple C.data.toList) :
    Calls Try.prog 4 #[.string P, .string C, .int .i64 form, .string R] w fun e w' => e = .returned (.bool true) ∧ Below w.heap.size w w' := by
  have hb1 : (P.size : Int) + (C.size : Int) + (R.size : Int) ≤ 1048576 := by omega
  have hf' : bits .and .i64 form 3 = 3 := by rw [i64_and3]; exact hf
  clear hf
  have H3 : Hid (¬ Pl.NoTriple C.data.toList) := h3
  clear h3
  go_enter Try.func4, Try.ntmps4
  go_wp2_with (first | (go_at_call 11; go_in) | (go_at_call 13; refine (has_triple C true ⟨fun _ => H3.out, fun _ => rfl⟩ _ (by omega)).mono ?_; rintro e w' ⟨rfl, hw'⟩; replace hw' := hw'.symm; subst hw'))
  all_goals
    go_ret
    exact ⟨rfl, Below.refl _ _⟩

set_option maxRecDepth 100000 in
set_option maxHeartbeats 1000000 in
theorem wr_3e (P C R : ByteArray) (form : Int) (w : World) (hb : P.size + C.size + R.size ≤ 1048576) (hf : form % 4 = 3) (hR : 0 < R.size) (hR0 : ((R[0].toNat : Int) == 39) = true) (h3 : Pl.NoTriple C.data.toList) :
    Calls Try.prog 4 #[.string P, .string C, .int .i64 form, .string R] w fun e w' => e = .returned (.bool true) ∧ Below w.heap.size w w' := by
  have hb1 : (P.size : Int) + (C.size : Int) + (R.size : Int) ≤ 1048576 := by omega
  have hf' : bits .and .i64 form 3 = 3 := by rw [i64_and3]; exact hf
  clear hf
  have H3 : Hid (Pl.NoTriple C.data.toList) := h3
  clear h3
  go_enter Try.func4, Try.ntmps4
  go_wp2_with (first | (go_at_call 11; go_in) | (go_at_call 13; refine (has_triple C false ⟨fun e => Bool.noConfusion e, fun e => absurd H3.out e⟩ _ (by omega)).mono ?_; rintro e w' ⟨rfl, hw'⟩; replace hw' := hw'.symm; subst hw'))
  all_goals
    go_ret
    exact ⟨rfl, Below.refl _ _⟩

set_option maxRecDepth 100000 in
set_option maxHeartbeats 4000000 in
theorem wr_3a (P C R : ByteArray) (form : Int) (w : World) (hb : P.size + C.size + R.size ≤ 1048576) (hf : form % 4 = 3) (hR : ¬ 0 < R.size) (h3 : Pl.NoTriple C.data.toList) (hlaw : Pl.NoOpen 39 R.data.toList) :
    Calls Try.prog 4 #[.string P, .string C, .int .i64 form, .string R] w fun e w' => e = .returned (.bool true) ∧ Below w.heap.size w w' := by
  have hb1 : (P.size : Int) + (C.size : Int) + (R.size : Int) ≤ 1048576 := by omega
  have hf' : bits .and .i64 form 3 = 3 := by rw [i64_and3]; exact hf
  clear hf
  have H3 : Hid (Pl.NoTriple C.data.toList) := h3
  clear h3
  have HLAW : Hid (Pl.NoOpen 39 R.data.toList) := hlaw
  clear hlaw
  obtain ⟨i0, hi, hz0, hz1, hz2⟩ := info_parts info5
  go_enter Try.func4, Try.ntmps4
  go_wp2_with (first | (go_at_call 11; go_in) | (go_at_call 13; refine (has_triple C false ⟨fun e => Bool.noConfusion e, fun e => absurd H3.out e⟩ _ (by omega)).mono ?_; rintro e w' ⟨rfl, hw'⟩; replace hw' := hw'.symm; subst hw') | (at_make; refine wpList_make_own _ rfl _ _ 27 rfl w.heap.size 5 i0 (.int .u8 0) 1 Try.underlying27 hi hz0 hz1 .i64 .i64 ((P.size : Int) + 2 * (C.size : Int) + (R.size : Int) + 6) (P.size + 2 * C.size + R.size + 6) rfl rfl (by omega) (by rw [hz2]; omega) (by unfold maxLen; omega) (Nat.le_refl _) ?_; intro wm hown hgrow))
  obtain ⟨cap, hcape⟩ : ∃ cap, cap = P.size + 2 * C.size + R.size + 6 := ⟨_, rfl⟩
  have hcapl : P.size + 2 * C.size + R.size + 6 ≤ cap := by omega
  rw [← hcape] at hown ⊢
  clear hcape
  have HBM : Hid (Below w.heap.size w wm) := (Below.refl _ w).grown hgrow (Nat.le_refl _) (fun k hk => by cases hk)
  have HOM : Hid (OwnB w.heap.size cap [] wm) := OwnB.of_make hown
  clear hown hgrow
  go_loopw [13, 14] (fun bv kv wl => ∃ (k : Nat) (bs : List UInt8), kv = .int .i64 (k : Int) ∧ bv = .slice (some ⟨w.heap.size, 0, none⟩) bs.length cap ∧ k ≤ P.size ∧ Hid (bs = P.data.toList.take k) ∧ Hid (OwnB w.heap.size cap bs wl) ∧ Hid (Below w.heap.size w wl)) (fun _ kv _ => P.size - (intOf kv).toNat)
  case atStart => exact ⟨0, [], rfl, rfl, by omega, rfl, HOM.out, HBM.out⟩
  case round =>
    clear HBM HOM
    obtain ⟨k, bs, rfl, rfl, hk, hbs, hown, hbel⟩ := hrel
    have hle : bs.length ≤ k := by rw [hbs.out]; exact List.length_take_le _ _
    by_cases hk2 : k < P.size
    case pos =>
      have hk3 : (k : Int) < (P.size : Int) := by omega
      have HE : Hid (bs ++ [P[k]] = P.data.toList.take (k + 1)) := by show bs ++ [P[k]] = P.data.toList.take (k + 1); rw [take_snocB P k hk2, hbs.out]
      go_wp2_with (at_builtin; refine wp_app1 wr rfl (.tmp 127) (.tmp 131) rfl w.heap.size cap bs P[k] _ rfl rfl rfl hown.out (by omega) ?_; intro w1 hown1 hbel1)
      exact ⟨⟨k + 1, bs ++ [P[k]], by go_num, by simp, by omega, HE.out, hown1, hbel.out.trans hbel1⟩, by simp [intOf]; omega⟩
    case neg =>
      have hk3 : (P.size : Int) ≤ (k : Int) := by omega
      have HE : Hid (bs = P.data.toList) := by show bs = P.data.toList; rw [hbs.out]; exact List.take_of_length_le (by simp; omega)
      have hl1 : bs.length ≤ P.size := by omega
      clear hbs hle
      go_wp2
      go_loopw [13, 15] (fun bv kv wl => ∃ (k : Nat) (bs : List UInt8), kv = .int .i64 (k : Int) ∧ bv = .slice (some ⟨w.heap.size, 0, none⟩) bs.length cap ∧ k ≤ 3 ∧ Hid (bs = P.data.toList ++ List.replicate k 39) ∧ Hid (OwnB w.heap.size cap bs wl) ∧ Hid (Below w.heap.size w wl)) (fun _ kv _ => 3 - (intOf kv).toNat)
      case atStart => exact ⟨0, bs, rfl, rfl, by omega, by show bs = _; rw [HE.out]; simp, hown.out, hbel.out⟩
      case round =>
        clear HE hl1 hown hbel hk hk2 hk3
        obtain ⟨k, bs, rfl, rfl, hk, hbs, hown, hbel⟩ := hrel
        have hle : bs.length ≤ P.size + k := by rw [hbs.out]; simp
        by_cases hk2 : k < 3
        case pos =>
          have hk3 : (k : Int) < 3 := by omega
          have HE : Hid (bs ++ [39] = P.data.toList ++ List.replicate (k + 1) 39) := by show bs ++ [39] = _; rw [hbs.out, List.replicate_succ', List.append_assoc]
          go_wp2_with (at_builtin; refine wp_app1 wr rfl (.tmp 138) (.tmp 140) rfl w.heap.size cap bs 39 _ rfl rfl rfl hown.out (by omega) ?_; intro w1 hown1 hbel1)
          exact ⟨⟨k + 1, bs ++ [39], by go_num, by simp, by omega, HE.out, hown1, hbel.out.trans hbel1⟩, by simp [intOf]; omega⟩
        case neg =>
          have hk3 : (3 : Int) ≤ (k : Int) := by omega
          have HE : Hid (bs = P.data.toList ++ List.replicate 3 39) := by show bs = _; rw [hbs.out, show k = 3 by omega]
          have hl1 : bs.length ≤ P.size + 3 := by omega
          clear hbs hle
          go_wp2
          go_loopw [13, 16] (fun bv kv wl => ∃ (k : Nat) (bs : List UInt8), kv = .int .i64 (k : Int) ∧ bv = .slice (some ⟨w.heap.size, 0, none⟩) bs.length cap ∧ k ≤ C.size ∧ Hid (bs = P.data.toList ++ List.replicate 3 39 ++ Pl.escL 3 (C.data.toList.take k)) ∧ Hid (OwnB w.heap.size cap bs wl) ∧ Hid (Below w.heap.size w wl)) (fun _ kv _ => C.size - (intOf kv).toNat)
          case atStart => exact ⟨0, bs, rfl, rfl, by omega, by show bs = _; rw [HE.out]; simp [Pl.escL], hown.out, hbel.out⟩
          case round =>
            clear HE hl1 hown hbel hk hk2 hk3
            obtain ⟨k, bs, rfl, rfl, hk, hbs, hown, hbel⟩ := hrel
            have hle : bs.length ≤ P.size + 3 + 2 * k := by
              have h1 := Pl.escL_length 3 (C.data.toList.take k)
              have h2 := List.length_take_le k C.data.toList
              rw [hbs.out]
              simp only [List.length_append, List.length_replicate]
              simp only [Array.length_toList, ByteArray.size_data]
              omega
            by_cases hk2 : k < C.size
            case pos =>
              have hk3 : (k : Int) < (C.size : Int) := by omega
              have HT : Hid (C.data.toList.take (k + 1) = C.data.toList.take k ++ [C[k]]) := take_snocB C k hk2
              skip
              have HE : Hid (bs ++ [C[k]] = P.data.toList ++ List.replicate 3 39 ++ Pl.escL 3 (C.data.toList.take (k + 1))) := by show bs ++ [C[k]] = _; rw [HT.out, Pl.escL_append, ← List.append_assoc, ← hbs.out]; simp [Pl.escL, Pl.escB]
              go_wp2_with (at_builtin; refine wp_app1 wr rfl (.tmp 178) (.tmp 180) rfl w.heap.size cap bs C[k] _ rfl rfl rfl hown.out (by omega) ?_; intro w1 hown1 hbel1)
              exact ⟨⟨k + 1, bs ++ [C[k]], by go_num, by simp, by omega, HE.out, hown1, hbel.out.trans hbel1⟩, by simp [intOf]; omega⟩
            case neg =>
              have hk3 : (C.size : Int) ≤ (k : Int) := by omega
              have HE : Hid (bs = P.data.toList ++ List.replicate 3 39 ++ Pl.escL 3 C.data.toList) := by show bs = _; rw [hbs.out, List.take_of_length_le (by simp; omega)]
              have hl1 : bs.length ≤ P.size + 3 + 2 * C.size := by omega
              clear hbs hle
              go_wp2
              go_loopw [13, 18] (fun bv kv wl => ∃ (k : Nat) (bs : List UInt8), kv = .int .i64 (k : Int) ∧ bv = .slice (some ⟨w.heap.size, 0, none⟩) bs.length cap ∧ k ≤ 3 ∧ Hid (bs = P.data.toList ++ List.replicate 3 39 ++ Pl.escL 3 C.data.toList ++ List.replicate k 39) ∧ Hid (OwnB w.heap.size cap bs wl) ∧ Hid (Below w.heap.size w wl)) (fun _ kv _ => 3 - (intOf kv).toNat)
              case atStart => exact ⟨0, bs, rfl, rfl, by omega, by show bs = _; rw [HE.out]; simp, hown.out, hbel.out⟩
              case round =>
                have HLC : Hid ((P.data.toList ++ List.replicate 3 39 ++ Pl.escL 3 C.data.toList).length ≤ P.size + 3 + 2 * C.size) := by rw [← HE.out]; exact hl1
                clear HE hl1 hown hbel hk hk2 hk3
                obtain ⟨k, bs4, rfl, rfl, hk, hbs, hown, hbel⟩ := hrel
                have hle : bs4.length ≤ P.size + 3 + 2 * C.size + k := by
                  have h1 := HLC.out
                  rw [hbs.out, List.length_append, List.length_replicate]
                  omega
                by_cases hk2 : k < 3
                case pos =>
                  have hk3 : (k : Int) < 3 := by omega
                  have HE : Hid (bs4 ++ [39] = P.data.toList ++ List.replicate 3 39 ++ Pl.escL 3 C.data.toList ++ List.replicate (k + 1) 39) := by show bs4 ++ [39] = _; rw [hbs.out, List.replicate_succ' (n := k)]; simp only [List.append_assoc]
                  go_wp2_with (at_builtin; refine wp_app1 wr rfl (.tmp 187) (.tmp 189) rfl w.heap.size cap bs4 39 _ rfl rfl rfl hown.out (by omega) ?_; intro w1 hown1 hbel1)
                  exact ⟨⟨k + 1, bs4 ++ [39], by go_num, by simp, by omega, HE.out, hown1, hbel.out.trans hbel1⟩, by simp [intOf]; omega⟩
                case neg =>
                  have hk3 : (3 : Int) ≤ (k : Int) := by omega
                  have HE : Hid (bs4 = P.data.toList ++ List.replicate 3 39 ++ Pl.escL 3 C.data.toList ++ List.replicate 3 39) := by show bs4 = _; rw [hbs.out, show k = 3 by omega]
                  have hl1 : bs4.length ≤ P.size + 3 + 2 * C.size + 3 := by omega
                  clear hbs hle HLC
                  have HE4 := HE
                  go_wp2
                  go_loopw [13, 20] (fun bv kv wl => ∃ (k : Nat) (bs : List UInt8), kv = .int .i64 (k : Int) ∧ bv = .slice (some ⟨w.heap.size, 0, none⟩) bs.length cap ∧ k ≤ R.size ∧ Hid (bs = P.data.toList ++ List.replicate 3 39 ++ Pl.escL 3 C.data.toList ++ List.replicate 3 39 ++ R.data.toList.take k) ∧ Hid (OwnB w.heap.size cap bs wl) ∧ Hid (Below w.heap.size w wl)) (fun _ kv _ => R.size - (intOf kv).toNat)
                  case atStart => exact ⟨0, bs4, rfl, rfl, by omega, by show bs4 = _; rw [HE.out]; simp, hown.out, hbel.out⟩
                  case round =>
                    clear hown hbel hk hk2 hk3
                    obtain ⟨k, bs, rfl, rfl, hk, hbs, hown, hbel⟩ := hrel
                    have hle : bs.length ≤ P.size + 3 + 2 * C.size + 3 + k := by
                      have h1 := hl1
                      have h2 := List.length_take_le k R.data.toList
                      rw [hbs.out, List.length_append, ← HE.out]
                      omega
                    by_cases hk2 : k < R.size
                    case pos =>
                      exfalso; omega
                    case neg =>
                      have hk3 : (R.size : Int) ≤ (k : Int) := by omega
                      have HX : Hid (bs = Pl.wrote P.data.toList 39 3 (Pl.escL 3 C.data.toList) R.data.toList) := by
                        show bs = _
                        rw [hbs.out, List.take_of_length_le (by simp; omega)]
                        unfold Pl.wrote
                        simp only [List.append_assoc]
                      have HL4 : Hid (bs4.length = P.data.toList.length + 3 + (Pl.escL 3 C.data.toList).length + 3) := by show bs4.length = _; rw [HE.out]; simp only [List.length_append, List.length_replicate]
                      have hcv := hown.out.string
                      have hle2 : bs.length ≤ 4194304 := by omega
                      clear hbs hle HE hl1
                      go_wp2_with fail
                      have hgt : (⟨bs.toArray⟩ : ByteArray).data.toList = bs := by simp
                      have hgs : (⟨bs.toArray⟩ : ByteArray).size = bs.length := by simp [ByteArray.size]
                      have hPl : P.data.toList.length = P.size := by simp
                      have hsk : Pl.Skip bs 39 P.size (P.size + 3 + (Pl.escL 3 C.data.toList).length + 3) := by rw [HX.out, ← hPl]; exact Pl.skip_form3 _ _ _ HLAW.out H3.out
                      have hbl : bs.length = P.size + 3 + (Pl.escL 3 C.data.toList).length + 3 + R.size := by rw [HX.out, Pl.wrote_length, hPl]; simp
                      have hq0 : bs[P.size]? = some 39 := by rw [HX.out, ← hPl]; exact Pl.gd (s := 39 :: 39 :: (Pl.escL 3 C.data.toList ++ (39 :: 39 :: 39 :: R.data.toList))) (by rw [Pl.wrote_drop]; rfl)
                      refine (zz_skip ⟨bs.toArray⟩ 39 (by decide) P.size _ (by rw [hgs, hbl]; omega) (by rw [hgs]; exact hle2) (by rw [hgt]; exact hq0)).mono ?_
                      rintro e w9 ⟨kk, rfl, hsk9, hb9⟩
                      rw [hgt] at hsk9
                      have hkk : kk = bs4.length := by rw [HL4.out, hPl]; exact hsk9.uniq hsk
                      subst hkk
                      have HBF : Hid (Below w.heap.size w w9) := hbel.out.trans (hb9.mono hbel.out.size)
                      clear hsk9 hsk hb9 hbl hq0 hgt hgs hcv HL4 HX
                      go_wp2
                      go_ret
                      exact ⟨rfl, HBF.out⟩

set_option maxRecDepth 100000 in
set_option maxHeartbeats 4000000 in
theorem wr_3b (P C R : ByteArray) (form : Int) (w : World) (hb : P.size + C.size + R.size ≤ 1048576) (hf : form % 4 = 3) (hR : 0 < R.size) (hR0 : ((R[0].toNat : Int) == 39) = false) (h3 : Pl.NoTriple C.data.toList) (hlaw : Pl.NoOpen 39 R.data.toList) :
    Calls Try.prog 4 #[.string P, .string C, .int .i64 form, .string R] w fun e w' => e = .returned (.bool true) ∧ Below w.heap.size w w' := by
  have hb1 : (P.size : Int) + (C.size : Int) + (R.size : Int) ≤ 1048576 := by omega
  have hf' : bits .and .i64 form 3 = 3 := by rw [i64_and3]; exact hf
  clear hf
  have H3 : Hid (Pl.NoTriple C.data.toList) := h3
  clear h3
  have HLAW : Hid (Pl.NoOpen 39 R.data.toList) := hlaw
  clear hlaw
  obtain ⟨i0, hi, hz0, hz1, hz2⟩ := info_parts info5
  go_enter Try.func4, Try.ntmps4
  go_wp2_with (first | (go_at_call 11; go_in) | (go_at_call 13; refine (has_triple C false ⟨fun e => Bool.noConfusion e, fun e => absurd H3.out e⟩ _ (by omega)).mono ?_; rintro e w' ⟨rfl, hw'⟩; replace hw' := hw'.symm; subst hw') | (at_make; refine wpList_make_own _ rfl _ _ 27 rfl w.heap.size 5 i0 (.int .u8 0) 1 Try.underlying27 hi hz0 hz1 .i64 .i64 ((P.size : Int) + 2 * (C.size : Int) + (R.size : Int) + 6) (P.size + 2 * C.size + R.size + 6) rfl rfl (by omega) (by rw [hz2]; omega) (by unfold maxLen; omega) (Nat.le_refl _) ?_; intro wm hown hgrow))
  obtain ⟨cap, hcape⟩ : ∃ cap, cap = P.size + 2 * C.size + R.size + 6 := ⟨_, rfl⟩
  have hcapl : P.size + 2 * C.size + R.size + 6 ≤ cap := by omega
  rw [← hcape] at hown ⊢
  clear hcape
  have HBM : Hid (Below w.heap.size w wm) := (Below.refl _ w).grown hgrow (Nat.le_refl _) (fun k hk => by cases hk)
  have HOM : Hid (OwnB w.heap.size cap [] wm) := OwnB.of_make hown
  clear hown hgrow
  go_loopw [13, 14] (fun bv kv wl => ∃ (k : Nat) (bs : List UInt8), kv = .int .i64 (k : Int) ∧ bv = .slice (some ⟨w.heap.size, 0, none⟩) bs.length cap ∧ k ≤ P.size ∧ Hid (bs = P.data.toList.take k) ∧ Hid (OwnB w.heap.size cap bs wl) ∧ Hid (Below w.heap.size w wl)) (fun _ kv _ => P.size - (intOf kv).toNat)
  case atStart => exact ⟨0, [], rfl, rfl, by omega, rfl, HOM.out, HBM.out⟩
  case round =>
    clear HBM HOM
    obtain ⟨k, bs, rfl, rfl, hk, hbs, hown, hbel⟩ := hrel
    have hle : bs.length ≤ k := by rw [hbs.out]; exact List.length_take_le _ _
    by_cases hk2 : k < P.size
    case pos =>
      have hk3 : (k : Int) < (P.size : Int) := by omega
      have HE : Hid (bs ++ [P[k]] = P.data.toList.take (k + 1)) := by show bs ++ [P[k]] = P.data.toList.take (k + 1); rw [take_snocB P k hk2, hbs.out]
      go_wp2_with (at_builtin; refine wp_app1 wr rfl (.tmp 127) (.tmp 131) rfl w.heap.size cap bs P[k] _ rfl rfl rfl hown.out (by omega) ?_; intro w1 hown1 hbel1)
      exact ⟨⟨k + 1, bs ++ [P[k]], by go_num, by simp, by omega, HE.out, hown1, hbel.out.trans hbel1⟩, by simp [intOf]; omega⟩
    case neg =>
      have hk3 : (P.size : Int) ≤ (k : Int) := by omega
      have HE : Hid (bs = P.data.toList) := by show bs = P.data.toList; rw [hbs.out]; exact List.take_of_length_le (by simp; omega)
      have hl1 : bs.length ≤ P.size := by omega
      clear hbs hle
      go_wp2
      go_loopw [13, 15] (fun bv kv wl => ∃ (k : Nat) (bs : List UInt8), kv = .int .i64 (k : Int) ∧ bv = .slice (some ⟨w.heap.size, 0, none⟩) bs.length cap ∧ k ≤ 3 ∧ Hid (bs = P.data.toList ++ List.replicate k 39) ∧ Hid (OwnB w.heap.size cap bs wl) ∧ Hid (Below w.heap.size w wl)) (fun _ kv _ => 3 - (intOf kv).toNat)
      case atStart => exact ⟨0, bs, rfl, rfl, by omega, by show bs = _; rw [HE.out]; simp, hown.out, hbel.out⟩
      case round =>
        clear HE hl1 hown hbel hk hk2 hk3
        obtain ⟨k, bs, rfl, rfl, hk, hbs, hown, hbel⟩ := hrel
        have hle : bs.length ≤ P.size + k := by rw [hbs.out]; simp
        by_cases hk2 : k < 3
        case pos =>
          have hk3 : (k : Int) < 3 := by omega
          have HE : Hid (bs ++ [39] = P.data.toList ++ List.replicate (k + 1) 39) := by show bs ++ [39] = _; rw [hbs.out, List.replicate_succ', List.append_assoc]
          go_wp2_with (at_builtin; refine wp_app1 wr rfl (.tmp 138) (.tmp 140) rfl w.heap.size cap bs 39 _ rfl rfl rfl hown.out (by omega) ?_; intro w1 hown1 hbel1)
          exact ⟨⟨k + 1, bs ++ [39], by go_num, by simp, by omega, HE.out, hown1, hbel.out.trans hbel1⟩, by simp [intOf]; omega⟩
        case neg =>
          have hk3 : (3 : Int) ≤ (k : Int) := by omega
          have HE : Hid (bs = P.data.toList ++ List.replicate 3 39) := by show bs = _; rw [hbs.out, show k = 3 by omega]
          have hl1 : bs.length ≤ P.size + 3 := by omega
          clear hbs hle
          go_wp2
          go_loopw [13, 16] (fun bv kv wl => ∃ (k : Nat) (bs : List UInt8), kv = .int .i64 (k : Int) ∧ bv = .slice (some ⟨w.heap.size, 0, none⟩) bs.length cap ∧ k ≤ C.size ∧ Hid (bs = P.data.toList ++ List.replicate 3 39 ++ Pl.escL 3 (C.data.toList.take k)) ∧ Hid (OwnB w.heap.size cap bs wl) ∧ Hid (Below w.heap.size w wl)) (fun _ kv _ => C.size - (intOf kv).toNat)
          case atStart => exact ⟨0, bs, rfl, rfl, by omega, by show bs = _; rw [HE.out]; simp [Pl.escL], hown.out, hbel.out⟩
          case round =>
            clear HE hl1 hown hbel hk hk2 hk3
            obtain ⟨k, bs, rfl, rfl, hk, hbs, hown, hbel⟩ := hrel
            have hle : bs.length ≤ P.size + 3 + 2 * k := by
              have h1 := Pl.escL_length 3 (C.data.toList.take k)
              have h2 := List.length_take_le k C.data.toList
              rw [hbs.out]
              simp only [List.length_append, List.length_replicate]
              simp only [Array.length_toList, ByteArray.size_data]
              omega
            by_cases hk2 : k < C.size
            case pos =>
              have hk3 : (k : Int) < (C.size : Int) := by omega
              have HT : Hid (C.data.toList.take (k + 1) = C.data.toList.take k ++ [C[k]]) := take_snocB C k hk2
              skip
              have HE : Hid (bs ++ [C[k]] = P.data.toList ++ List.replicate 3 39 ++ Pl.escL 3 (C.data.toList.take (k + 1))) := by show bs ++ [C[k]] = _; rw [HT.out, Pl.escL_append, ← List.append_assoc, ← hbs.out]; simp [Pl.escL, Pl.escB]
              go_wp2_with (at_builtin; refine wp_app1 wr rfl (.tmp 178) (.tmp 180) rfl w.heap.size cap bs C[k] _ rfl rfl rfl hown.out (by omega) ?_; intro w1 hown1 hbel1)
              exact ⟨⟨k + 1, bs ++ [C[k]], by go_num, by simp, by omega, HE.out, hown1, hbel.out.trans hbel1⟩, by simp [intOf]; omega⟩
            case neg =>
              have hk3 : (C.size : Int) ≤ (k : Int) := by omega
              have HE : Hid (bs = P.data.toList ++ List.replicate 3 39 ++ Pl.escL 3 C.data.toList) := by show bs = _; rw [hbs.out, List.take_of_length_le (by simp; omega)]
              have hl1 : bs.length ≤ P.size + 3 + 2 * C.size := by omega
              clear hbs hle
              go_wp2
              go_loopw [13, 18] (fun bv kv wl => ∃ (k : Nat) (bs : List UInt8), kv = .int .i64 (k : Int) ∧ bv = .slice (some ⟨w.heap.size, 0, none⟩) bs.length cap ∧ k ≤ 3 ∧ Hid (bs = P.data.toList ++ List.replicate 3 39 ++ Pl.escL 3 C.data.toList ++ List.replicate k 39) ∧ Hid (OwnB w.heap.size cap bs wl) ∧ Hid (Below w.heap.size w wl)) (fun _ kv _ => 3 - (intOf kv).toNat)
              case atStart => exact ⟨0, bs, rfl, rfl, by omega, by show bs = _; rw [HE.out]; simp, hown.out, hbel.out⟩
              case round =>
                have HLC : Hid ((P.data.toList ++ List.replicate 3 39 ++ Pl.escL 3 C.data.toList).length ≤ P.size + 3 + 2 * C.size) := by rw [← HE.out]; exact hl1
                clear HE hl1 hown hbel hk hk2 hk3
                obtain ⟨k, bs4, rfl, rfl, hk, hbs, hown, hbel⟩ := hrel
                have hle : bs4.length ≤ P.size + 3 + 2 * C.size + k := by
                  have h1 := HLC.out
                  rw [hbs.out, List.length_append, List.length_replicate]
                  omega
                by_cases hk2 : k < 3
                case pos =>
                  have hk3 : (k : Int) < 3 := by omega
                  have HE : Hid (bs4 ++ [39] = P.data.toList ++ List.replicate 3 39 ++ Pl.escL 3 C.data.toList ++ List.replicate (k + 1) 39) := by show bs4 ++ [39] = _; rw [hbs.out, List.replicate_succ' (n := k)]; simp only [List.append_assoc]
                  go_wp2_with (at_builtin; refine wp_app1 wr rfl (.tmp 187) (.tmp 189) rfl w.heap.size cap bs4 39 _ rfl rfl rfl hown.out (by omega) ?_; intro w1 hown1 hbel1)
                  exact ⟨⟨k + 1, bs4 ++ [39], by go_num, by simp, by omega, HE.out, hown1, hbel.out.trans hbel1⟩, by simp [intOf]; omega⟩
                case neg =>
                  have hk3 : (3 : Int) ≤ (k : Int) := by omega
                  have HE : Hid (bs4 = P.data.toList ++ List.replicate 3 39 ++ Pl.escL 3 C.data.toList ++ List.replicate 3 39) := by show bs4 = _; rw [hbs.out, show k = 3 by omega]
                  have hl1 : bs4.length ≤ P.size + 3 + 2 * C.size + 3 := by omega
                  clear hbs hle HLC
                  have HE4 := HE
                  go_wp2
                  go_loopw [13, 20] (fun bv kv wl => ∃ (k : Nat) (bs : List UInt8), kv = .int .i64 (k : Int) ∧ bv = .slice (some ⟨w.heap.size, 0, none⟩) bs.length cap ∧ k ≤ R.size ∧ Hid (bs = P.data.toList ++ List.replicate 3 39 ++ Pl.escL 3 C.data.toList ++ List.replicate 3 39 ++ R.data.toList.take k) ∧ Hid (OwnB w.heap.size cap bs wl) ∧ Hid (Below w.heap.size w wl)) (fun _ kv _ => R.size - (intOf kv).toNat)
                  case atStart => exact ⟨0, bs4, rfl, rfl, by omega, by show bs4 = _; rw [HE.out]; simp, hown.out, hbel.out⟩
                  case round =>
                    clear hown hbel hk hk2 hk3
                    obtain ⟨k, bs, rfl, rfl, hk, hbs, hown, hbel⟩ := hrel
                    have hle : bs.length ≤ P.size + 3 + 2 * C.size + 3 + k := by
                      have h1 := hl1
                      have h2 := List.length_take_le k R.data.toList
                      rw [hbs.out, List.length_append, ← HE.out]
                      omega
                    by_cases hk2 : k < R.size
                    case pos =>
                      have hk3 : (k : Int) < (R.size : Int) := by omega
                      have HX : Hid (bs ++ [R[k]] = P.data.toList ++ List.replicate 3 39 ++ Pl.escL 3 C.data.toList ++ List.replicate 3 39 ++ R.data.toList.take (k + 1)) := by show bs ++ [R[k]] = _; rw [take_snocB R k hk2, hbs.out]; simp only [List.append_assoc]
                      go_wp2_with (at_builtin; refine wp_app1 wr rfl (.tmp 199) (.tmp 203) rfl w.heap.size cap bs R[k] _ rfl rfl rfl hown.out (by omega) ?_; intro w1 hown1 hbel1)
                      exact ⟨⟨k + 1, bs ++ [R[k]], by go_num, by simp, by omega, HX.out, hown1, hbel.out.trans hbel1⟩, by simp [intOf]; omega⟩
                    case neg =>
                      have hk3 : (R.size : Int) ≤ (k : Int) := by omega
                      have HX : Hid (bs = Pl.wrote P.data.toList 39 3 (Pl.escL 3 C.data.toList) R.data.toList) := by
                        show bs = _
                        rw [hbs.out, List.take_of_length_le (by simp; omega)]
                        unfold Pl.wrote
                        simp only [List.append_assoc]
                      have HL4 : Hid (bs4.length = P.data.toList.length + 3 + (Pl.escL 3 C.data.toList).length + 3) := by show bs4.length = _; rw [HE.out]; simp only [List.length_append, List.length_replicate]
                      have hcv := hown.out.string
                      have hle2 : bs.length ≤ 4194304 := by omega
                      clear hbs hle HE hl1
                      go_wp2_with fail
                      have hgt : (⟨bs.toArray⟩ : ByteArray).data.toList = bs := by simp
                      have hgs : (⟨bs.toArray⟩ : ByteArray).size = bs.length := by simp [ByteArray.size]
                      have hPl : P.data.toList.length = P.size := by simp
                      have hsk : Pl.Skip bs 39 P.size (P.size + 3 + (Pl.escL 3 C.data.toList).length + 3) := by rw [HX.out, ← hPl]; exact Pl.skip_form3 _ _ _ HLAW.out H3.out
                      have hbl : bs.length = P.size + 3 + (Pl.escL 3 C.data.toList).length + 3 + R.size := by rw [HX.out, Pl.wrote_length, hPl]; simp
                      have hq0 : bs[P.size]? = some 39 := by rw [HX.out, ← hPl]; exact Pl.gd (s := 39 :: 39 :: (Pl.escL 3 C.data.toList ++ (39 :: 39 :: 39 :: R.data.toList))) (by rw [Pl.wrote_drop]; rfl)
                      refine (zz_skip ⟨bs.toArray⟩ 39 (by decide) P.size _ (by rw [hgs, hbl]; omega) (by rw [hgs]; exact hle2) (by rw [hgt]; exact hq0)).mono ?_
                      rintro e w9 ⟨kk, rfl, hsk9, hb9⟩
                      rw [hgt] at hsk9
                      have hkk : kk = bs4.length := by rw [HL4.out, hPl]; exact hsk9.uniq hsk
                      subst hkk
                      have HBF : Hid (Below w.heap.size w w9) := hbel.out.trans (hb9.mono hbel.out.size)
                      clear hsk9 hsk hb9 hbl hq0 hgt hgs hcv HL4 HX
                      go_wp2
                      go_ret
                      exact ⟨rfl, HBF.out⟩

end Go.Proofs.Qxb6600556a
