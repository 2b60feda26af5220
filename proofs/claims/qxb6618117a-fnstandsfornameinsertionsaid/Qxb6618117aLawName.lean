/-
  THE WALK OF FnStandsForNameInsertion.
-/
import Derived.Test.Qxb6618117aInsert
namespace Go.Proofs.Qxb6618117a
open Go.RowKit

set_option maxRecDepth 100000 in
set_option maxHeartbeats 3200000 in
theorem law_name (n1 c1 n2 c2 n3 c3 : Nat) (a1 a2 a3 : Option Addr) (S1 S2 S3 : Nat → ByteArray) (t nm x : ByteArray) (w : World) (hA : Args w n1 n2 n3 a1 a2 a3 S1 S2 S3) (cap1 : n1 ≤ c1) (cap2 : n2 ≤ c2) (cap3 : n3 ≤ c3) :
    Calls Try.prog 3 #[.string t, .slice a1 n1 c1, .slice a2 n2 c2, .slice a3 n3 c3, .string nm, .string x] w fun e w' => e = .returned (.bool true) ∧ Below w.heap.size w w' := by
  have H : Hid (Args w n1 n2 n3 a1 a2 a3 S1 S2 S3) := hA
  have CP : Hid (n1 ≤ c1 ∧ n2 ≤ c2 ∧ n3 ≤ c3) := ⟨cap1, cap2, cap3⟩
  clear hA cap1 cap2 cap3
  have hne := fun (w : World) (a : Option Addr) (n c : Nat) => run_neq_slice_nil_any (P := Try.prog) w 22 9 a n c 0 0 Try.underlying22
  go_enter Try.func3, Try.ntmps3
  go_wp2_with fail
  refine (bytesName_any w.heap.size n1 c1 n2 c2 n3 c3 a1 a2 a3 S1 S2 S3 t nm x w H.out.l1 H.out.l2 H.out.l3 H.out.r1 H.out.r2 H.out.r3).mono ?_
  rintro e w' ⟨⟨bb, rfl, hb⟩, hw⟩
  obtain rfl : w = w' := hw.symm
  clear hw
  cases bb with
  | false =>
    clear hb
    go_wp2_with fail
    go_returns
    exact ⟨rfl, Below.refl _ _⟩
  | true =>
    obtain ⟨m1, m2, m3⟩ := hb rfl
    clear hb
    go_wp2_with fail
    refine (fits_any w.heap.size n1 c1 n2 c2 n3 c3 a1 a2 a3 S1 S2 S3 t nm x w H.out.l1 H.out.l2 H.out.l3 H.out.r1 H.out.r2 H.out.r3).mono ?_
    rintro e w' ⟨⟨bf, rfl⟩, hw⟩
    obtain rfl : w = w' := hw.symm
    clear hw
    cases bf with
    | false =>
      go_wp2_with fail
      go_returns
      exact ⟨rfl, Below.refl _ _⟩
    | true =>
      go_wp2_with fail
      refine (ascending_any w.heap.size n2 c2 a2 S2 w H.out.l2 H.out.r2).mono ?_
      rintro e w' ⟨⟨ba, rfl, ha⟩, q1, rfl⟩
      cases ba with
      | false =>
        clear ha
        go_wp2_with fail
        go_returns
        exact ⟨rfl, below_drewN' _ _ _⟩
      | true =>
        have A2 : Hid (AscN S2 n2) := ascN_of (ha rfl)
        clear ha
        go_wp2_with fail
        refine (antichain_any w.heap.size n3 c3 a3 S3 (w.drewN q1) H.out.l3 (H.out.r3.below (below_drewN' _ _ _)) H.out.z3).mono ?_
        rintro e w' ⟨⟨bp, rfl, hp⟩, q2, rfl⟩
        cases bp with
        | false =>
          clear hp
          go_wp2_with fail
          go_returns
          exact ⟨rfl, below_drewN' _ _ _⟩
        | true =>
          have A3 : Hid (AscN S3 n3 ∧ ∀ i, i + 1 < n3 → preB (S3 i) (S3 (i + 1)) = false) := ⟨ascN_of (hp rfl).1, (hp rfl).2⟩
          clear hp
          go_upto_if 48 with fail
          obtain ⟨wd, hwd⟩ : ∃ wd, w.drewN (q1 + q2) = wd := ⟨_, rfl⟩
          have D0 : Hid (Below w.heap.size w wd ∧ wd.heap.size = w.heap.size) := by rw [← hwd]; exact ⟨below_drewN' _ _ _, rfl⟩
          rw [hwd]
          clear hwd
          go_cut [1] (fun s wc => Held wd wc n1 S1 s)
          case first =>
            have r1 : RowB wd.heap.size wd a1 n1 (fun i => .string (S1 i)) := by rw [D0.out.2]; exact H.out.r1.below D0.out.1
            have R1 : Hid (RowB wd.heap.size wd a1 n1 (fun i => .string (S1 i)) ∧ n1 ≤ c1) := ⟨r1, CP.out.1⟩
            clear r1
            cases a1 with
            | none =>
              go_wp2_with fail
              go_meet
              case rel => exact ⟨none, c1, rfl, R1.out.2, R1.out.1, Below.refl _ _⟩
            | some ad =>
              obtain ⟨i0, hi0, hz0, hz1, hz2⟩ := info_parts Try.info9
              go_wp2_with (first
                | (at_make; refine wpList_make_full _ rfl _ _ 22 rfl wd.heap.size 9 i0 (.string ByteArray.empty) 1 Try.underlying22 hi0 hz0 hz1 _ _ _ _ n1 rfl rfl rfl rfl (by rw [hz2]; omega) (by unfold maxLen; omega) (Nat.le_refl _) ?_; intro w1 hown1 hgrow1; obtain ⟨cur, HC⟩ := made_row hown1; have HG := grown_below hgrow1; clear hown1 hgrow1)
                | (refine wpList_copy_splice rfl (.tmp 52) (.tmp 53) 22 22 rfl 9 Try.underlying22 Try.size9 _ _ _ _ _ _ rfl rfl wd.heap.size 0 cur 9 HC.out.1 (strCells n1 S1) (by rw [strCells_len]; exact (Nat.min_self _).symm) (fun h0 => ⟨rfl, strCells_src (R1.out.1.below HG) h0⟩) (by rw [strCells_len, HC.out.2]; omega) (strCells_one _ _) wd.heap.size wd HG (Nat.le_refl _) ?_; intro w2 hg2 hb2))
              have F : Hid (Held wd w2 n1 S1 (.slice (some ⟨wd.heap.size, 0, none⟩) n1 n1)) := held_copy HC.out.2 hg2.out hb2
              go_meet
              case rel => exact F.out
          case rest =>
            obtain ⟨e1, k1, rfl, -, -, bel1⟩ := hcut
            have DD : Hid (Below w.heap.size w wc) := D0.out.1.trans (bel1.mono (Nat.le_of_eq D0.out.2.symm))
            clear bel1
            have sz1 : w.heap.size ≤ wc.heap.size := DD.out.size
            go_upto_if 57 with fail
            go_cut [2] (fun s wn => Held wc wn n2 S2 s)
            case first =>
              have R1 : Hid (RowB wc.heap.size wc a2 n2 (fun i => .string (S2 i)) ∧ n2 ≤ c2) := ⟨(H.out.r2.below DD.out).mono DD.out.size, CP.out.2.1⟩
              cases a2 with
              | none =>
                go_wp2_with fail
                go_meet
                case rel => exact ⟨none, c2, rfl, R1.out.2, R1.out.1, Below.refl _ _⟩
              | some ad =>
                obtain ⟨i0, hi0, hz0, hz1, hz2⟩ := info_parts Try.info9
                go_wp2_with (first
                  | (at_make; refine wpList_make_full _ rfl _ _ 22 rfl wc.heap.size 9 i0 (.string ByteArray.empty) 1 Try.underlying22 hi0 hz0 hz1 _ _ _ _ n2 rfl rfl rfl rfl (by rw [hz2]; omega) (by unfold maxLen; omega) (Nat.le_refl _) ?_; intro w1 hown1 hgrow1; obtain ⟨cur, HC⟩ := made_row hown1; have HG := grown_below hgrow1; clear hown1 hgrow1)
                  | (refine wpList_copy_splice rfl (.tmp 61) (.tmp 62) 22 22 rfl 9 Try.underlying22 Try.size9 _ _ _ _ _ _ rfl rfl wc.heap.size 0 cur 9 HC.out.1 (strCells n2 S2) (by rw [strCells_len]; exact (Nat.min_self _).symm) (fun h0 => ⟨rfl, strCells_src (R1.out.1.below HG) h0⟩) (by rw [strCells_len, HC.out.2]; omega) (strCells_one _ _) wc.heap.size wc HG (Nat.le_refl _) ?_; intro w2 hg2 hb2))
                have F : Hid (Held wc w2 n2 S2 (.slice (some ⟨wc.heap.size, 0, none⟩) n2 n2)) := held_copy HC.out.2 hg2.out hb2
                go_meet
                case rel => exact F.out
            case rest =>
              obtain ⟨e2, k2, rfl, kk2, row2, bel2⟩ := hcut
              have DE : Hid (Below w.heap.size w wc) := DD.out.trans (bel2.mono DD.out.size)
              have N2 : Hid (RowB wc.heap.size wc e2 n2 (fun i => .string (S2 i)) ∧ n2 ≤ k2) := ⟨row2, kk2⟩
              clear DD bel2 row2 kk2
              have DD := DE
              clear DE
              go_upto_if 66 with fail
              go_cut [3] (fun s wn => Held wc wn n3 S3 s)
              case first =>
                have R1 : Hid (RowB wc.heap.size wc a3 n3 (fun i => .string (S3 i)) ∧ n3 ≤ c3) := ⟨(H.out.r3.below DD.out).mono DD.out.size, CP.out.2.2⟩
                cases a3 with
                | none =>
                  go_wp2_with fail
                  go_meet
                  case rel => exact ⟨none, c3, rfl, R1.out.2, R1.out.1, Below.refl _ _⟩
                | some ad =>
                  obtain ⟨i0, hi0, hz0, hz1, hz2⟩ := info_parts Try.info9
                  go_wp2_with (first
                    | (at_make; refine wpList_make_full _ rfl _ _ 22 rfl wc.heap.size 9 i0 (.string ByteArray.empty) 1 Try.underlying22 hi0 hz0 hz1 _ _ _ _ n3 rfl rfl rfl rfl (by rw [hz2]; omega) (by unfold maxLen; omega) (Nat.le_refl _) ?_; intro w1 hown1 hgrow1; obtain ⟨cur, HC⟩ := made_row hown1; have HG := grown_below hgrow1; clear hown1 hgrow1)
                    | (refine wpList_copy_splice rfl (.tmp 70) (.tmp 71) 22 22 rfl 9 Try.underlying22 Try.size9 _ _ _ _ _ _ rfl rfl wc.heap.size 0 cur 9 HC.out.1 (strCells n3 S3) (by rw [strCells_len]; exact (Nat.min_self _).symm) (fun h0 => ⟨rfl, strCells_src (R1.out.1.below HG) h0⟩) (by rw [strCells_len, HC.out.2]; omega) (strCells_one _ _) wc.heap.size wc HG (Nat.le_refl _) ?_; intro w2 hg2 hb2))
                  have F : Hid (Held wc w2 n3 S3 (.slice (some ⟨wc.heap.size, 0, none⟩) n3 n3)) := held_copy HC.out.2 hg2.out hb2
                  go_meet
                  case rel => exact F.out
              case rest =>
                obtain ⟨e3, k3, rfl, kk3, row3, bel3⟩ := hcut
                have DE : Hid (Below w.heap.size w wc) := DD.out.trans (bel3.mono DD.out.size)
                have NN : Hid (RowB wc.heap.size wc e2 n2 (fun i => .string (S2 i)) ∧ n2 ≤ k2 ∧ RowB wc.heap.size wc e3 n3 (fun i => .string (S3 i)) ∧ n3 ≤ k3) := ⟨(N2.out.1.below bel3).mono bel3.size, N2.out.2, row3, kk3⟩
                clear DD bel3 row3 kk3 N2
                have DD := DE
                clear DE
                go_wp2_with fail
                have LL : Hid (Lists wc.heap.size wc e2 n2 e3 n3 S2 S3) := ⟨by omega, by omega, NN.out.1, NN.out.2.2.1, A2.out, A3.out.1⟩
                by_cases hpos : 0 < n2
                · obtain ⟨b2, o2, rfl, _, hc2⟩ := NN.out.1 hpos
                  have C2 : Hid (∀ i, i < n2 → wc.cell? ⟨b2, o2 + i, none⟩ = some (.string (S2 i))) := hc2
                  clear hc2
                  go_loop [16] (fun s => ∃ j : Nat, j ≤ n2 ∧ s = .int .i64 j ∧ Hid (∀ i, i < j → lt (S2 i) x = true)) (fun s => n2 - (intOf s).toNat)
                  case atStart => exact ⟨0, Nat.zero_le _, rfl, fun i hi => absurd hi (by omega)⟩
                  case round =>
                    obtain ⟨j, hj, rfl, hlow⟩ := hrel
                    by_cases hlt : j < n2
                    · have gj := C2.out j hlt
                      cases hl : lt (S2 j) x with
                      | true =>
                        have hl' : Op.bytesLess (S2 j).toList x.toList = true := hl
                        have R := low_up A2.out hlt hl
                        clear hl
                        go_wp2_with fail
                        go_round
                        case rel => exact ⟨j + 1, by omega, by go_num, R⟩
                        case measure => simp [intOf]; omega
                      | false =>
                        have hl' : Op.bytesLess (S2 j).toList x.toList = false := hl
                        by_cases hx : S2 j = x
                        · have hx' : ((S2 j).toList == x.toList) = true := by rw [hx]; simp
                          have HM : Hid (Mem S2 n2 x) := ⟨j, hlt, hx⟩
                          clear hl hx
                          go_wp2_with fail
                          refine (zzStands_any n1 k1 n2 k2 n3 k3 e1 (some ⟨b2, o2, none⟩) e3 S2 S3 t nm wc LL.out).mono ?_
                          rintro e w5 ⟨⟨bb, rfl, hbb⟩, bel5⟩
                          have P5 : Hid ((bb = true ↔ Mem S2 n2 nm ∨ Hit S3 n3 nm) ∧ Below wc.heap.size wc w5) := ⟨hbb, bel5⟩
                          have sz5 : wc.heap.size ≤ w5.heap.size := bel5.size
                          clear hbb bel5
                          go_wp2_with fail
                          refine (zzStands_any n1 k1 n2 k2 n3 k3 e1 (some ⟨b2, o2, none⟩) e3 S2 S3 t nm w5 ⟨LL.out.b2, LL.out.b3, (LL.out.r2.below P5.out.2).mono sz5, (LL.out.r3.below P5.out.2).mono sz5, A2.out, A3.out.1⟩).mono ?_
                          rintro e w6 ⟨⟨ba, rfl, hba⟩, bel6⟩
                          have P6 : Hid ((ba = true ↔ Mem S2 n2 nm ∨ Hit S3 n3 nm) ∧ Below wc.heap.size wc w6) := ⟨hba, P5.out.2.trans (bel6.mono sz5)⟩
                          have sz6 : wc.heap.size ≤ w6.heap.size := P6.out.2.size
                          clear hba bel6
                          go_wp2_with fail
                          refine (zzStands_any n1 k1 n2 k2 n3 k3 e1 (some ⟨b2, o2, none⟩) e3 S2 S3 t x w6 ⟨LL.out.b2, LL.out.b3, (LL.out.r2.below P6.out.2).mono sz6, (LL.out.r3.below P6.out.2).mono sz6, A2.out, A3.out.1⟩).mono ?_
                          rintro e w7 ⟨⟨bx, rfl, hbx⟩, bel7⟩
                          have hbx1 : bx = true := hbx.2 (Or.inl HM.out)
                          subst hbx1
                          have DF : Hid (Below w.heap.size w w7) := DD.out.trans ((P6.out.2.trans (bel7.mono sz6)).mono DD.out.size)
                          clear hbx bel7
                          cases bb with
                          | true =>
                            have hba1 : ba = true := P6.out.1.2 (P5.out.1.1 rfl)
                            subst hba1
                            go_wp2_with fail
                            go_returns
                            exact ⟨rfl, DF.out⟩
                          | false =>
                            have hba1 : ba = false := by
                              cases hb : ba with
                              | false => rfl
                              | true => exact absurd (P5.out.1.2 (P6.out.1.1 hb)) (by simp)
                            have hnx' : (nm.toList == x.toList) = false := by
                              cases hb : (nm.toList == x.toList) with
                              | false => rfl
                              | true =>
                                have e := str_eq hb
                                rw [← e] at HM
                                exact absurd (P5.out.1.2 (Or.inl HM.out)) (by simp)
                            subst hba1
                            go_wp2_with fail
                            go_returns
                            exact ⟨rfl, DF.out⟩
                        · have hx' : ((S2 j).toList == x.toList) = false := by
                            cases hb : ((S2 j).toList == x.toList) with
                            | false => rfl
                            | true => exact absurd (str_eq hb) hx
                          have HI : Hid (AscN (ins S2 j x) (n2 + 1)) := ins_asc A2.out hj hlow.out (fun _ => ⟨hl, hx⟩)
                          clear hl hx
                          obtain ⟨i0, hi0, hz0, hz1, hz2⟩ := info_parts Try.info9
                          go_wp2_with (at_make; refine wpList_make_own _ rfl _ _ 22 rfl wc.heap.size 9 i0 (.string ByteArray.empty) 1 Try.underlying22 hi0 hz0 hz1 _ _ _ (n2 + 1) rfl rfl (by omega) (by rw [hz2]; omega) (by unfold maxLen; omega) (Nat.le_refl _) ?_; intro w1 hown1 hgrow1)
                          have O1 : Hid (w1.ownsRow wc.heap.size 9 1 (.slice (some ⟨wc.heap.size, 0, none⟩) 0 (n2 + 1)) 0 (strCells 0 (ins S2 j x)) ∧ Below wc.heap.size wc w1) := ⟨hown1, grown_below hgrow1⟩
                          clear hown1 hgrow1
                          go_loopw [17, 18] (fun v i wr => ∃ k : Nat, k ≤ j ∧ i = .int .i64 k ∧ Hid (wr.ownsRow wc.heap.size 9 1 v k (strCells k (ins S2 j x)) ∧ Below wc.heap.size wc wr)) (fun _ i _ => j - (intOf i).toNat)
                          case atStart => exact ⟨0, Nat.zero_le _, rfl, O1.out⟩
                          case round =>
                            obtain ⟨k, hk, rfl, hr⟩ := hrel
                            have sw : wc.heap.size ≤ wr.heap.size := hr.out.2.size
                            by_cases hlt : k < j
                            · have gk := (hr.out.2.cell (p := ⟨b2, o2 + k, none⟩) (World.block_lt_of_cell? wc _ (C2.out k (by omega)))).trans (C2.out k (by omega))
                              go_wp2_with (at_builtin; refine wpList_append_own _ rfl _ _ 22 rfl wc.heap.size 9 i0 (.string ByteArray.empty) 1 16 Try.underlying22 hi0 hz0 hz1 hz2 rfl (by decide) _ _ _ rfl (hr.out.1.alloc _) ⟨wr.heap.size, 0, none⟩ 1 1 [.string (S2 k)] rfl rfl (World.news_of_block (cs := #[.string (S2 k)]) (t := 9) (fr := (0, 0)) (heap_alloc_new wr _)) (by simp [Value.oneCell']) (by unfold maxLen; omega) (by omega) (by simp; omega) ?_; intro v' w2 hown2 hgrow2 _)
                              have R := own_step hr.out.1 hr.out.2 sw hown2 hgrow2 (ins_low (S := S2) (x := x) hlt)
                              clear hown2 hgrow2
                              go_roundw
                              case rel => exact ⟨k + 1, by omega, by go_num, R⟩
                              case measure => simp [intOf]; omega
                            · go_wp2_with (at_builtin; refine wpList_append_own _ rfl _ _ 22 rfl wc.heap.size 9 i0 (.string ByteArray.empty) 1 16 Try.underlying22 hi0 hz0 hz1 hz2 rfl (by decide) _ _ _ rfl (hr.out.1.alloc _) ⟨wr.heap.size, 0, none⟩ 1 1 [.string x] rfl rfl (World.news_of_block (cs := #[.string x]) (t := 9) (fr := (0, 0)) (heap_alloc_new wr _)) (by simp [Value.oneCell']) (by unfold maxLen; omega) (by omega) (by simp; omega) ?_; intro v' w2 hown2 hgrow2 _)
                              have R := own_step hr.out.1 hr.out.2 sw hown2 hgrow2 (by rw [show k = j by omega]; exact ins_at _ _ _)
                              have O2 : Hid (w2.ownsRow wc.heap.size 9 1 v' (k + 1) (strCells (k + 1) (ins S2 j x)) ∧ Below wc.heap.size wc w2) := R
                              clear hown2 hgrow2 R
                              go_loopw [17, 19] (fun v i wr => ∃ m : Nat, j ≤ m ∧ m ≤ n2 ∧ i = .int .i64 m ∧ Hid (wr.ownsRow wc.heap.size 9 1 v (m + 1) (strCells (m + 1) (ins S2 j x)) ∧ Below wc.heap.size wc wr)) (fun _ i _ => n2 - (intOf i).toNat)
                              case atStart => exact ⟨j, Nat.le_refl _, hj, by first | rfl | go_num, by rw [show k = j by omega] at O2; exact O2⟩
                              case round =>
                                obtain ⟨m, hm1, hm2, rfl, hr2⟩ := hrel
                                have sw2 : wc.heap.size ≤ wr.heap.size := hr2.out.2.size
                                by_cases hlt2 : m < n2
                                · have gk := (hr2.out.2.cell (p := ⟨b2, o2 + m, none⟩) (World.block_lt_of_cell? wc _ (C2.out m (by omega)))).trans (C2.out m (by omega))
                                  go_wp2_with (at_builtin; refine wpList_append_own _ rfl _ _ 22 rfl wc.heap.size 9 i0 (.string ByteArray.empty) 1 16 Try.underlying22 hi0 hz0 hz1 hz2 rfl (by decide) _ _ _ rfl (hr2.out.1.alloc _) ⟨wr.heap.size, 0, none⟩ 1 1 [.string (S2 m)] rfl rfl (World.news_of_block (cs := #[.string (S2 m)]) (t := 9) (fr := (0, 0)) (heap_alloc_new wr _)) (by simp [Value.oneCell']) (by unfold maxLen; omega) (by omega) (by simp; omega) ?_; intro v' w3 hown3 hgrow3 _)
                                  have R := own_step hr2.out.1 hr2.out.2 sw2 hown3 hgrow3 (ins_high (S := S2) (x := x) hm1)
                                  clear hown3 hgrow3
                                  go_roundw
                                  case rel => exact ⟨m + 1, by omega, by omega, by go_num, R⟩
                                  case measure => simp [intOf]; omega
                                · obtain rfl : n2 = m := by omega
                                  obtain ⟨aw, cw, rfl, roww⟩ := row_of_owned hr2.out.1
                                  have DW : Hid (Below w.heap.size w wr) := DD.out.trans (hr2.out.2.mono DD.out.size)
                                  have LB : Hid (Lists wr.heap.size wr (some ⟨b2, o2, none⟩) n2 e3 n3 S2 S3 ∧ RowB wr.heap.size wr aw (n2 + 1) (fun i => .string (ins S2 j x i))) := ⟨⟨by omega, by omega, (NN.out.1.below hr2.out.2).mono sw2, (NN.out.2.2.1.below hr2.out.2).mono sw2, A2.out, A3.out.1⟩, roww⟩
                                  clear roww hr2
                                  go_wp2_with fail
                                  refine (zzStands_any n1 k1 n2 k2 n3 k3 e1 (some ⟨b2, o2, none⟩) e3 S2 S3 t nm wr LB.out.1).mono ?_
                                  rintro e w5 ⟨⟨bb, rfl, hbb⟩, bel5⟩
                                  have P5 : Hid ((bb = true ↔ Mem S2 n2 nm ∨ Hit S3 n3 nm) ∧ Below wr.heap.size wr w5) := ⟨hbb, bel5⟩
                                  have sz5 : wr.heap.size ≤ w5.heap.size := bel5.size
                                  clear hbb bel5
                                  go_wp2_with fail
                                  refine (zzStands_any n1 k1 (n2 + 1) cw n3 k3 e1 aw e3 (ins S2 j x) S3 t nm w5 ⟨by omega, by omega, (LB.out.2.below P5.out.2).mono sz5, (LB.out.1.r3.below P5.out.2).mono sz5, HI.out, A3.out.1⟩).mono ?_
                                  rintro e w6 ⟨⟨ba, rfl, hba⟩, bel6⟩
                                  have P6 : Hid ((ba = true ↔ Mem (ins S2 j x) (n2 + 1) nm ∨ Hit S3 n3 nm) ∧ Below wr.heap.size wr w6) := ⟨hba, P5.out.2.trans (bel6.mono sz5)⟩
                                  have sz6 : wr.heap.size ≤ w6.heap.size := P6.out.2.size
                                  clear hba bel6
                                  go_wp2_with fail
                                  refine (zzStands_any n1 k1 (n2 + 1) cw n3 k3 e1 aw e3 (ins S2 j x) S3 t x w6 ⟨by omega, by omega, (LB.out.2.below P6.out.2).mono sz6, (LB.out.1.r3.below P6.out.2).mono sz6, HI.out, A3.out.1⟩).mono ?_
                                  rintro e w7 ⟨⟨bx, rfl, hbx⟩, bel7⟩
                                  have hbx1 : bx = true := hbx.2 (Or.inl ((ins_mem hj).2 (Or.inr rfl)))
                                  subst hbx1
                                  have DF : Hid (Below w.heap.size w w7) := DW.out.trans ((P6.out.2.trans (bel7.mono sz6)).mono DW.out.size)
                                  clear hbx bel7
                                  cases bb with
                                  | true =>
                                    have hba1 : ba = true := P6.out.1.2 ((P5.out.1.1 rfl).elim (fun h => Or.inl ((ins_mem hj).2 (Or.inl h))) Or.inr)
                                    subst hba1
                                    go_wp2_with fail
                                    go_returns
                                    exact ⟨rfl, DF.out⟩
                                  | false =>
                                    by_cases hnx : nm = x
                                    · have hba1 : ba = true := P6.out.1.2 (Or.inl ((ins_mem hj).2 (Or.inr hnx)))
                                      have hnx' : (nm.toList == x.toList) = true := by rw [hnx]; simp
                                      subst hba1
                                      clear hnx
                                      go_wp2_with fail
                                      go_returns
                                      exact ⟨rfl, DF.out⟩
                                    · have hba1 : ba = false := by
                                        cases hb : ba with
                                        | false => rfl
                                        | true =>
                                          rcases P6.out.1.1 hb with h | h
                                          · rcases (ins_mem hj).1 h with h | h
                                            · exact absurd (P5.out.1.2 (Or.inl h)) (by simp)
                                            · exact absurd h hnx
                                          · exact absurd (P5.out.1.2 (Or.inr h)) (by simp)
                                      have hnx' : (nm.toList == x.toList) = false := by
                                        cases hb : (nm.toList == x.toList) with
                                        | false => rfl
                                        | true => exact absurd (str_eq hb) hnx
                                      subst hba1
                                      clear hnx
                                      go_wp2_with fail
                                      go_returns
                                      exact ⟨rfl, DF.out⟩
                    · have HI : Hid (AscN (ins S2 j x) (n2 + 1)) := ins_asc A2.out hj hlow.out (fun h => absurd h hlt)
                      obtain ⟨i0, hi0, hz0, hz1, hz2⟩ := info_parts Try.info9
                      go_wp2_with (at_make; refine wpList_make_own _ rfl _ _ 22 rfl wc.heap.size 9 i0 (.string ByteArray.empty) 1 Try.underlying22 hi0 hz0 hz1 _ _ _ (n2 + 1) rfl rfl (by omega) (by rw [hz2]; omega) (by unfold maxLen; omega) (Nat.le_refl _) ?_; intro w1 hown1 hgrow1)
                      have O1 : Hid (w1.ownsRow wc.heap.size 9 1 (.slice (some ⟨wc.heap.size, 0, none⟩) 0 (n2 + 1)) 0 (strCells 0 (ins S2 j x)) ∧ Below wc.heap.size wc w1) := ⟨hown1, grown_below hgrow1⟩
                      clear hown1 hgrow1
                      go_loopw [17, 18] (fun v i wr => ∃ k : Nat, k ≤ j ∧ i = .int .i64 k ∧ Hid (wr.ownsRow wc.heap.size 9 1 v k (strCells k (ins S2 j x)) ∧ Below wc.heap.size wc wr)) (fun _ i _ => j - (intOf i).toNat)
                      case atStart => exact ⟨0, Nat.zero_le _, rfl, O1.out⟩
                      case round =>
                        obtain ⟨k, hk, rfl, hr⟩ := hrel
                        have sw : wc.heap.size ≤ wr.heap.size := hr.out.2.size
                        by_cases hlt : k < j
                        · have gk := (hr.out.2.cell (p := ⟨b2, o2 + k, none⟩) (World.block_lt_of_cell? wc _ (C2.out k (by omega)))).trans (C2.out k (by omega))
                          go_wp2_with (at_builtin; refine wpList_append_own _ rfl _ _ 22 rfl wc.heap.size 9 i0 (.string ByteArray.empty) 1 16 Try.underlying22 hi0 hz0 hz1 hz2 rfl (by decide) _ _ _ rfl (hr.out.1.alloc _) ⟨wr.heap.size, 0, none⟩ 1 1 [.string (S2 k)] rfl rfl (World.news_of_block (cs := #[.string (S2 k)]) (t := 9) (fr := (0, 0)) (heap_alloc_new wr _)) (by simp [Value.oneCell']) (by unfold maxLen; omega) (by omega) (by simp; omega) ?_; intro v' w2 hown2 hgrow2 _)
                          have R := own_step hr.out.1 hr.out.2 sw hown2 hgrow2 (ins_low (S := S2) (x := x) hlt)
                          clear hown2 hgrow2
                          go_roundw
                          case rel => exact ⟨k + 1, by omega, by go_num, R⟩
                          case measure => simp [intOf]; omega
                        · go_wp2_with (at_builtin; refine wpList_append_own _ rfl _ _ 22 rfl wc.heap.size 9 i0 (.string ByteArray.empty) 1 16 Try.underlying22 hi0 hz0 hz1 hz2 rfl (by decide) _ _ _ rfl (hr.out.1.alloc _) ⟨wr.heap.size, 0, none⟩ 1 1 [.string x] rfl rfl (World.news_of_block (cs := #[.string x]) (t := 9) (fr := (0, 0)) (heap_alloc_new wr _)) (by simp [Value.oneCell']) (by unfold maxLen; omega) (by omega) (by simp; omega) ?_; intro v' w2 hown2 hgrow2 _)
                          have R := own_step hr.out.1 hr.out.2 sw hown2 hgrow2 (by rw [show k = j by omega]; exact ins_at _ _ _)
                          have O2 : Hid (w2.ownsRow wc.heap.size 9 1 v' (k + 1) (strCells (k + 1) (ins S2 j x)) ∧ Below wc.heap.size wc w2) := R
                          clear hown2 hgrow2 R
                          go_loopw [17, 19] (fun v i wr => ∃ m : Nat, j ≤ m ∧ m ≤ n2 ∧ i = .int .i64 m ∧ Hid (wr.ownsRow wc.heap.size 9 1 v (m + 1) (strCells (m + 1) (ins S2 j x)) ∧ Below wc.heap.size wc wr)) (fun _ i _ => n2 - (intOf i).toNat)
                          case atStart => exact ⟨j, Nat.le_refl _, hj, by first | rfl | go_num, by rw [show k = j by omega] at O2; exact O2⟩
                          case round =>
                            obtain ⟨m, hm1, hm2, rfl, hr2⟩ := hrel
                            have sw2 : wc.heap.size ≤ wr.heap.size := hr2.out.2.size
                            by_cases hlt2 : m < n2
                            · exact absurd hlt2 (by omega)
                            · obtain rfl : n2 = m := by omega
                              obtain ⟨aw, cw, rfl, roww⟩ := row_of_owned hr2.out.1
                              have DW : Hid (Below w.heap.size w wr) := DD.out.trans (hr2.out.2.mono DD.out.size)
                              have LB : Hid (Lists wr.heap.size wr (some ⟨b2, o2, none⟩) n2 e3 n3 S2 S3 ∧ RowB wr.heap.size wr aw (n2 + 1) (fun i => .string (ins S2 j x i))) := ⟨⟨by omega, by omega, (NN.out.1.below hr2.out.2).mono sw2, (NN.out.2.2.1.below hr2.out.2).mono sw2, A2.out, A3.out.1⟩, roww⟩
                              clear roww hr2
                              go_wp2_with fail
                              refine (zzStands_any n1 k1 n2 k2 n3 k3 e1 (some ⟨b2, o2, none⟩) e3 S2 S3 t nm wr LB.out.1).mono ?_
                              rintro e w5 ⟨⟨bb, rfl, hbb⟩, bel5⟩
                              have P5 : Hid ((bb = true ↔ Mem S2 n2 nm ∨ Hit S3 n3 nm) ∧ Below wr.heap.size wr w5) := ⟨hbb, bel5⟩
                              have sz5 : wr.heap.size ≤ w5.heap.size := bel5.size
                              clear hbb bel5
                              go_wp2_with fail
                              refine (zzStands_any n1 k1 (n2 + 1) cw n3 k3 e1 aw e3 (ins S2 j x) S3 t nm w5 ⟨by omega, by omega, (LB.out.2.below P5.out.2).mono sz5, (LB.out.1.r3.below P5.out.2).mono sz5, HI.out, A3.out.1⟩).mono ?_
                              rintro e w6 ⟨⟨ba, rfl, hba⟩, bel6⟩
                              have P6 : Hid ((ba = true ↔ Mem (ins S2 j x) (n2 + 1) nm ∨ Hit S3 n3 nm) ∧ Below wr.heap.size wr w6) := ⟨hba, P5.out.2.trans (bel6.mono sz5)⟩
                              have sz6 : wr.heap.size ≤ w6.heap.size := P6.out.2.size
                              clear hba bel6
                              go_wp2_with fail
                              refine (zzStands_any n1 k1 (n2 + 1) cw n3 k3 e1 aw e3 (ins S2 j x) S3 t x w6 ⟨by omega, by omega, (LB.out.2.below P6.out.2).mono sz6, (LB.out.1.r3.below P6.out.2).mono sz6, HI.out, A3.out.1⟩).mono ?_
                              rintro e w7 ⟨⟨bx, rfl, hbx⟩, bel7⟩
                              have hbx1 : bx = true := hbx.2 (Or.inl ((ins_mem hj).2 (Or.inr rfl)))
                              subst hbx1
                              have DF : Hid (Below w.heap.size w w7) := DW.out.trans ((P6.out.2.trans (bel7.mono sz6)).mono DW.out.size)
                              clear hbx bel7
                              cases bb with
                              | true =>
                                have hba1 : ba = true := P6.out.1.2 ((P5.out.1.1 rfl).elim (fun h => Or.inl ((ins_mem hj).2 (Or.inl h))) Or.inr)
                                subst hba1
                                go_wp2_with fail
                                go_returns
                                exact ⟨rfl, DF.out⟩
                              | false =>
                                by_cases hnx : nm = x
                                · have hba1 : ba = true := P6.out.1.2 (Or.inl ((ins_mem hj).2 (Or.inr hnx)))
                                  have hnx' : (nm.toList == x.toList) = true := by rw [hnx]; simp
                                  subst hba1
                                  clear hnx
                                  go_wp2_with fail
                                  go_returns
                                  exact ⟨rfl, DF.out⟩
                                · have hba1 : ba = false := by
                                    cases hb : ba with
                                    | false => rfl
                                    | true =>
                                      rcases P6.out.1.1 hb with h | h
                                      · rcases (ins_mem hj).1 h with h | h
                                        · exact absurd (P5.out.1.2 (Or.inl h)) (by simp)
                                        · exact absurd h hnx
                                      · exact absurd (P5.out.1.2 (Or.inr h)) (by simp)
                                  have hnx' : (nm.toList == x.toList) = false := by
                                    cases hb : (nm.toList == x.toList) with
                                    | false => rfl
                                    | true => exact absurd (str_eq hb) hnx
                                  subst hba1
                                  clear hnx
                                  go_wp2_with fail
                                  go_returns
                                  exact ⟨rfl, DF.out⟩
                · have hn0 : n2 ≤ 0 := by omega
                  go_loop [16] (fun s => ∃ j : Nat, j ≤ n2 ∧ s = .int .i64 j) (fun s => n2 - (intOf s).toNat)
                  case atStart => exact ⟨0, Nat.zero_le _, rfl⟩
                  case round =>
                    obtain ⟨j, hj, rfl⟩ := hrel
                    have HI : Hid (AscN (ins S2 j x) (n2 + 1)) := ins_asc A2.out hj (fun i hi => absurd hi (by omega)) (fun h => absurd h (by omega))
                    obtain ⟨i0, hi0, hz0, hz1, hz2⟩ := info_parts Try.info9
                    go_wp2_with (at_make; refine wpList_make_own _ rfl _ _ 22 rfl wc.heap.size 9 i0 (.string ByteArray.empty) 1 Try.underlying22 hi0 hz0 hz1 _ _ _ (n2 + 1) rfl rfl (by omega) (by rw [hz2]; omega) (by unfold maxLen; omega) (Nat.le_refl _) ?_; intro w1 hown1 hgrow1)
                    have O1 : Hid (w1.ownsRow wc.heap.size 9 1 (.slice (some ⟨wc.heap.size, 0, none⟩) 0 (n2 + 1)) 0 (strCells 0 (ins S2 j x)) ∧ Below wc.heap.size wc w1) := ⟨hown1, grown_below hgrow1⟩
                    clear hown1 hgrow1
                    go_loopw [17, 18] (fun v i wr => ∃ k : Nat, k ≤ j ∧ i = .int .i64 k ∧ Hid (wr.ownsRow wc.heap.size 9 1 v k (strCells k (ins S2 j x)) ∧ Below wc.heap.size wc wr)) (fun _ i _ => j - (intOf i).toNat)
                    case atStart => exact ⟨0, Nat.zero_le _, rfl, O1.out⟩
                    case round =>
                      obtain ⟨k, hk, rfl, hr⟩ := hrel
                      have sw : wc.heap.size ≤ wr.heap.size := hr.out.2.size
                      by_cases hlt : k < j
                      · exact absurd hlt (by omega)
                      · go_wp2_with (at_builtin; refine wpList_append_own _ rfl _ _ 22 rfl wc.heap.size 9 i0 (.string ByteArray.empty) 1 16 Try.underlying22 hi0 hz0 hz1 hz2 rfl (by decide) _ _ _ rfl (hr.out.1.alloc _) ⟨wr.heap.size, 0, none⟩ 1 1 [.string x] rfl rfl (World.news_of_block (cs := #[.string x]) (t := 9) (fr := (0, 0)) (heap_alloc_new wr _)) (by simp [Value.oneCell']) (by unfold maxLen; omega) (by omega) (by simp; omega) ?_; intro v' w2 hown2 hgrow2 _)
                        have R := own_step hr.out.1 hr.out.2 sw hown2 hgrow2 (by rw [show k = j by omega]; exact ins_at _ _ _)
                        have O2 : Hid (w2.ownsRow wc.heap.size 9 1 v' (k + 1) (strCells (k + 1) (ins S2 j x)) ∧ Below wc.heap.size wc w2) := R
                        clear hown2 hgrow2 R
                        go_loopw [17, 19] (fun v i wr => ∃ m : Nat, j ≤ m ∧ m ≤ n2 ∧ i = .int .i64 m ∧ Hid (wr.ownsRow wc.heap.size 9 1 v (m + 1) (strCells (m + 1) (ins S2 j x)) ∧ Below wc.heap.size wc wr)) (fun _ i _ => n2 - (intOf i).toNat)
                        case atStart => exact ⟨j, Nat.le_refl _, hj, by first | rfl | go_num, by rw [show k = j by omega] at O2; exact O2⟩
                        case round =>
                          obtain ⟨m, hm1, hm2, rfl, hr2⟩ := hrel
                          have sw2 : wc.heap.size ≤ wr.heap.size := hr2.out.2.size
                          by_cases hlt2 : m < n2
                          · exact absurd hlt2 (by omega)
                          · obtain rfl : n2 = m := by omega
                            obtain ⟨aw, cw, rfl, roww⟩ := row_of_owned hr2.out.1
                            have DW : Hid (Below w.heap.size w wr) := DD.out.trans (hr2.out.2.mono DD.out.size)
                            have LB : Hid (Lists wr.heap.size wr e2 n2 e3 n3 S2 S3 ∧ RowB wr.heap.size wr aw (n2 + 1) (fun i => .string (ins S2 j x i))) := ⟨⟨by omega, by omega, (NN.out.1.below hr2.out.2).mono sw2, (NN.out.2.2.1.below hr2.out.2).mono sw2, A2.out, A3.out.1⟩, roww⟩
                            clear roww hr2
                            go_wp2_with fail
                            refine (zzStands_any n1 k1 n2 k2 n3 k3 e1 e2 e3 S2 S3 t nm wr LB.out.1).mono ?_
                            rintro e w5 ⟨⟨bb, rfl, hbb⟩, bel5⟩
                            have P5 : Hid ((bb = true ↔ Mem S2 n2 nm ∨ Hit S3 n3 nm) ∧ Below wr.heap.size wr w5) := ⟨hbb, bel5⟩
                            have sz5 : wr.heap.size ≤ w5.heap.size := bel5.size
                            clear hbb bel5
                            go_wp2_with fail
                            refine (zzStands_any n1 k1 (n2 + 1) cw n3 k3 e1 aw e3 (ins S2 j x) S3 t nm w5 ⟨by omega, by omega, (LB.out.2.below P5.out.2).mono sz5, (LB.out.1.r3.below P5.out.2).mono sz5, HI.out, A3.out.1⟩).mono ?_
                            rintro e w6 ⟨⟨ba, rfl, hba⟩, bel6⟩
                            have P6 : Hid ((ba = true ↔ Mem (ins S2 j x) (n2 + 1) nm ∨ Hit S3 n3 nm) ∧ Below wr.heap.size wr w6) := ⟨hba, P5.out.2.trans (bel6.mono sz5)⟩
                            have sz6 : wr.heap.size ≤ w6.heap.size := P6.out.2.size
                            clear hba bel6
                            go_wp2_with fail
                            refine (zzStands_any n1 k1 (n2 + 1) cw n3 k3 e1 aw e3 (ins S2 j x) S3 t x w6 ⟨by omega, by omega, (LB.out.2.below P6.out.2).mono sz6, (LB.out.1.r3.below P6.out.2).mono sz6, HI.out, A3.out.1⟩).mono ?_
                            rintro e w7 ⟨⟨bx, rfl, hbx⟩, bel7⟩
                            have hbx1 : bx = true := hbx.2 (Or.inl ((ins_mem hj).2 (Or.inr rfl)))
                            subst hbx1
                            have DF : Hid (Below w.heap.size w w7) := DW.out.trans ((P6.out.2.trans (bel7.mono sz6)).mono DW.out.size)
                            clear hbx bel7
                            cases bb with
                            | true =>
                              have hba1 : ba = true := P6.out.1.2 ((P5.out.1.1 rfl).elim (fun h => Or.inl ((ins_mem hj).2 (Or.inl h))) Or.inr)
                              subst hba1
                              go_wp2_with fail
                              go_returns
                              exact ⟨rfl, DF.out⟩
                            | false =>
                              by_cases hnx : nm = x
                              · have hba1 : ba = true := P6.out.1.2 (Or.inl ((ins_mem hj).2 (Or.inr hnx)))
                                have hnx' : (nm.toList == x.toList) = true := by rw [hnx]; simp
                                subst hba1
                                clear hnx
                                go_wp2_with fail
                                go_returns
                                exact ⟨rfl, DF.out⟩
                              · have hba1 : ba = false := by
                                  cases hb : ba with
                                  | false => rfl
                                  | true =>
                                    rcases P6.out.1.1 hb with h | h
                                    · rcases (ins_mem hj).1 h with h | h
                                      · exact absurd (P5.out.1.2 (Or.inl h)) (by simp)
                                      · exact absurd h hnx
                                    · exact absurd (P5.out.1.2 (Or.inr h)) (by simp)
                                have hnx' : (nm.toList == x.toList) = false := by
                                  cases hb : (nm.toList == x.toList) with
                                  | false => rfl
                                  | true => exact absurd (str_eq hb) hnx
                                subst hba1
                                clear hnx
                                go_wp2_with fail
                                go_returns
                                exact ⟨rfl, DF.out⟩

end Go.Proofs.Qxb6618117a
