/-
  THE WALK OF FnStandsForPrefixRemoval.
-/
import Derived.Test.Qxb6618117aRemove
namespace Go.Proofs.Qxb6618117a
open Go.RowKit

set_option maxRecDepth 100000 in
set_option maxHeartbeats 3200000 in
theorem law_pre (n1 c1 n2 c2 n3 c3 : Nat) (a1 a2 a3 : Option Addr) (S1 S2 S3 : Nat → ByteArray) (t nm : ByteArray) (kk : Int) (w : World) (hnm : nm.size ≤ maxLen) (hA : Args w n1 n2 n3 a1 a2 a3 S1 S2 S3) (cap1 : n1 ≤ c1) (cap2 : n2 ≤ c2) (cap3 : n3 ≤ c3) :
    Calls Try.prog 4 #[.string t, .slice a1 n1 c1, .slice a2 n2 c2, .slice a3 n3 c3, .string nm, .int .i64 kk] w fun e w' => e = .returned (.bool true) ∧ Below w.heap.size w w' := by
  have H : Hid (Args w n1 n2 n3 a1 a2 a3 S1 S2 S3) := hA
  have CP : Hid (n1 ≤ c1 ∧ n2 ≤ c2 ∧ n3 ≤ c3) := ⟨cap1, cap2, cap3⟩
  clear hA cap1 cap2 cap3
  have hne := fun (w : World) (a : Option Addr) (n c : Nat) => run_neq_slice_nil_any (P := Try.prog) w 22 9 a n c 0 0 Try.underlying22
  go_enter Try.func4, Try.ntmps4
  go_wp2_with fail
  refine (bytesPre_any w.heap.size n1 c1 n2 c2 n3 c3 a1 a2 a3 S1 S2 S3 t nm kk w H.out.l1 H.out.l2 H.out.l3 H.out.r1 H.out.r2 H.out.r3).mono ?_
  rintro e w' ⟨⟨bb, rfl, hb⟩, hw⟩
  obtain rfl : w = w' := hw.symm
  clear hw
  cases bb with
  | false =>
    clear hb
    go_wp2_with fail
    go_returns
    exact ⟨rfl, Below.refl _ _⟩
  | true =>
    obtain ⟨m1, m2, m3⟩ := hb rfl
    clear hb
    go_wp2_with fail
    refine (fits_any w.heap.size n1 c1 n2 c2 n3 c3 a1 a2 a3 S1 S2 S3 t nm _ w H.out.l1 H.out.l2 H.out.l3 H.out.r1 H.out.r2 H.out.r3).mono ?_
    rintro e w' ⟨⟨bf, rfl⟩, hw⟩
    obtain rfl : w = w' := hw.symm
    clear hw
    cases bf with
    | false =>
      go_wp2_with fail
      go_returns
      exact ⟨rfl, Below.refl _ _⟩
    | true =>
      by_cases hk0 : kk < 0
      · go_wp2_with fail
        go_returns
        exact ⟨rfl, Below.refl _ _⟩
      by_cases hk1 : (n3 : Int) ≤ kk
      · go_wp2_with fail
        go_returns
        exact ⟨rfl, Below.refl _ _⟩
      obtain ⟨k, rfl⟩ := Int.eq_ofNat_of_zero_le (show 0 ≤ kk by omega)
      have hk : k < n3 := by omega
      clear hk0 hk1
      go_wp2_with fail
      refine (ascending_any w.heap.size n2 c2 a2 S2 w H.out.l2 H.out.r2).mono ?_
      rintro e w' ⟨⟨ba, rfl, ha⟩, q1, rfl⟩
      cases ba with
      | false =>
        clear ha
        go_wp2_with fail
        go_returns
        exact ⟨rfl, below_drewN' _ _ _⟩
      | true =>
        have A2 : Hid (AscN S2 n2) := ascN_of (ha rfl)
        clear ha
        go_wp2_with fail
        refine (antichain_any w.heap.size n3 c3 a3 S3 (w.drewN q1) H.out.l3 (H.out.r3.below (below_drewN' _ _ _)) H.out.z3).mono ?_
        rintro e w' ⟨⟨bp, rfl, hp⟩, q2, rfl⟩
        cases bp with
        | false =>
          clear hp
          go_wp2_with fail
          go_returns
          exact ⟨rfl, below_drewN' _ _ _⟩
        | true =>
          have A3 : Hid (AscN S3 n3 ∧ ∀ i, i + 1 < n3 → preB (S3 i) (S3 (i + 1)) = false) := ⟨ascN_of (hp rfl).1, (hp rfl).2⟩
          clear hp
          go_upto_if 55 with fail
          obtain ⟨wd, hwd⟩ : ∃ wd, w.drewN (q1 + q2) = wd := ⟨_, rfl⟩
          have D0 : Hid (Below w.heap.size w wd ∧ wd.heap.size = w.heap.size) := by rw [← hwd]; exact ⟨below_drewN' _ _ _, rfl⟩
          rw [hwd]
          clear hwd
          go_cut [1] (fun s wc => Held wd wc n1 S1 s)
          case first =>
            have r1 : RowB wd.heap.size wd a1 n1 (fun i => .string (S1 i)) := by rw [D0.out.2]; exact H.out.r1.below D0.out.1
            have R1 : Hid (RowB wd.heap.size wd a1 n1 (fun i => .string (S1 i)) ∧ n1 ≤ c1) := ⟨r1, CP.out.1⟩
            clear r1
            cases a1 with
            | none =>
              go_wp2_with fail
              go_meet
              case rel => exact ⟨none, c1, rfl, R1.out.2, R1.out.1, Below.refl _ _⟩
            | some ad =>
              obtain ⟨i0, hi0, hz0, hz1, hz2⟩ := info_parts Try.info9
              go_wp2_with (first
                | (at_make; refine wpList_make_full _ rfl _ _ 22 rfl wd.heap.size 9 i0 (.string ByteArray.empty) 1 Try.underlying22 hi0 hz0 hz1 _ _ _ _ n1 rfl rfl rfl rfl (by rw [hz2]; omega) (by unfold maxLen; omega) (Nat.le_refl _) ?_; intro w1 hown1 hgrow1; obtain ⟨cur, HC⟩ := made_row hown1; have HG := grown_below hgrow1; clear hown1 hgrow1)
                | (refine wpList_copy_splice rfl (.tmp 59) (.tmp 60) 22 22 rfl 9 Try.underlying22 Try.size9 _ _ _ _ _ _ rfl rfl wd.heap.size 0 cur 9 HC.out.1 (strCells n1 S1) (by rw [strCells_len]; exact (Nat.min_self _).symm) (fun h0 => ⟨rfl, strCells_src (R1.out.1.below HG) h0⟩) (by rw [strCells_len, HC.out.2]; omega) (strCells_one _ _) wd.heap.size wd HG (Nat.le_refl _) ?_; intro w2 hg2 hb2))
              have F : Hid (Held wd w2 n1 S1 (.slice (some ⟨wd.heap.size, 0, none⟩) n1 n1)) := held_copy HC.out.2 hg2.out hb2
              go_meet
              case rel => exact F.out
          case rest =>
            obtain ⟨e1, k1, rfl, -, -, bel1⟩ := hcut
            have DD : Hid (Below w.heap.size w wc) := D0.out.1.trans (bel1.mono (Nat.le_of_eq D0.out.2.symm))
            clear bel1
            have sz1 : w.heap.size ≤ wc.heap.size := DD.out.size
            go_upto_if 64 with fail
            go_cut [2] (fun s wn => Held wc wn n2 S2 s)
            case first =>
              have R1 : Hid (RowB wc.heap.size wc a2 n2 (fun i => .string (S2 i)) ∧ n2 ≤ c2) := ⟨(H.out.r2.below DD.out).mono DD.out.size, CP.out.2.1⟩
              cases a2 with
              | none =>
                go_wp2_with fail
                go_meet
                case rel => exact ⟨none, c2, rfl, R1.out.2, R1.out.1, Below.refl _ _⟩
              | some ad =>
                obtain ⟨i0, hi0, hz0, hz1, hz2⟩ := info_parts Try.info9
                go_wp2_with (first
                  | (at_make; refine wpList_make_full _ rfl _ _ 22 rfl wc.heap.size 9 i0 (.string ByteArray.empty) 1 Try.underlying22 hi0 hz0 hz1 _ _ _ _ n2 rfl rfl rfl rfl (by rw [hz2]; omega) (by unfold maxLen; omega) (Nat.le_refl _) ?_; intro w1 hown1 hgrow1; obtain ⟨cur, HC⟩ := made_row hown1; have HG := grown_below hgrow1; clear hown1 hgrow1)
                  | (refine wpList_copy_splice rfl (.tmp 68) (.tmp 69) 22 22 rfl 9 Try.underlying22 Try.size9 _ _ _ _ _ _ rfl rfl wc.heap.size 0 cur 9 HC.out.1 (strCells n2 S2) (by rw [strCells_len]; exact (Nat.min_self _).symm) (fun h0 => ⟨rfl, strCells_src (R1.out.1.below HG) h0⟩) (by rw [strCells_len, HC.out.2]; omega) (strCells_one _ _) wc.heap.size wc HG (Nat.le_refl _) ?_; intro w2 hg2 hb2))
                have F : Hid (Held wc w2 n2 S2 (.slice (some ⟨wc.heap.size, 0, none⟩) n2 n2)) := held_copy HC.out.2 hg2.out hb2
                go_meet
                case rel => exact F.out
            case rest =>
              obtain ⟨e2, k2, rfl, kk2, row2, bel2⟩ := hcut
              have DE : Hid (Below w.heap.size w wc) := DD.out.trans (bel2.mono DD.out.size)
              have N2 : Hid (RowB wc.heap.size wc e2 n2 (fun i => .string (S2 i)) ∧ n2 ≤ k2) := ⟨row2, kk2⟩
              clear DD bel2 row2 kk2
              have DD := DE
              clear DE
              go_upto_if 73 with fail
              go_cut [3] (fun s wn => Held wc wn n3 S3 s)
              case first =>
                have R1 : Hid (RowB wc.heap.size wc a3 n3 (fun i => .string (S3 i)) ∧ n3 ≤ c3) := ⟨(H.out.r3.below DD.out).mono DD.out.size, CP.out.2.2⟩
                cases a3 with
                | none =>
                  go_wp2_with fail
                  go_meet
                  case rel => exact ⟨none, c3, rfl, R1.out.2, R1.out.1, Below.refl _ _⟩
                | some ad =>
                  obtain ⟨i0, hi0, hz0, hz1, hz2⟩ := info_parts Try.info9
                  go_wp2_with (first
                    | (at_make; refine wpList_make_full _ rfl _ _ 22 rfl wc.heap.size 9 i0 (.string ByteArray.empty) 1 Try.underlying22 hi0 hz0 hz1 _ _ _ _ n3 rfl rfl rfl rfl (by rw [hz2]; omega) (by unfold maxLen; omega) (Nat.le_refl _) ?_; intro w1 hown1 hgrow1; obtain ⟨cur, HC⟩ := made_row hown1; have HG := grown_below hgrow1; clear hown1 hgrow1)
                    | (refine wpList_copy_splice rfl (.tmp 77) (.tmp 78) 22 22 rfl 9 Try.underlying22 Try.size9 _ _ _ _ _ _ rfl rfl wc.heap.size 0 cur 9 HC.out.1 (strCells n3 S3) (by rw [strCells_len]; exact (Nat.min_self _).symm) (fun h0 => ⟨rfl, strCells_src (R1.out.1.below HG) h0⟩) (by rw [strCells_len, HC.out.2]; omega) (strCells_one _ _) wc.heap.size wc HG (Nat.le_refl _) ?_; intro w2 hg2 hb2))
                  have F : Hid (Held wc w2 n3 S3 (.slice (some ⟨wc.heap.size, 0, none⟩) n3 n3)) := held_copy HC.out.2 hg2.out hb2
                  go_meet
                  case rel => exact F.out
              case rest =>
                obtain ⟨e3, k3, rfl, kk3, row3, bel3⟩ := hcut
                have DE : Hid (Below w.heap.size w wc) := DD.out.trans (bel3.mono DD.out.size)
                have NN : Hid (RowB wc.heap.size wc e2 n2 (fun i => .string (S2 i)) ∧ n2 ≤ k2 ∧ RowB wc.heap.size wc e3 n3 (fun i => .string (S3 i)) ∧ n3 ≤ k3) := ⟨(N2.out.1.below bel3).mono bel3.size, N2.out.2, row3, kk3⟩
                clear DD bel3 row3 kk3 N2
                have DD := DE
                clear DE
                obtain ⟨b3, o3, rfl, _, hc3⟩ := NN.out.2.2.1 (by omega)
                have C3 : Hid (∀ i, i < n3 → wc.cell? ⟨b3, o3 + i, none⟩ = some (.string (S3 i))) := hc3
                clear hc3
                have gk := C3.out k hk
                have AN : Hid (Anti S3 n3) := A3.out
                obtain ⟨i0, hi0, hz0, hz1, hz2⟩ := info_parts Try.info9
                go_wp2_with (at_make; refine wpList_make_own _ rfl _ _ 22 rfl wc.heap.size 9 i0 (.string ByteArray.empty) 1 Try.underlying22 hi0 hz0 hz1 _ _ _ (n3 - 1) rfl rfl (by omega) (by rw [hz2]; omega) (by unfold maxLen; omega) (Nat.le_refl _) ?_; intro w1 hown1 hgrow1)
                have O1 : Hid (w1.ownsRow wc.heap.size 9 1 (.slice (some ⟨wc.heap.size, 0, none⟩) 0 (n3 - 1)) 0 (strCells 0 (rem S3 k)) ∧ Below wc.heap.size wc w1) := ⟨hown1, grown_below hgrow1⟩
                clear hown1 hgrow1 gk
                go_loopw [17, 18] (fun v iv wr => ∃ i m : Nat, i ≤ n3 ∧ (i ≤ k ∧ m = i ∨ k < i ∧ m + 1 = i) ∧ iv = .int .i64 i ∧ Hid (wr.ownsRow wc.heap.size 9 1 v m (strCells m (rem S3 k)) ∧ Below wc.heap.size wc wr)) (fun _ iv _ => n3 - (intOf iv).toNat)
                case atStart => exact ⟨0, 0, Nat.zero_le _, Or.inl ⟨Nat.zero_le _, rfl⟩, rfl, O1.out⟩
                case round =>
                  obtain ⟨i, m, hi, hm, rfl, hr⟩ := hrel
                  have HM : Hid (i ≤ k ∧ m = i ∨ k < i ∧ m + 1 = i) := hm
                  have hmi : m ≤ i := by omega
                  have sw : wc.heap.size ≤ wr.heap.size := hr.out.2.size
                  clear hm
                  by_cases hlt : i < n3
                  · have gi := (hr.out.2.cell (p := ⟨b3, o3 + i, none⟩) (World.block_lt_of_cell? wc _ (C3.out i hlt))).trans (C3.out i hlt)
                    by_cases hik : i = k
                    · have hik' : ((i : Int) != (k : Int)) = false := by simp; omega
                      have HK : Hid (i = k) := hik
                      clear hik
                      go_wp2_with fail
                      go_roundw
                      case rel => exact ⟨i + 1, m, by omega, by have := HM.out; have := HK.out; omega, by go_num, hr⟩
                      case measure => simp [intOf]; omega
                    · have hik' : ((i : Int) != (k : Int)) = true := by simp; omega
                      go_wp2_with (at_builtin; refine wpList_append_own _ rfl _ _ 22 rfl wc.heap.size 9 i0 (.string ByteArray.empty) 1 16 Try.underlying22 hi0 hz0 hz1 hz2 rfl (by decide) _ _ _ rfl (hr.out.1.alloc _) ⟨wr.heap.size, 0, none⟩ 1 1 [.string (S3 i)] rfl rfl (World.news_of_block (cs := #[.string (S3 i)]) (t := 9) (fr := (0, 0)) (heap_alloc_new wr _)) (by simp [Value.oneCell']) (by unfold maxLen; omega) (by omega) (by simp; omega) ?_; intro v' w2 hown2 hgrow2 _)
                      have R := own_step hr.out.1 hr.out.2 sw hown2 hgrow2 (rem_at HM.out hik)
                      clear hown2 hgrow2
                      go_roundw
                      case rel => exact ⟨i + 1, m + 1, by omega, by have := HM.out; omega, by go_num, R⟩
                      case measure => simp [intOf]; omega
                  · obtain rfl : n3 - 1 = m := by have := HM.out; omega
                    obtain ⟨aw, cw, rfl, roww⟩ := row_of_owned hr.out.1
                    have DW : Hid (Below w.heap.size w wr) := DD.out.trans (hr.out.2.mono DD.out.size)
                    have LB : Hid (Lists wr.heap.size wr e2 n2 (some ⟨b3, o3, none⟩) n3 S2 S3 ∧ Lists wr.heap.size wr e2 n2 aw (n3 - 1) S2 (rem S3 k)) :=
                      ⟨⟨by omega, by omega, (NN.out.1.below hr.out.2).mono sw, (NN.out.2.2.1.below hr.out.2).mono sw, A2.out, AN.out.1⟩, ⟨by omega, by omega, (NN.out.1.below hr.out.2).mono sw, roww, A2.out, (rem_anti AN.out).1⟩⟩
                    clear roww hr
                    go_wp2_with fail
                    refine (zzStands_any n1 k1 n2 k2 n3 k3 e1 e2 (some ⟨b3, o3, none⟩) S2 S3 t nm wr LB.out.1).mono ?_
                    rintro e w5 ⟨⟨bb, rfl, hbb⟩, bel5⟩
                    have P5 : Hid ((bb = true ↔ Mem S2 n2 nm ∨ Hit S3 n3 nm) ∧ Below wr.heap.size wr w5) := ⟨hbb, bel5⟩
                    have sz5 : wr.heap.size ≤ w5.heap.size := bel5.size
                    clear hbb bel5
                    go_wp2_with fail
                    refine (zzStands_any n1 k1 n2 k2 (n3 - 1) cw e1 e2 aw S2 (rem S3 k) t nm w5 (LB.out.2.to P5.out.2)).mono ?_
                    rintro e w6 ⟨⟨ba, rfl, hba⟩, bel6⟩
                    have P6 : Hid ((ba = true ↔ Mem S2 n2 nm ∨ Hit (rem S3 k) (n3 - 1) nm) ∧ Below wr.heap.size wr w6) := ⟨hba, P5.out.2.trans (bel6.mono sz5)⟩
                    have sz6 : wr.heap.size ≤ w6.heap.size := P6.out.2.size
                    clear hba bel6
                    go_wp2_with fail
                    refine (zzStands_any n1 k1 n2 k2 n3 k3 e1 e2 (some ⟨b3, o3, none⟩) S2 S3 t (S3 k) w6 (LB.out.1.to P6.out.2)).mono ?_
                    rintro e w7 ⟨⟨bp, rfl, hbp⟩, bel7⟩
                    have hbp1 : bp = true := hbp.2 (Or.inr (at_self AN.out hk).1)
                    subst hbp1
                    have P7 : Hid (Below wr.heap.size wr w7) := P6.out.2.trans (bel7.mono sz6)
                    have sz7 : wr.heap.size ≤ w7.heap.size := P7.out.size
                    clear hbp bel7
                    go_wp2_with fail
                    refine (zzStands_any n1 k1 n2 k2 (n3 - 1) cw e1 e2 aw S2 (rem S3 k) t (S3 k) w7 (LB.out.2.to P7.out)).mono ?_
                    rintro e w8 ⟨⟨bw, rfl, hbw⟩, bel8⟩
                    have P8 : Hid ((bw = true ↔ Mem S2 n2 (S3 k)) ∧ Below wr.heap.size wr w8) := ⟨hbw.trans ⟨fun h => h.elim id (fun h => absurd h (at_self AN.out hk).2), Or.inl⟩, P7.out.trans (bel8.mono sz7)⟩
                    have sz8 : wr.heap.size ≤ w8.heap.size := P8.out.2.size
                    clear hbw bel8
                    go_wp2_with fail
                    refine (member_any wr.heap.size n2 k2 e2 S2 (S3 k) w8 (by unfold maxLen; omega) (LB.out.1.r2.below P8.out.2)).mono ?_
                    rintro e w' ⟨⟨bm, rfl, hbm⟩, hw⟩
                    obtain rfl : w8 = w' := hw.symm
                    clear hw
                    have hbe : bm = bw := by rw [Bool.eq_iff_iff, P8.out.1]; exact hbm
                    subst hbe
                    clear hbm
                    have DF : Hid (Below w.heap.size w w8) := DW.out.trans (P8.out.2.mono DW.out.size)
                    cases ba with
                    | true =>
                      have hbb1 : bb = true := P5.out.1.2 ((P6.out.1.1 rfl).elim Or.inl (fun h => Or.inr ((at_name AN.out hk).2 (Or.inl h))))
                      subst hbb1
                      go_wp2_with fail
                      go_returns
                      exact ⟨by simp, DF.out⟩
                    | false =>
                      have hbb1 : bb = preB (S3 k) nm := by
                        rw [Bool.eq_iff_iff, P5.out.1, at_name AN.out hk]
                        constructor
                        · rintro (h | h | h)
                          · exact absurd (P6.out.1.2 (Or.inl h)) (by simp)
                          · exact absurd (P6.out.1.2 (Or.inr h)) (by simp)
                          · exact h
                        · exact fun h => Or.inr (Or.inr h)
                      subst hbb1
                      go_wp2_with fail
                      refine (hasPrefix_val nm (S3 k) w8 hnm).mono ?_
                      rintro e w9 ⟨rfl, q9, rfl⟩
                      go_wp2_with fail
                      go_returns
                      exact ⟨by simp, DF.out.trans (below_drewN' _ _ _)⟩

end Go.Proofs.Qxb6618117a
