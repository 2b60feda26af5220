/-
  THE WALK OF FnPendingLayoutsOneStepAtATime.
-/
import Derived.Test.Qxb6619174aFmtCopy
namespace Go.Proofs.Qxb6619174aFmt
open Go.RowKit Go.Extern.Stop Go.Stop Go.Extern

set_option maxRecDepth 100000 in
set_option maxHeartbeats 3200000 in
theorem law_one (F : Interp) (n c : Nat) (a : Option Addr) (S : Nat → ByteArray) (v : Int) (w : World) (hF : F.answers w.tape) (hn : n ≤ maxLen) (hc : n ≤ c) (h1 : RowB w.heap.size w a n fun i => .string (S i)) :
    Calls Tryf.prog 3 #[.slice a n c, .int .i64 v] w fun e w' => e = .returned (.bool true) ∧ Below w.heap.size w w' := by
  have HF : Hid (F.answers w.tape) := hF
  have H : Hid (RowB w.heap.size w a n (fun i => .string (S i)) ∧ n ≤ c) := ⟨h1, hc⟩
  clear hF h1 hc
  have hne := fun (w : World) (a : Option Addr) (n c : Nat) => run_neq_slice_nil_any (P := Tryf.prog) w 22 9 a n c 0 0 Tryf.underlying22
  have heq := fun (w : World) (a : Option Addr) (n c : Nat) => Lib.run_eql_slice_nil (P := Tryf.prog) w 22 9 a n c 0 0 Tryf.underlying22
  go_enter Tryf.func3, Tryf.ntmps3
  go_wp2_with fail
  refine (bytesOne_any w.heap.size n c a S v w hn H.out.1).mono ?_
  rintro e w' ⟨⟨bb, rfl, hb⟩, hw⟩
  obtain rfl : w = w' := hw.symm
  clear hw
  cases bb with
  | false =>
    clear hb
    go_wp2_with fail
    go_returns
    exact ⟨rfl, Below.refl _ _⟩
  | true =>
    have m1 := hb rfl
    clear hb
    by_cases hbig : 65536 < n
    · go_wp2_with fail
      go_returns
      exact ⟨rfl, Below.refl _ _⟩
    go_upto_if 23 with fail
    go_cut [0] (fun s wc => Held w wc n S s)
    case first =>
      cases a with
      | none =>
        go_wp2_with fail
        go_meet
        case rel => exact ⟨none, c, rfl, H.out.2, H.out.1, Below.refl _ _⟩
      | some ad =>
        obtain ⟨i0, hi0, hz0, hz1, hz2⟩ := info_parts Tryf.info9
        go_wp2_with (first
          | (at_make; refine wpList_make_full _ rfl _ _ 22 rfl w.heap.size 9 i0 (.string ByteArray.empty) 1 Tryf.underlying22 hi0 hz0 hz1 _ _ _ _ n rfl rfl rfl rfl (by rw [hz2]; omega) (by unfold maxLen; omega) (Nat.le_refl _) ?_; intro w1 hown1 hgrow1; obtain ⟨cur, HC⟩ := made_row hown1; have HG := grown_below hgrow1; clear hown1 hgrow1)
          | (refine wpList_copy_splice rfl (.tmp 27) (.tmp 28) 22 22 rfl 9 Tryf.underlying22 Tryf.size9 _ _ _ _ _ _ rfl rfl w.heap.size 0 cur 9 HC.out.1 (strCells n S) (by rw [strCells_len]; exact (Nat.min_self _).symm) (fun h0 => ⟨rfl, strCells_src (H.out.1.below HG) h0⟩) (by rw [strCells_len, HC.out.2]; omega) (strCells_one _ _) w.heap.size w HG (Nat.le_refl _) ?_; intro w2 hg2 hb2))
        have FF : Hid (Held w w2 n S (.slice (some ⟨w.heap.size, 0, none⟩) n n)) := held_copy HC.out.2 hg2.out hb2
        go_meet
        case rel => exact FF.out
    case rest =>
      obtain ⟨e1, k1, rfl, kk, row, bel⟩ := hcut
      have R : Hid (RowB wc.heap.size wc e1 n (fun i => .string (S i)) ∧ n ≤ k1 ∧ Below w.heap.size w wc) := ⟨row, kk, bel⟩
      have HC : Hid (F.answers wc.tape) := by rw [bel.tape]; exact HF.out
      clear row kk bel H HF
      have sz1 : w.heap.size ≤ wc.heap.size := R.out.2.2.size
      go_wp2_with fail
      go_loop [6, 7] (fun t i => ∃ (k : Nat) (t' : Int), k ≤ n ∧ i = .int .i64 k ∧ t = .int .i64 t') (fun _ i => n - (intOf i).toNat)
      case atStart => exact ⟨0, _, Nat.zero_le _, rfl, rfl⟩
      case round =>
        obtain ⟨k, t', hk, rfl, rfl⟩ := hrel
        by_cases hlt : k < n
        · obtain ⟨b, off, rfl, _, hc⟩ := R.out.1 (by omega)
          have g1 := hc k hlt
          clear hc
          go_wp2
          any_goals (go_returns; exact ⟨rfl, R.out.2.2⟩)
          go_round
          case rel => exact ⟨k + 1, _, by omega, by go_num, rfl⟩
          case measure => simp [intOf]; omega
        · by_cases hv : v < 0 ∨ (n : Int) < v
          · go_wp2_with fail
            refine (pend_no F e1 n k1 v wc HC.out hv).mono ?_
            rintro e w2 ⟨⟨x, rfl⟩, bel2⟩
            by_cases hv0 : v < 0
            · go_wp2_with fail
              go_returns
              exact ⟨rfl, R.out.2.2.trans (bel2.mono sz1)⟩
            · have hv1 : (n : Int) < v := by omega
              go_wp2_with fail
              go_returns
              exact ⟨rfl, R.out.2.2.trans (bel2.mono sz1)⟩
          · obtain ⟨q, rfl⟩ := Int.eq_ofNat_of_zero_le (show 0 ≤ v by omega)
            have hk : q ≤ n := by omega
            clear hv
            go_wp2_with fail
            refine (pend_yes wc.heap.size e1 n k1 q q _ wc rfl hk (by omega) R.out.2.1 R.out.1).mono ?_
            rintro e w' ⟨⟨a2, c2, rfl, row2⟩, hw⟩
            obtain rfl : wc = w' := hw.symm
            clear hw
            have R2 : Hid (RowB wc.heap.size wc a2 (n - q) (fun i => .string (S (q + i)))) := row2
            clear row2
            have hl : (((n - q : Nat) : Int) != (n : Int) - q) = false := by simp; omega
            go_wp2_with fail
            go_loopw [11] (fun i wr => ∃ (j m : Nat), j ≤ n - q ∧ i = .int .i64 j ∧ Hid (wr = wc.drewN m)) (fun i _ => n - q - (intOf i).toNat)
            case atStart => exact ⟨0, 0, Nat.zero_le _, rfl, rfl⟩
            case round =>
              obtain ⟨j, m, hj, rfl, HW⟩ := hrel
              by_cases hlt2 : j < n - q
              · obtain ⟨b, off, rfl, _, hc⟩ := R.out.1 (by omega)
                obtain ⟨b2, off2, rfl, _, hc2⟩ := R2.out (by omega)
                have g1 : wr.cell? ⟨b2, off2 + j, none⟩ = some (.string (S (q + j))) := by rw [HW.out]; exact hc2 j hlt2
                have g2 : wr.cell? ⟨b, off + (q + j), none⟩ = some (.string (S (q + j))) := by rw [HW.out]; exact hc (q + j) (by omega)
                clear hc hc2
                have i4 : IntKind.i64.wrap (j : Int) = (j : Int) := IntWalk.i64_in _ (by omega)
                have i5 : IntKind.i64.wrap ((q : Int) + (j : Int)) = (q : Int) + (j : Int) := IntWalk.i64_in _ (by omega)
                have i6 : (q : Int) + j < n := by omega
                go_wp2_with fail
                go_quiet (fail)
                go_wp2_with fail
                go_roundw
                case rel => exact ⟨j + 1, m + nq, by omega, by go_num, show _ = _ from by rw [HW.out]; simp⟩
                case measure => simp [intOf]; omega
              · obtain ⟨wo, hwo⟩ : ∃ wo, wo = wr := ⟨_, rfl⟩
                subst hwo
                have DW : Hid (Below w.heap.size w wo) := R.out.2.2.trans (by rw [HW.out]; exact below_drewN' _ _ _)
                have HR : Hid (F.answers wo.tape) := by rw [HW.out]; exact HC.out
                have RR : Hid (RowB wc.heap.size wo e1 n (fun i => .string (S i)) ∧ RowB wc.heap.size wo a2 (n - q) (fun i => .string (S (q + i)))) := by
                  rw [HW.out]
                  exact ⟨R.out.1.below (below_drewN' _ _ _), R2.out.below (below_drewN' _ _ _)⟩
                have sw : w.heap.size ≤ wo.heap.size := DW.out.size
                have KK : Hid (n ≤ k1) := R.out.2.1
                clear HW R R2 HC
                by_cases hq : q = n
                · subst hq
                  go_wp2_with fail
                  refine (pend_no F e1 q k1 _ wo HR.out (Or.inr (by omega))).mono ?_
                  rintro e w2 ⟨⟨x, rfl⟩, bel2⟩
                  go_wp2_with fail
                  go_returns
                  exact ⟨rfl, DW.out.trans (bel2.mono sw)⟩
                · have hq' : ((q : Int) == (n : Int)) = false := by simp; omega
                  go_wp2_with fail
                  refine (pend_yes wc.heap.size e1 n k1 (q + 1) _ _ wo (by push_cast; rfl) (by omega) (by omega) KK.out RR.out.1).mono ?_
                  rintro e w' ⟨⟨a3, c3, rfl, row3⟩, hw⟩
                  obtain rfl : wo = w' := hw.symm
                  clear hw
                  have R3 : Hid (RowB wc.heap.size wo a3 (n - (q + 1)) (fun i => .string (S (q + 1 + i)))) := row3
                  clear row3
                  have hl3 : (((n - (q + 1) : Nat) : Int) != ((n - q : Nat) : Int) - 1) = false := by simp; omega
                  go_wp2_with fail
                  go_loopw [14] (fun i ws => ∃ (j m : Nat), j ≤ n - (q + 1) ∧ i = .int .i64 j ∧ Hid (ws = wo.drewN m)) (fun i _ => n - (q + 1) - (intOf i).toNat)
                  case atStart => exact ⟨0, 0, Nat.zero_le _, rfl, rfl⟩
                  case round =>
                    obtain ⟨i, m', hi, rfl, HS⟩ := hrel
                    by_cases hlt3 : i < n - (q + 1)
                    · obtain ⟨b, off, rfl, _, hc⟩ := RR.out.2 (by omega)
                      obtain ⟨b2, off2, rfl, _, hc2⟩ := R3.out (by omega)
                      have g1 : wr.cell? ⟨b2, off2 + i, none⟩ = some (.string (S (q + 1 + i))) := by rw [HS.out]; exact hc2 i hlt3
                      have g2 : wr.cell? ⟨b, off + (i + 1), none⟩ = some (.string (S (q + 1 + i))) := by
                        rw [HS.out]
                        have h : wo.cell? ⟨b, off + (i + 1), none⟩ = some (.string (S (q + (i + 1)))) := hc (i + 1) (by omega)
                        rw [show q + (i + 1) = q + 1 + i by omega] at h
                        exact h
                      clear hc hc2
                      have i4 : IntKind.i64.wrap (i : Int) = (i : Int) := IntWalk.i64_in _ (by omega)
                      have i5 : IntKind.i64.wrap ((i : Int) + 1) = (i : Int) + 1 := IntWalk.i64_in _ (by omega)
                      have i6 : (i : Int) + 1 < ((n - q : Nat) : Int) := by omega
                      go_wp2_with fail
                      go_quiet (fail)
                      go_wp2_with fail
                      go_roundw
                      case rel => exact ⟨i + 1, m' + nq, by omega, by go_num, show _ = _ from by rw [HS.out]; simp⟩
                      case measure => simp [intOf]; omega
                    · have DS : Hid (Below w.heap.size w wr) := DW.out.trans (by rw [HS.out]; exact below_drewN' _ _ _)
                      go_wp2_with fail
                      go_returns
                      exact ⟨rfl, DS.out⟩

end Go.Proofs.Qxb6619174aFmt
