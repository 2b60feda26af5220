/-
  THE WALK OF FnPendingLayoutsLaterReleaseAppends.
-/
import Derived.Test.Qxb6619174aFmtCopy
namespace Go.Proofs.Qxb6619174aFmt
open Go.RowKit Go.Extern.Stop Go.Stop Go.Extern

/-- Two lists, one behind the other. -/
def join2 (S T : Nat → ByteArray) (n i : Nat) : ByteArray := if i < n then S i else T (i - n)
theorem join2_low {S T : Nat → ByteArray} {n i : Nat} (h : i < n) : join2 S T n i = S i := by simp [join2, h]
theorem join2_high (S T : Nat → ByteArray) (n i : Nat) : join2 S T n (n + i) = T i := by
  rw [join2, if_neg (by omega), Nat.add_sub_cancel_left]

theorem row_of_owned_cap {w : World} {base n : Nat} {v : Value} {f : Nat → ByteArray} (h : w.ownsRow base 9 1 v n (strCells n f)) : ∃ a c, v = .slice a n c ∧ n ≤ c ∧ RowB w.heap.size w a n (fun i => .string (f i)) := by
  obtain ⟨a, c, rfl, hr⟩ := row_of_owned h
  refine ⟨a, c, rfl, ?_, hr⟩
  rcases h.2 with ⟨h0, h1⟩ | ⟨g, cap, cur, hv, _, _, h1, _, _, _⟩
  · cases h0; omega
  · cases hv; exact h1

set_option maxRecDepth 100000 in
set_option maxHeartbeats 3200000 in
theorem law_later (F : Interp) (n c m d : Nat) (a a2 : Option Addr) (S T : Nat → ByteArray) (v : Int) (w : World) (hF : F.answers w.tape) (hn : n ≤ maxLen) (hm : m ≤ maxLen) (hc : n ≤ c) (hd : m ≤ d)
    (h1 : RowB w.heap.size w a n fun i => .string (S i)) (h2 : RowB w.heap.size w a2 m fun i => .string (T i)) :
    Calls Tryf.prog 4 #[.slice a n c, .slice a2 m d, .int .i64 v] w fun e w' => e = .returned (.bool true) ∧ Below w.heap.size w w' := by
  have HF : Hid (F.answers w.tape) := hF
  have H : Hid (RowB w.heap.size w a n (fun i => .string (S i)) ∧ n ≤ c ∧ RowB w.heap.size w a2 m (fun i => .string (T i)) ∧ m ≤ d) := ⟨h1, hc, h2, hd⟩
  clear hF h1 hc h2 hd
  have hne := fun (w : World) (a : Option Addr) (n c : Nat) => run_neq_slice_nil_any (P := Tryf.prog) w 22 9 a n c 0 0 Tryf.underlying22
  have heq := fun (w : World) (a : Option Addr) (n c : Nat) => Lib.run_eql_slice_nil (P := Tryf.prog) w 22 9 a n c 0 0 Tryf.underlying22
  go_enter Tryf.func4, Tryf.ntmps4
  go_wp2_with fail
  refine (bytesLater_any w.heap.size n c m d a a2 S T v w hn hm H.out.1 H.out.2.2.1).mono ?_
  rintro e w' ⟨⟨bb, rfl, hb⟩, hw⟩
  obtain rfl : w = w' := hw.symm
  clear hw
  cases bb with
  | false =>
    clear hb
    go_wp2_with fail
    go_returns
    exact ⟨rfl, Below.refl _ _⟩
  | true =>
    clear hb
    by_cases hbig : 65536 < n
    · go_wp2_with fail
      go_returns
      exact ⟨rfl, Below.refl _ _⟩
    by_cases hbig2 : 65536 < m
    · go_wp2_with fail
      go_returns
      exact ⟨rfl, Below.refl _ _⟩
    go_upto_if 37 with fail
    go_cut [0] (fun s wc => Held w wc n S s)
    case first =>
      cases a with
      | none =>
        go_wp2_with fail
        go_meet
        case rel => exact ⟨none, c, rfl, H.out.2.1, H.out.1, Below.refl _ _⟩
      | some ad =>
        obtain ⟨i0, hi0, hz0, hz1, hz2⟩ := info_parts Tryf.info9
        go_wp2_with (first
          | (at_make; refine wpList_make_full _ rfl _ _ 22 rfl w.heap.size 9 i0 (.string ByteArray.empty) 1 Tryf.underlying22 hi0 hz0 hz1 _ _ _ _ n rfl rfl rfl rfl (by rw [hz2]; omega) (by unfold maxLen; omega) (Nat.le_refl _) ?_; intro w1 hown1 hgrow1; obtain ⟨cur, HC⟩ := made_row hown1; have HG := grown_below hgrow1; clear hown1 hgrow1)
          | (refine wpList_copy_splice rfl (.tmp 41) (.tmp 42) 22 22 rfl 9 Tryf.underlying22 Tryf.size9 _ _ _ _ _ _ rfl rfl w.heap.size 0 cur 9 HC.out.1 (strCells n S) (by rw [strCells_len]; exact (Nat.min_self _).symm) (fun h0 => ⟨rfl, strCells_src (H.out.1.below HG) h0⟩) (by rw [strCells_len, HC.out.2]; omega) (strCells_one _ _) w.heap.size w HG (Nat.le_refl _) ?_; intro w2 hg2 hb2))
        have FF : Hid (Held w w2 n S (.slice (some ⟨w.heap.size, 0, none⟩) n n)) := held_copy HC.out.2 hg2.out hb2
        go_meet
        case rel => exact FF.out
    case rest =>
      obtain ⟨e1, k1, rfl, kk, row, bel⟩ := hcut
      have R : Hid (RowB wc.heap.size wc e1 n (fun i => .string (S i)) ∧ n ≤ k1 ∧ Below w.heap.size w wc ∧ RowB wc.heap.size wc a2 m (fun i => .string (T i))) := ⟨row, kk, bel, (H.out.2.2.1.below bel).mono bel.size⟩
      have HC : Hid (F.answers wc.tape) := by rw [bel.tape]; exact HF.out
      clear row kk bel H HF
      have sz1 : w.heap.size ≤ wc.heap.size := R.out.2.2.1.size
      go_wp2_with fail
      go_loop [8, 9] (fun t i => ∃ (k : Nat) (t' : Int), k ≤ n ∧ i = .int .i64 k ∧ t = .int .i64 t') (fun _ i => n - (intOf i).toNat)
      case atStart => exact ⟨0, _, Nat.zero_le _, rfl, rfl⟩
      case round =>
        obtain ⟨k, t', hk, rfl, rfl⟩ := hrel
        by_cases hlt : k < n
        · obtain ⟨b, off, rfl, _, hc⟩ := R.out.1 (by omega)
          have g1 := hc k hlt
          clear hc
          go_wp2
          any_goals (go_returns; exact ⟨rfl, R.out.2.2.1⟩)
          go_round
          case rel => exact ⟨k + 1, _, by omega, by go_num, rfl⟩
          case measure => simp [intOf]; omega
        · go_wp2_with fail
          go_loop [8, 10] (fun t i => ∃ (k : Nat) (t' : Int), k ≤ m ∧ i = .int .i64 k ∧ t = .int .i64 t') (fun _ i => m - (intOf i).toNat)
          case atStart => exact ⟨0, _, Nat.zero_le _, rfl, rfl⟩
          case round =>
            obtain ⟨k2, t2, hk2, rfl, rfl⟩ := hrel
            by_cases hlt2 : k2 < m
            · obtain ⟨b, off, rfl, _, hc⟩ := R.out.2.2.2 (by omega)
              have g1 := hc k2 hlt2
              clear hc
              go_wp2
              any_goals (go_returns; exact ⟨rfl, R.out.2.2.1⟩)
              go_round
              case rel => exact ⟨k2 + 1, _, by omega, by go_num, rfl⟩
              case measure => simp [intOf]; omega
            · obtain ⟨i0, hi0, hz0, hz1, hz2⟩ := info_parts Tryf.info9
              go_wp2_with (at_make; refine wpList_make_own _ rfl _ _ 22 rfl wc.heap.size 9 i0 (.string ByteArray.empty) 1 Tryf.underlying22 hi0 hz0 hz1 _ _ _ (n + m) rfl rfl (by simp) (by rw [hz2]; omega) (by unfold maxLen; omega) (Nat.le_refl _) ?_; intro w1 hown1 hgrow1)
              have O1 : Hid (w1.ownsRow wc.heap.size 9 1 (.slice (some ⟨wc.heap.size, 0, none⟩) 0 (n + m)) 0 (strCells 0 (join2 S T n)) ∧ Below wc.heap.size wc w1) := ⟨hown1, grown_below hgrow1⟩
              clear hown1 hgrow1
              go_loopw [13, 14] (fun s iv wr => ∃ i : Nat, i ≤ n ∧ iv = .int .i64 i ∧ Hid (wr.ownsRow wc.heap.size 9 1 s i (strCells i (join2 S T n)) ∧ Below wc.heap.size wc wr)) (fun _ iv _ => n - (intOf iv).toNat)
              case atStart => exact ⟨0, Nat.zero_le _, rfl, O1.out⟩
              case round =>
                obtain ⟨i, hi, rfl, hr⟩ := hrel
                have sw : wc.heap.size ≤ wr.heap.size := hr.out.2.size
                by_cases hlt3 : i < n
                · obtain ⟨b, off, rfl, _, hc⟩ := R.out.1 (by omega)
                  have gi := (hr.out.2.cell (p := ⟨b, off + i, none⟩) (World.block_lt_of_cell? wc _ (hc i hlt3))).trans (hc i hlt3)
                  clear hc
                  go_wp2_with (at_builtin; refine wpList_append_own _ rfl _ _ 22 rfl wc.heap.size 9 i0 (.string ByteArray.empty) 1 16 Tryf.underlying22 hi0 hz0 hz1 hz2 rfl (by decide) _ _ _ rfl (hr.out.1.alloc _) ⟨wr.heap.size, 0, none⟩ 1 1 [.string (S i)] rfl rfl (World.news_of_block (cs := #[.string (S i)]) (t := 9) (fr := (0, 0)) (heap_alloc_new wr _)) (by simp [Value.oneCell']) (by unfold maxLen; omega) (by omega) (by simp; omega) ?_; intro v' w2 hown2 hgrow2 _)
                  have RR := own_step hr.out.1 hr.out.2 sw hown2 hgrow2 (join2_low hlt3)
                  clear hown2 hgrow2
                  go_roundw
                  case rel => exact ⟨i + 1, by omega, by go_num, RR⟩
                  case measure => simp [intOf]; omega
                · obtain ⟨wx, hwx⟩ : ∃ wx, wx = wr := ⟨_, rfl⟩
                  subst hwx
                  obtain rfl : n = i := by omega
                  go_wp2_with fail
                  go_loopw [13, 15] (fun s iv wr => ∃ i : Nat, i ≤ m ∧ iv = .int .i64 i ∧ Hid (wr.ownsRow wc.heap.size 9 1 s (n + i) (strCells (n + i) (join2 S T n)) ∧ Below wc.heap.size wc wr)) (fun _ iv _ => m - (intOf iv).toNat)
                  case atStart => exact ⟨0, Nat.zero_le _, rfl, hr.out⟩
                  case round =>
                    clear hr
                    obtain ⟨i, hi, rfl, hr⟩ := hrel
                    have sw : wc.heap.size ≤ wr.heap.size := hr.out.2.size
                    by_cases hlt4 : i < m
                    · obtain ⟨b, off, rfl, _, hc⟩ := R.out.2.2.2 (by omega)
                      have gi := (hr.out.2.cell (p := ⟨b, off + i, none⟩) (World.block_lt_of_cell? wc _ (hc i hlt4))).trans (hc i hlt4)
                      clear hc
                      go_wp2_with (at_builtin; refine wpList_append_own _ rfl _ _ 22 rfl wc.heap.size 9 i0 (.string ByteArray.empty) 1 16 Tryf.underlying22 hi0 hz0 hz1 hz2 rfl (by decide) _ _ _ rfl (hr.out.1.alloc _) ⟨wr.heap.size, 0, none⟩ 1 1 [.string (T i)] rfl rfl (World.news_of_block (cs := #[.string (T i)]) (t := 9) (fr := (0, 0)) (heap_alloc_new wr _)) (by simp [Value.oneCell']) (by unfold maxLen; omega) (by omega) (by simp; omega) ?_; intro v' w2 hown2 hgrow2 _)
                      have RR := own_step hr.out.1 hr.out.2 sw hown2 hgrow2 (join2_high S T n i)
                      clear hown2 hgrow2
                      go_roundw
                      case rel => exact ⟨i + 1, by omega, by go_num, RR⟩
                      case measure => simp [intOf]; omega
                    · obtain ⟨wj, hwj⟩ : ∃ wj, wj = wr := ⟨_, rfl⟩
                      subst hwj
                      obtain rfl : m = i := by omega
                      obtain ⟨aj, cj, rfl, capj, rowj⟩ := row_of_owned_cap hr.out.1
                      have Q : Hid (Below w.heap.size w wj ∧ RowB wj.heap.size wj e1 n (fun i => .string (S i)) ∧ n ≤ k1 ∧ RowB wj.heap.size wj a2 m (fun i => .string (T i)) ∧ RowB wj.heap.size wj aj (n + m) (fun i => .string (join2 S T n i)) ∧ n + m ≤ cj ∧ F.answers wj.tape) :=
                        ⟨R.out.2.2.1.trans (hr.out.2.mono sz1), (R.out.1.below hr.out.2).mono sw, R.out.2.1, (R.out.2.2.2.below hr.out.2).mono sw, rowj, capj, by rw [hr.out.2.tape]; exact HC.out⟩
                      have szj : w.heap.size ≤ wj.heap.size := by omega
                      clear rowj capj hr R HC O1
                      by_cases hv : v < 0 ∨ (n : Int) + m < v
                      · go_wp2_with fail
                        refine (pend_no F e1 n k1 v wj Q.out.2.2.2.2.2.2 (by omega)).mono ?_
                        rintro e w2 ⟨⟨x, rfl⟩, bel2⟩
                        have sz2 : wj.heap.size ≤ w2.heap.size := bel2.size
                        go_wp2_with fail
                        refine (pend_no F aj (n + m) cj v w2 (by rw [bel2.tape]; exact Q.out.2.2.2.2.2.2) (by omega)).mono ?_
                        rintro e w3 ⟨⟨x3, rfl⟩, bel3⟩
                        have BB : Hid (Below w.heap.size w w3) := Q.out.1.trans ((bel2.trans (bel3.mono sz2)).mono szj)
                        clear bel2 bel3
                        by_cases hv0 : v < 0
                        · go_wp2_with fail
                          go_returns
                          exact ⟨rfl, BB.out⟩
                        · have hv1 : (n : Int) + m < v := by omega
                          go_wp2_with fail
                          go_returns
                          exact ⟨rfl, BB.out⟩
                      · obtain ⟨q, rfl⟩ := Int.eq_ofNat_of_zero_le (show 0 ≤ v by omega)
                        have hq : q ≤ n + m := by omega
                        clear hv
                        by_cases hqn : n < q
                        · go_wp2_with fail
                          refine (pend_no F e1 n k1 _ wj Q.out.2.2.2.2.2.2 (Or.inr (by omega))).mono ?_
                          rintro e w2 ⟨⟨x, rfl⟩, bel2⟩
                          have sz2 : wj.heap.size ≤ w2.heap.size := bel2.size
                          have B2 : Hid (Below wj.heap.size wj w2) := bel2
                          clear bel2
                          go_wp2_with fail
                          refine (pend_yes wj.heap.size aj (n + m) cj q q _ w2 rfl hq (by omega) Q.out.2.2.2.2.2.1 (Q.out.2.2.2.2.1.below B2.out)).mono ?_
                          rintro e w' ⟨⟨a3, c3, rfl, row3⟩, hw⟩
                          obtain rfl : w2 = w' := hw.symm
                          clear hw
                          have R3 : Hid (RowB wj.heap.size w2 a3 (n + m - q) (fun i => .string (join2 S T n (q + i))) ∧ RowB wj.heap.size w2 a2 m (fun i => .string (T i))) := ⟨row3, Q.out.2.2.2.1.below B2.out⟩
                          clear row3
                          have hl3 : (((n + m - q : Nat) : Int) != (n : Int) + m - q) = false := by simp; omega
                          go_wp2_with fail
                          go_loopw [20] (fun iv wr => ∃ (i k : Nat), i ≤ n + m - q ∧ iv = .int .i64 i ∧ Hid (wr = w2.drewN k)) (fun iv _ => n + m - q - (intOf iv).toNat)
                          case atStart => exact ⟨0, 0, Nat.zero_le _, rfl, rfl⟩
                          case round =>
                            obtain ⟨i, k', hi5, rfl, HS⟩ := hrel
                            by_cases hlt5 : i < n + m - q
                            · obtain ⟨b, off, rfl, _, hc⟩ := R3.out.1 (by omega)
                              obtain ⟨b2, off2, rfl, _, hc2⟩ := R3.out.2 (by omega)
                              have g1 : wr.cell? ⟨b, off + i, none⟩ = some (.string (T (q - n + i))) := by
                                rw [HS.out]
                                have h : w2.cell? ⟨b, off + i, none⟩ = some (.string (join2 S T n (q + i))) := hc i hlt5
                                rw [show q + i = n + (q - n + i) by omega, join2_high] at h
                                exact h
                              have g2 : wr.cell? ⟨b2, off2 + (q - n + i), none⟩ = some (.string (T (q - n + i))) := by rw [HS.out]; exact hc2 (q - n + i) (by omega)
                              clear hc hc2
                              obtain ⟨p, hp⟩ : ∃ p, q = n + p := ⟨q - n, by omega⟩
                              subst hp
                              have i0' : n + p - n = p := by omega
                              rw [i0'] at g1 g2
                              clear i0'
                              have i1 : ((n + p : Nat) : Int) - (n : Int) = (p : Int) := by omega
                              have i2 : (n : Int) + (p : Int) - (n : Int) = (p : Int) := by omega
                              have i4 : IntKind.i64.wrap (i : Int) = (i : Int) := IntWalk.i64_in _ (by omega)
                              have i5 : IntKind.i64.wrap (p : Int) = (p : Int) := IntWalk.i64_in _ (by omega)
                              have i6 : IntKind.i64.wrap ((p : Int) + (i : Int)) = (p : Int) + (i : Int) := IntWalk.i64_in _ (by omega)
                              have i7 : (p : Int) + (i : Int) < (m : Int) := by omega
                              go_wp2_with fail
                              go_quiet (fail)
                              go_wp2_with fail
                              go_roundw
                              case rel => exact ⟨i + 1, k' + nq, by omega, by go_num, show _ = _ from by rw [HS.out]; simp⟩
                              case measure => simp [intOf]; omega
                            · have DS : Hid (Below w.heap.size w wr) := Q.out.1.trans ((B2.out.trans (by rw [HS.out]; exact below_drewN' _ _ _)).mono szj)
                              go_wp2_with fail
                              go_returns
                              exact ⟨rfl, DS.out⟩
                        · go_wp2_with fail
                          refine (pend_yes wj.heap.size e1 n k1 q q _ wj rfl (by omega) (by omega) Q.out.2.2.1 Q.out.2.1).mono ?_
                          rintro e w' ⟨⟨a3, c3, rfl, row3⟩, hw⟩
                          obtain rfl : wj = w' := hw.symm
                          clear hw
                          have R3 : Hid (RowB wj.heap.size wj a3 (n - q) (fun i => .string (S (q + i)))) := row3
                          clear row3
                          go_wp2_with fail
                          refine (pend_yes wj.heap.size aj (n + m) cj q q _ wj rfl hq (by omega) Q.out.2.2.2.2.2.1 Q.out.2.2.2.2.1).mono ?_
                          rintro e w' ⟨⟨a4, c4, rfl, row4⟩, hw⟩
                          obtain rfl : wj = w' := hw.symm
                          clear hw
                          have R4 : Hid (RowB wj.heap.size wj a4 (n + m - q) (fun i => .string (join2 S T n (q + i)))) := row4
                          clear row4
                          have hl3 : (((n + m - q : Nat) : Int) != (n : Int) + m - q) = false := by simp; omega
                          have hl4 : (((n - q : Nat) : Int) != (n : Int) - q) = false := by simp; omega
                          go_wp2_with fail
                          go_loopw [21] (fun iv wr => ∃ (i k : Nat), i ≤ n - q ∧ iv = .int .i64 i ∧ Hid (wr = wj.drewN k)) (fun iv _ => n - q - (intOf iv).toNat)
                          case atStart => exact ⟨0, 0, Nat.zero_le _, rfl, rfl⟩
                          case round =>
                            obtain ⟨i, k', hi5, rfl, HS⟩ := hrel
                            by_cases hlt5 : i < n - q
                            · obtain ⟨b1, off1, rfl, _, hc1⟩ := Q.out.2.1 (by omega)
                              obtain ⟨b3, off3, rfl, _, hc3⟩ := R3.out (by omega)
                              obtain ⟨b4, off4, rfl, _, hc4⟩ := R4.out (by omega)
                              have g1 : wr.cell? ⟨b3, off3 + i, none⟩ = some (.string (S (q + i))) := by rw [HS.out]; exact hc3 i hlt5
                              have g2 : wr.cell? ⟨b1, off1 + (q + i), none⟩ = some (.string (S (q + i))) := by rw [HS.out]; exact hc1 (q + i) (by omega)
                              have g3 : wr.cell? ⟨b4, off4 + i, none⟩ = some (.string (S (q + i))) := by
                                rw [HS.out]
                                have h : wj.cell? ⟨b4, off4 + i, none⟩ = some (.string (join2 S T n (q + i))) := hc4 i (by omega)
                                rw [join2_low (by omega)] at h
                                exact h
                              clear hc1 hc3 hc4
                              have i4 : IntKind.i64.wrap (i : Int) = (i : Int) := IntWalk.i64_in _ (by omega)
                              have i5 : IntKind.i64.wrap ((q : Int) + (i : Int)) = (q : Int) + (i : Int) := IntWalk.i64_in _ (by omega)
                              have i6 : (q : Int) + (i : Int) < (n : Int) := by omega
                              have i7 : i < n + m - q := by omega
                              go_wp2_with fail
                              go_quiet (fail)
                              go_wp2_with fail
                              go_roundw
                              case rel => exact ⟨i + 1, k' + nq, by omega, by go_num, show _ = _ from by rw [HS.out]; simp⟩
                              case measure => simp [intOf]; omega
                            · obtain ⟨wk, hwk⟩ : ∃ wk, wk = wr := ⟨_, rfl⟩
                              subst hwk
                              go_wp2_with fail
                              go_loopw [22] (fun iv wr => ∃ (i k : Nat), i ≤ m ∧ iv = .int .i64 i ∧ Hid (wr = wk.drewN k)) (fun iv _ => m - (intOf iv).toNat)
                              case atStart => exact ⟨0, 0, Nat.zero_le _, rfl, rfl⟩
                              case round =>
                                obtain ⟨i, k5, hi6, rfl, HT⟩ := hrel
                                have HU : Hid (wr = wj.drewN (k' + k5)) := show _ = _ from by rw [HT.out, HS.out]; simp
                                by_cases hlt6 : i < m
                                · obtain ⟨b2, off2, rfl, _, hc2⟩ := Q.out.2.2.2.1 (by omega)
                                  obtain ⟨b4, off4, rfl, _, hc4⟩ := R4.out (by omega)
                                  have g1 : wr.cell? ⟨b4, off4 + (n - q + i), none⟩ = some (.string (T i)) := by
                                    rw [HU.out]
                                    have h : wj.cell? ⟨b4, off4 + (n - q + i), none⟩ = some (.string (join2 S T n (q + (n - q + i)))) := hc4 (n - q + i) (by omega)
                                    rw [show q + (n - q + i) = n + i by omega, join2_high] at h
                                    exact h
                                  have g2 : wr.cell? ⟨b2, off2 + i, none⟩ = some (.string (T i)) := by rw [HU.out]; exact hc2 i hlt6
                                  clear hc2 hc4
                                  have i4 : IntKind.i64.wrap (i : Int) = (i : Int) := IntWalk.i64_in _ (by omega)
                                  have i5 : IntKind.i64.wrap (((n - q : Nat) : Int) + (i : Int)) = ((n - q : Nat) : Int) + (i : Int) := IntWalk.i64_in _ (by omega)
                                  have i6 : ((n - q : Nat) : Int) + (i : Int) < ((n + m - q : Nat) : Int) := by omega
                                  go_wp2_with fail
                                  go_quiet (fail)
                                  go_wp2_with fail
                                  go_roundw
                                  case rel => exact ⟨i + 1, k5 + nq, by omega, by go_num, show _ = _ from by rw [HT.out]; simp⟩
                                  case measure => simp [intOf]; omega
                                · have DS : Hid (Below w.heap.size w wr) := Q.out.1.trans (by rw [HU.out]; exact below_drewN' _ _ _)
                                  go_wp2_with fail
                                  go_returns
                                  exact ⟨rfl, DS.out⟩

end Go.Proofs.Qxb6619174aFmt
