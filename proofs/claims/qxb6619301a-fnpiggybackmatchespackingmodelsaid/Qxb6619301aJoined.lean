/-
  mgcpB1IsJoined BY ITS CONTRACT.
-/
import Derived.Test.Qxb6619301aPack
namespace Go.Proofs.Qxb6619301a
open Go.RowKit

/-- Where the message before s + i ends. -/
def en (L : Nat → Nat) (s : Nat) : Nat → Nat
  | 0 => 0
  | i + 1 => jl L s i

/-- The datagram's cells. -/
def dgF (L : Nat → Nat) (X : Nat → Nat → Int) (s k : Nat) (r : Nat) : Value := (jn L X s k).getD r (.int .u8 0)
theorem dg_msg {L : Nat → Nat} {X : Nat → Nat → Int} {s k i r : Nat} (hi : i ≤ k) (hr : r < L (s + i)) : dgF L X s k (st L s i + r) = .int .u8 (X (s + i) r) := by
  unfold dgF
  rw [List.getD_eq_getElem?_getD, jn_msg hi hr]
  rfl
theorem dg_sep {L : Nat → Nat} {X : Nat → Nat → Int} {s k i r : Nat} {v : Value} (hi : i < k) (hr : r < 3) (hv : sepV[r]? = some v) : dgF L X s k (jl L s i + r) = v := by
  unfold dgF
  rw [List.getD_eq_getElem?_getD, jn_sep hi hr, hv]
  rfl

set_option maxRecDepth 100000 in
set_option maxHeartbeats 3200000 in
theorem joined_any (B n c s k t ln dc : Nat) (a da : Option Addr) (A : Nat → Option Addr) (L C : Nat → Nat) (X : Nat → Nat → Int) (w : World) (h : Msgs B w a n A L C X) (hn : n ≤ 65536) (hs : psum L n ≤ 1048576)
    (hk : s + k < n) (h0 : 0 < L s) (ht : s + k + 1 = t) (hl : ln = jl L s k) (hd : RowB B w da ln (dgF L X s k)) :
    Calls Try.prog 7 #[.slice da ln dc, .slice a n c, .int .i64 s, .int .i64 t] w fun e w' => e = .returned (.bool true) ∧ ∃ m, w' = w.drewN m := by
  have hlp : 0 < ln := by rw [hl]; exact jl_pos h0 k
  have hlb : ln ≤ psum L n + 3 * n := by rw [hl]; exact jl_le hk
  obtain ⟨b, off, rfl, _, hcd⟩ := hd hlp
  have H : Hid (Msgs B w a n A L C X ∧ ln = jl L s k ∧ s + k + 1 = t ∧ ∀ r, r < ln → w.cell? ⟨b, off + r, none⟩ = some (dgF L X s k r)) := ⟨h, hl, ht, hcd⟩
  have htn : t ≤ n := by omega
  have hst : s < t := by omega
  clear h hl hcd ht hd
  go_enter Try.func7, Try.ntmps7
  go_wp2_with fail
  go_loopw [9, 10] (fun ov jv wr => ∃ (i x y m : Nat), i ≤ k + 1 ∧ ov = .int .i64 x ∧ jv = .int .i64 y ∧ Hid (x = en L s i) ∧ Hid (y = s + i) ∧ Hid (wr = w.drewN m)) (fun _ jv _ => t - (intOf jv).toNat)
  case atStart => exact ⟨0, 0, s, 0, Nat.zero_le _, rfl, rfl, rfl, rfl, rfl⟩
  case round =>
    obtain ⟨i, x, y, m, hi, rfl, rfl, EN, YY, HW⟩ := hrel
    have hty := H.out.2.2.1
    by_cases hyt : y < t
    · have hyn : y < n := by omega
      have hik : i ≤ k := by have := YY.out; omega
      have hLy : L y ≤ 1048576 := Nat.le_trans (le_psum L hyn) hs
      have hln : jl L s i ≤ ln := by rw [H.out.2.1]; exact jl_mono L s hik
      have HJ : Hid (jl L s i ≤ ln) := hln
      clear hln
      by_cases hi0 : i = 0
      · subst hi0
        obtain rfl : x = 0 := EN.out
        obtain rfl : y = s := YY.out
        have OO : Hid (L y ≤ ln) := HJ.out
        have MS : Hid (∀ r, r < L y → w.cell? ⟨b, off + (0 + r), none⟩ = some (.int .u8 (X y r))) := fun r hr => by
          have := H.out.2.2.2 (st L y 0 + r) (by simp only [st]; have := OO.out; omega)
          rw [dg_msg (Nat.zero_le _) hr] at this
          exact this
        have ENX : Hid (0 + L y = en L y (0 + 1)) := by show 0 + L y = L y; omega
        have hz : 0 + L y ≤ ln := by have := OO.out; omega
        obtain ⟨wo, hwo⟩ : ∃ wo, wo = wr := ⟨_, rfl⟩
        subst hwo
        obtain ⟨bm, om, rfl, _, hcm⟩ := H.out.1.row (by omega)
        have gm : wo.cell? ⟨bm, om + y, none⟩ = some (.slice (A y) (L y) (C y)) := by rw [HW.out]; exact hcm y hyn
        clear hcm
        go_wp2_with fail
        go_loopw [13] (fun iv wr => ∃ (r m' : Nat), r ≤ L y ∧ iv = .int .i64 r ∧ Hid (wr = wo.drewN m')) (fun iv _ => L y - (intOf iv).toNat)
        case atStart => exact ⟨0, 0, Nat.zero_le _, rfl, rfl⟩
        case round =>
          obtain ⟨r, m', hr, rfl, HV⟩ := hrel
          by_cases hrl : r < L y
          · have gd : wr.cell? ⟨b, off + (0 + r), none⟩ = some (.int .u8 (X y r)) := by rw [HV.out, HW.out]; exact MS.out r hrl
            obtain ⟨by', oy, hAy, _, hcy⟩ := H.out.1.each y hyn (by omega)
            have gy : wr.cell? ⟨by', oy + r, none⟩ = some (.int .u8 (X y r)) := by rw [HV.out, HW.out]; exact hcy r hrl
            clear hcy
            rw [Nat.zero_add] at gd
            have hrn : r < ln := by have := OO.out; omega
            have hrn2 : (r : Int) < (ln : Int) := by omega
            rw [hAy] at gm ⊢
            have i1 : IntKind.i64.wrap (r : Int) = (r : Int) := IntWalk.i64_in _ (by omega)
            have i2 : IntKind.i64.wrap ((0 : Int) + (r : Int)) = (0 : Int) + (r : Int) := IntWalk.i64_in _ (by omega)
            have i3 : (0 : Int) + (r : Int) < (ln : Int) := by omega
            have i4 : 0 ≤ (0 : Int) + (r : Int) := by omega
            go_wp2_with fail
            go_quiet (fail)
            go_wp2_with fail
            go_roundw
            case rel => exact ⟨r + 1, m' + nq, by omega, by go_num, show _ = _ from by rw [HV.out]; simp⟩
            case measure => simp [intOf]; omega
          · obtain rfl : L y = r := by omega
            go_wp2_with fail
            go_roundw
            case rel => exact ⟨0 + 1, 0 + L y, y + 1, m + m', by omega, by go_num, by go_num, ENX.out, by show _ = _; omega, show _ = _ from by rw [HV.out, HW.out]; simp⟩
            case measure => simp [intOf]; omega
      · obtain ⟨i', hi'⟩ : ∃ i', i = i' + 1 := ⟨i - 1, by omega⟩
        subst hi'
        have hsy : s < y := by have := YY.out; omega
        have EX : Hid (x = jl L s i' ∧ jl L s i' + 3 + L y ≤ ln) := by
          refine ⟨EN.out, ?_⟩
          have := HJ.out
          have h2 : jl L s (i' + 1) = jl L s i' + 3 + L (s + i' + 1) := rfl
          rw [h2, show s + i' + 1 = y by have := YY.out; omega] at this
          exact this
        have hx3 : x + 3 + L y ≤ ln := by have := EX.out; omega
        obtain ⟨wp, hwp⟩ : ∃ wp, wp = wr := ⟨_, rfl⟩
        subst hwp
        have HW0 := HW
        clear HW
        go_wp2_with fail
        go_loopw [11] (fun iv wr => ∃ (q m2 : Nat), q ≤ 3 ∧ iv = .int .i64 q ∧ Hid (wr = wp.drewN m2)) (fun iv _ => 3 - (intOf iv).toNat)
        case atStart => exact ⟨0, 0, Nat.zero_le _, rfl, rfl⟩
        case round =>
          obtain ⟨q, m2, hq, rfl, HQ⟩ := hrel
          have gs : ∀ r v, r < 3 → sepV[r]? = some v → wr.cell? ⟨b, off + (x + r), none⟩ = some v := fun r v hr hv => by
            rw [HQ.out, HW0.out]
            have h1 := H.out.2.2.2 (x + r) (by omega)
            rw [EX.out.1, dg_sep (show i' < k by omega) hr hv] at h1
            rw [EX.out.1]
            exact h1
          have GS : Hid (∀ r v, r < 3 → sepV[r]? = some v → wr.cell? ⟨b, off + (x + r), none⟩ = some v) := gs
          clear gs
          by_cases hq3 : q < 3
          · have hcases : q = 0 ∨ q = 1 ∨ q = 2 := by omega
            have i1 : IntKind.i64.wrap (x : Int) = (x : Int) := IntWalk.i64_in _ (by omega)
            have i2 : IntKind.i64.wrap ((x : Int) + 1) = (x : Int) + 1 := IntWalk.i64_in _ (by omega)
            have i3 : IntKind.i64.wrap ((x : Int) + 2) = (x : Int) + 2 := IntWalk.i64_in _ (by omega)
            rcases hcases with rfl | rfl | rfl
            · have g1 : wr.cell? ⟨b, off + x, none⟩ = some (.int .u8 46) := GS.out 0 _ (by omega) rfl
              go_wp2_with fail
              go_quiet (fail)
              go_wp2_with fail
              go_roundw
              case rel => exact ⟨1, m2 + nq, by omega, by go_num, show _ = _ from by rw [HQ.out]; simp⟩
              case measure => simp [intOf]
            · have g1 : wr.cell? ⟨b, off + (x + 1), none⟩ = some (.int .u8 13) := GS.out 1 _ (by omega) rfl
              have i4 : (x : Int) + 1 < ln := by omega
              have i5 : 0 ≤ (x : Int) + 1 := by omega
              go_wp2_with fail
              go_quiet (fail)
              go_wp2_with fail
              go_roundw
              case rel => exact ⟨2, m2 + nq, by omega, by go_num, show _ = _ from by rw [HQ.out]; simp⟩
              case measure => simp [intOf]
            · have g1 : wr.cell? ⟨b, off + (x + 2), none⟩ = some (.int .u8 10) := GS.out 2 _ (by omega) rfl
              have i4 : (x : Int) + 2 < ln := by omega
              have i5 : 0 ≤ (x : Int) + 2 := by omega
              go_wp2_with fail
              go_quiet (fail)
              go_wp2_with fail
              go_roundw
              case rel => exact ⟨3, m2 + nq, by omega, by go_num, show _ = _ from by rw [HQ.out]; simp⟩
              case measure => simp [intOf]
          · obtain rfl : q = 3 := by omega
            clear GS
            have HW : Hid (wr = w.drewN (m + m2)) := show _ = _ from by rw [HQ.out, HW0.out]; simp
            have MS : Hid (∀ r, r < L y → w.cell? ⟨b, off + (x + 3 + r), none⟩ = some (.int .u8 (X y r))) := fun r hr => by
              have e1 : s + (i' + 1) = y := by have := YY.out; omega
              have h1 := H.out.2.2.2 (st L s (i' + 1) + r) (by simp only [st]; have := EX.out; omega)
              rw [dg_msg hik (by rw [e1]; exact hr), e1] at h1
              rw [EX.out.1]
              exact h1
            have ENX : Hid (x + 3 + L y = en L s (i' + 1 + 1)) := by
              show x + 3 + L y = jl L s i' + 3 + L (s + i' + 1)
              rw [show s + i' + 1 = y by have := YY.out; omega, EX.out.1]
            obtain ⟨wo, hwo⟩ : ∃ wo, wo = wr := ⟨_, rfl⟩
            subst hwo
            obtain ⟨bm, om, rfl, _, hcm⟩ := H.out.1.row (by omega)
            have gm : wo.cell? ⟨bm, om + y, none⟩ = some (.slice (A y) (L y) (C y)) := by rw [HW.out]; exact hcm y hyn
            clear hcm
            go_wp2_with fail
            go_loopw [13] (fun iv wr => ∃ (r m' : Nat), r ≤ L y ∧ iv = .int .i64 r ∧ Hid (wr = wo.drewN m')) (fun iv _ => L y - (intOf iv).toNat)
            case atStart => exact ⟨0, 0, Nat.zero_le _, rfl, rfl⟩
            case round =>
              obtain ⟨r, m', hr, rfl, HV⟩ := hrel
              by_cases hrl : r < L y
              · have gd : wr.cell? ⟨b, off + (x + 3 + r), none⟩ = some (.int .u8 (X y r)) := by rw [HV.out, HW.out]; exact MS.out r hrl
                obtain ⟨by', oy, hAy, _, hcy⟩ := H.out.1.each y hyn (by omega)
                have gy : wr.cell? ⟨by', oy + r, none⟩ = some (.int .u8 (X y r)) := by rw [HV.out, HW.out]; exact hcy r hrl
                clear hcy
                rw [hAy] at gm ⊢
                have i1 : IntKind.i64.wrap (r : Int) = (r : Int) := IntWalk.i64_in _ (by omega)
                have i2 : IntKind.i64.wrap (((x : Int) + 3) + (r : Int)) = ((x : Int) + 3) + (r : Int) := IntWalk.i64_in _ (by omega)
                have i3 : ((x : Int) + 3) + (r : Int) < (ln : Int) := by omega
                have i4 : 0 ≤ ((x : Int) + 3) + (r : Int) := by omega
                go_wp2_with fail
                go_quiet (fail)
                go_wp2_with fail
                go_roundw
                case rel => exact ⟨r + 1, m' + nq, by omega, by go_num, show _ = _ from by rw [HV.out]; simp⟩
                case measure => simp [intOf]; omega
              · obtain rfl : L y = r := by omega
                go_wp2_with fail
                go_roundw
                case rel => exact ⟨i' + 1 + 1, x + 3 + L y, y + 1, m + m2 + m', by omega, by go_num, by go_num, ENX.out, by have := YY.out; show _ = _; omega, show _ = _ from by rw [HV.out, HW.out]; simp⟩
                case measure => have := YY.out; simp [intOf]; omega
    · have hik : i = k + 1 := by have := YY.out; omega
      subst hik
      have hx : x = ln := by rw [H.out.2.1]; exact EN.out
      subst hx
      have HF : Hid (∃ m, wr = w.drewN m) := ⟨m, HW.out⟩
      go_wp2_with fail
      go_returns
      exact ⟨by simp, HF.out⟩

end Go.Proofs.Qxb6619301a
