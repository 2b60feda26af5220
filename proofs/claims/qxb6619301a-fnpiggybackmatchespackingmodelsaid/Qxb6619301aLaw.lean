/-
  THE WALK OF FnPiggybackMatchesPackingModel.
-/
import Derived.Test.Qxb6619301aPig
import Derived.Test.Qxb6619301aJoined
namespace Go.Proofs.Qxb6619301a
open Go.RowKit

theorem Try.info3 : (Try.prog.info? 3).map (fun i => (i.zero, i.size, i.bytes)) = some (some (.int .i64 0), 1, 8) := by kernel_rfl

/-- THE PREFIX SUMS up to place k stand in block g. -/
def Pre (L : Nat → Nat) (n g k : Nat) (w : World) : Prop := ∃ cs : Array Value, w.heap[g]? = some (.cells cs 3 (0, 0)) ∧ cs.size = n + 1 ∧ ∀ i, i ≤ k → cs[i]? = some (Value.int .i64 (psum L i))

theorem heap_set {w : World} {b i : Nat} {cs : Array Value} {t : TypeId} {fz : Nat × Nat} (h : w.heap[b]? = some (.cells cs t fz)) (v : Value) :
    (w.setCell ⟨b, i, none⟩ v).heap[b]? = some (.cells (cs.setIfInBounds i v) t fz) := by
  have hlt : b < w.heap.size := (Array.getElem?_eq_some_iff.1 h).1
  have hv : w.heap[b] = .cells cs t fz := (Array.getElem?_eq_some_iff.1 h).2
  unfold World.setCell
  rw [Array.getElem?_eq_getElem (by simpa using hlt), Array.getElem_modify]
  simp [hv]

section
variable {L : Nat → Nat} {n g k : Nat} {w w' : World}
theorem Pre.read (h : Pre L n g k w) {i : Nat} (hi : i ≤ k) : w.cell? ⟨g, i, none⟩ = some (.int .i64 (psum L i)) := by
  obtain ⟨cs, h1, _, h3⟩ := h
  rw [cell_of_row _ _ _ _ _ _ h1]
  exact h3 i hi
theorem Pre.old (h : Pre L n g k w) {i : Nat} (hi : i ≤ n) : ∃ v, w.cell? ⟨g, i, none⟩ = some v := by
  obtain ⟨cs, h1, h2, _⟩ := h
  rw [cell_of_row _ _ _ _ _ _ h1]
  exact ⟨_, Array.getElem?_eq_getElem (by omega)⟩
theorem Pre.free (h : Pre L n g k w) (i : Nat) : w.frozen? ⟨g, i, none⟩ = false := by
  obtain ⟨cs, h1, _, _⟩ := h
  simp [World.frozen?, h1]
theorem Pre.lt (h : Pre L n g k w) : g < w.heap.size := by
  obtain ⟨cs, h1, _, _⟩ := h
  exact (Array.getElem?_eq_some_iff.1 h1).1
theorem Pre.step (h : Pre L n g k w) (hk : k < n) {x : Int} (hx : x = (psum L k : Int) + L k) : Pre L n g (k + 1) (w.setCell ⟨g, k + 1, none⟩ (.int .i64 x)) := by
  obtain ⟨cs, h1, h2, h3⟩ := h
  refine ⟨_, heap_set h1 _, by simpa using h2, fun i hi => ?_⟩
  rw [Array.getElem?_setIfInBounds]
  by_cases e : k + 1 = i
  · subst e
    rw [if_pos rfl, if_pos (by omega), hx]
    simp [psum]
  · rw [if_neg e]
    exact h3 i (by omega)
theorem pre_made {base : Nat} (h : w.ownsRow base 3 1 (.slice (some ⟨g, 0, none⟩) (n + 1) (n + 1)) (n + 1) (madeCells (Value.int .i64 0).cells ((n + 1) * 1)).toList) : Pre L n g 0 w := by
  rcases h.2 with ⟨h0, _⟩ | ⟨g', cap, cur, hv, _, hg, _, _, h3, h4⟩
  · cases h0
  · cases hv
    refine ⟨cur, hg, by omega, fun i hi => ?_⟩
    obtain rfl : i = 0 := by omega
    have e : cur.toList = (madeCells (Value.int .i64 0).cells ((n + 1) * 1)).toList := by rw [← h4, List.take_of_length_le (by simp [h3])]
    rw [← Array.getElem?_toList, e]
    have : (Value.int .i64 0).cells = #[.int .i64 0] := rfl
    rw [this, toList_madeCells_one]
    simp [psum]
theorem Pre.same (h : Pre L n g k w) (hs : w'.heap = w.heap) : Pre L n g k w' := by
  unfold Pre at h ⊢
  rw [hs]
  exact h
end

/-- ONE PROBE OF THE BINARY SEARCH. -/
theorem probe {L : Nat → Nat} {n s k t md : Nat} {size : Int} (hall : ∀ i, i < k → (jl L s (i + 1) : Int) ≤ size) (hno : s + k + 1 = n ∨ size < (jl L s (k + 1) : Int)) (ht : s + k + 1 = t) (h1 : s + 2 ≤ md) (h2 : md ≤ n) :
    (psum L md : Int) - (psum L s : Int) + 3 * ((md : Int) - (s : Int) - 1) ≤ size ↔ md ≤ t := by
  obtain ⟨d, hd⟩ : ∃ d, md = s + (d + 1) + 1 := ⟨md - s - 2, by omega⟩
  have hj := jl_psum L s (d + 1)
  rw [← hd] at hj
  have e : (psum L md : Int) - (psum L s : Int) + 3 * ((md : Int) - (s : Int) - 1) = (jl L s (d + 1) : Int) := by omega
  rw [e]
  constructor
  · intro hle
    by_cases hmt : md ≤ t
    · exact hmt
    · rcases hno with hno | hno
      · omega
      · have := jl_mono L s (show k + 1 ≤ d + 1 by omega)
        omega
  · intro hmt
    exact hall d (by omega)

/-- The datagram at place i. -/
theorem Packed.row {L : Nat → Nat} {X : Nat → Nat → Int} {B D i s k : Nat} {w : World} {v : Value} {G : List (Nat × Nat)} {xs : List Value} (h : Packed L X B D w v G xs) (hi : G[i]? = some (s, k)) :
    ∃ b c, xs[i]? = some (Value.slice (some ⟨b, 0, none⟩) (jl L s k) c) ∧ RowB D w (some ⟨b, 0, none⟩) (jl L s k) (dgF L X s k) := by
  obtain ⟨b, c, h1, h2, _, _, h5⟩ := h.each i s k hi
  refine ⟨b, c, h1, fun _ => ⟨b, 0, rfl, h2, fun r hr => ?_⟩⟩
  have hr' : r < (jn L X s k).length := by rw [jn_len]; exact hr
  rw [Nat.zero_add, h5 r _ (List.getElem?_eq_getElem hr')]
  simp [dgF, List.getD_eq_getElem?_getD, List.getElem?_eq_getElem hr']

set_option maxRecDepth 100000 in
set_option maxHeartbeats 3200000 in
theorem law_pig (n c : Nat) (a : Option Addr) (A : Nat → Option Addr) (L C : Nat → Nat) (X : Nat → Nat → Int) (size : Int) (w : World) (h : Msgs w.heap.size w a n A L C X) :
    Calls Try.prog 3 #[.slice a n c, .int .i64 size] w fun e w' => e = .returned (.bool true) ∧ Below w.heap.size w w' := by
  have H : Hid (Msgs w.heap.size w a n A L C X) := h
  clear h
  have hne := fun (w : World) (a : Option Addr) (n c : Nat) => run_neq_slice_nil_any (P := Try.prog) w 22 27 a n c 0 0 Try.underlying22
  go_enter Try.func3, Try.ntmps3
  go_wp2_with fail
  refine (bytes_any w.heap.size n c a A L C X size w H.out).mono ?_
  rintro e w' ⟨⟨bb, rfl⟩, hw⟩
  obtain rfl : w = w' := hw.symm
  clear hw
  cases bb with
  | false =>
    go_wp2_with fail
    go_returns
    exact ⟨rfl, Below.refl _ _⟩
  | true =>
    go_wp2_with fail
    refine (tooBig_any w.heap.size n c a A L C X w H.out).mono ?_
    rintro e w' ⟨⟨bt, rfl, hbt⟩, hw⟩
    obtain rfl : w = w' := hw.symm
    clear hw
    cases bt with
    | true =>
      clear hbt
      go_wp2_with fail
      go_returns
      exact ⟨rfl, Below.refl _ _⟩
    | false =>
      obtain ⟨hn, hs⟩ := hbt rfl
      clear hbt
      go_wp2_with fail
      refine (pig_any n c a A L C X size w H.out hn hs).mono ?_
      rintro e w1 ⟨a5, c5, G, xs, rfl, pk, packs, bel1, hnil⟩
      have P1 : Hid (Packed L X w.heap.size w1.heap.size w1 (.slice a5 G.length c5) G xs ∧ Packs L n size 0 G ∧ Below w.heap.size w w1 ∧ (G = [] → a5 = none)) := ⟨pk, packs, bel1, hnil⟩
      have zw : w.heap.size ≤ w1.heap.size := bel1.size
      clear pk packs bel1 hnil
      obtain ⟨i3, hi3, hz0, hz1, hz2⟩ := info_parts Try.info3
      go_wp2_with (at_make; refine wpList_make_full _ rfl _ _ 26 rfl w1.heap.size 3 i3 (.int .i64 0) 1 Try.underlying26 hi3 hz0 hz1 _ _ _ _ (n + 1) rfl rfl (by simp) (by simp) (by rw [hz2]; omega) (by unfold maxLen; omega) (Nat.le_refl _) ?_; intro w2 hown2 hgrow2)
      have PR : Hid (Pre L n w1.heap.size 0 w2 ∧ Below w1.heap.size w1 w2) := ⟨pre_made hown2, (Below.refl _ _).grown hgrow2 (Nat.le_refl _) (fun k hk => by cases hk)⟩
      clear hown2 hgrow2
      go_loopw [8] (fun iv wr => ∃ (k : Nat), k ≤ n ∧ iv = .int .i64 k ∧ Hid (Pre L n w1.heap.size k wr ∧ Below w1.heap.size w1 wr)) (fun iv _ => n - (intOf iv).toNat)
      case atStart => exact ⟨0, Nat.zero_le _, rfl, PR.out⟩
      case round =>
        obtain ⟨k, hk, rfl, Q⟩ := hrel
        by_cases hlt : k < n
        · obtain ⟨b, off, rfl, _, hc⟩ := H.out.row (by omega)
          have gm : wr.cell? ⟨b, off + k, none⟩ = some (.slice (A k) (L k) (C k)) := by
            have hb := World.block_lt_of_cell? w _ (hc k hlt)
            exact (Q.out.2.cell (p := ⟨b, off + k, none⟩) (Nat.lt_of_lt_of_le hb zw)).trans ((P1.out.2.2.1.cell (p := ⟨b, off + k, none⟩) hb).trans (hc k hlt))
          clear hc
          have gk := Q.out.1.read (Nat.le_refl k)
          obtain ⟨old, go⟩ := Q.out.1.old (show k + 1 ≤ n by omega)
          have gf := Q.out.1.free (k + 1)
          have hLk : L k ≤ 1048576 := Nat.le_trans (le_psum L hlt) hs
          have hPk : psum L k ≤ 1048576 := Nat.le_trans (psum_mono L hk) hs
          have i1 : IntKind.i64.wrap (k : Int) = (k : Int) := IntWalk.i64_in _ (by omega)
          have i2 : IntKind.i64.wrap ((k : Int) + 1) = (k : Int) + 1 := IntWalk.i64_in _ (by omega)
          have i3 : (k : Int) + 1 < ((n + 1 : Nat) : Int) := by omega
          have i4 : (k : Int) < ((n + 1 : Nat) : Int) := by omega
          go_wp2_with fail
          go_region
          have Q2 : Hid (Pre L n w1.heap.size (k + 1) (wr.setCell ⟨w1.heap.size, k + 1, none⟩ (.int .i64 ((psum L k : Int) + (L k : Int)))).drew ∧ Below w1.heap.size w1 (wr.setCell ⟨w1.heap.size, k + 1, none⟩ (.int .i64 ((psum L k : Int) + (L k : Int)))).drew) :=
            ⟨(Q.out.1.step hlt rfl).same rfl, (Below.setCell (p := ⟨w1.heap.size, k + 1, none⟩) Q.out.2 (Nat.le_refl _) _).trans ⟨rfl, rfl, rfl, Nat.le_refl _, fun _ _ => rfl⟩⟩
          go_wp2_with fail
          go_roundw
          case rel => exact ⟨k + 1, by omega, by go_num, Q2.out⟩
          case measure => simp [intOf]; omega
        · obtain rfl : n = k := by omega
          obtain ⟨wp, hwp⟩ : ∃ wp, wp = wr := ⟨_, rfl⟩
          subst hwp
          have zp : w1.heap.size ≤ wp.heap.size := Q.out.2.size
          have PP : Hid (Pre L n w1.heap.size n wp ∧ Msgs w1.heap.size wp a n A L C X ∧ Packed L X w.heap.size w1.heap.size wp (.slice a5 G.length c5) G xs ∧ Packs L n size 0 G ∧ Below w.heap.size w wp ∧ (G = [] → a5 = none)) :=
            ⟨Q.out.1, ((H.out.below P1.out.2.2.1).mono zw).below Q.out.2, P1.out.1.below Q.out.2, P1.out.2.1, P1.out.2.2.1.trans (Q.out.2.mono zw), P1.out.2.2.2⟩
          clear Q PR P1 H hk hlt
          go_wp2_with fail
          go_loopw [9, 10] (fun gv sv wr => ∃ (gi s m : Nat) (gs0 gs : List (Nat × Nat)), s ≤ n ∧ gi ≤ G.length ∧ gv = .int .i64 gi ∧ sv = .int .i64 s ∧ Hid (G = gs0 ++ gs ∧ gi = gs0.length ∧ Packs L n size s gs ∧ wr = wp.drewN m)) (fun _ sv _ => n - (intOf sv).toNat)
          case atStart => exact ⟨0, 0, 0, [], G, Nat.zero_le _, Nat.zero_le _, rfl, rfl, ⟨rfl, rfl, PP.out.2.2.2.1, rfl⟩⟩
          case round =>
            obtain ⟨gi, s, m, gs0, gs, hsn, hgi, rfl, rfl, R⟩ := hrel
            by_cases hlt : s < n
            · obtain ⟨b, off, rfl, _, hc⟩ := PP.out.2.1.row (by omega)
              have gm : wr.cell? ⟨b, off + s, none⟩ = some (.slice (A s) (L s) (C s)) := by rw [R.out.2.2.2]; exact hc s hlt
              clear hc
              by_cases hL : L s = 0
              · rw [hL] at gm
                go_wp2_with fail
                go_roundw
                case rel => exact ⟨gi, s + 1, m, gs0, gs, by omega, hgi, rfl, by go_num, ⟨R.out.1, R.out.2.1, R.out.2.2.1.at_empty hlt hL, R.out.2.2.2⟩⟩
                case measure => simp [intOf]; omega
              · have hL' : ((L s : Int) == 0) = false := by simp; omega
                obtain ⟨k, gs', hgs, hk, hall, hno, hp⟩ := R.out.2.2.1.at_full hlt (by omega)
                obtain ⟨t, ht⟩ : ∃ t, s + k + 1 = t := ⟨_, rfl⟩
                have K : Hid (gs = (s, k) :: gs' ∧ s + k < n ∧ (∀ i, i < k → (jl L s (i + 1) : Int) ≤ size) ∧ (s + k + 1 = n ∨ size < (jl L s (k + 1) : Int)) ∧ Packs L n size (s + k + 1) gs' ∧ s + k + 1 = t) := ⟨hgs, hk, hall, hno, hp, ht⟩
                have hst : s + 1 ≤ t := by omega
                have htn : t ≤ n := by omega
                clear hgs hk hall hno hp ht
                obtain ⟨wq, hwq⟩ : ∃ wq, wq = wr := ⟨_, rfl⟩
                subst hwq
                go_wp2_with fail
                go_loopw [11, 12] (fun lv hv wr => ∃ (lo hi m2 : Nat), s + 1 ≤ lo ∧ lo ≤ t ∧ t ≤ hi ∧ hi ≤ n ∧ lv = .int .i64 lo ∧ hv = .int .i64 hi ∧ Hid (wr = wq.drewN m2)) (fun lv hv _ => (intOf hv).toNat - (intOf lv).toNat)
                case atStart => exact ⟨s + 1, n, 0, by omega, by omega, by omega, by omega, by go_num, rfl, rfl⟩
                case round =>
                  obtain ⟨lo, hi, m2, h1, h2, h3, h4, rfl, rfl, HQ⟩ := hrel
                  by_cases hlh : lo < hi
                  · obtain ⟨md, hmd⟩ : ∃ md : Nat, (hi : Int) - ((hi : Int) - (lo : Int)) / 2 = (md : Int) := ⟨hi - (hi - lo) / 2, by omega⟩
                    have hm1 : lo < md := by omega
                    have hm2 : md ≤ hi := by omega
                    have hmn : md ≤ n := by omega
                    have hms : md < n + 1 := by omega
                    have hss : s < n + 1 := by omega
                    have gmd : wr.cell? ⟨w1.heap.size, md, none⟩ = some (.int .i64 (psum L md)) := by rw [HQ.out, R.out.2.2.2]; exact PP.out.1.read hmn
                    have gsd : wr.cell? ⟨w1.heap.size, s, none⟩ = some (.int .i64 (psum L s)) := by rw [HQ.out, R.out.2.2.2]; exact PP.out.1.read hsn
                    have p1 : psum L md ≤ 1048576 := Nat.le_trans (psum_mono L hmn) hs
                    have p2 : psum L s ≤ 1048576 := Nat.le_trans (psum_mono L hsn) hs
                    have PB : Hid ((psum L md : Int) - (psum L s : Int) + 3 * ((md : Int) - (s : Int) - 1) ≤ size ↔ md ≤ t) := probe K.out.2.2.1 K.out.2.2.2.1 K.out.2.2.2.2.2 (by omega) hmn
                    go_wp2_with fail
                    clear hmd
                    have i1 : IntKind.i64.wrap (md : Int) = (md : Int) := IntWalk.i64_in _ (by omega)
                    have i2 : IntKind.i64.wrap (s : Int) = (s : Int) := IntWalk.i64_in _ (by omega)
                    have i3 : (md : Int) < ((n + 1 : Nat) : Int) := by omega
                    have i4 : (s : Int) < ((n + 1 : Nat) : Int) := by omega
                    have i5 : IntKind.i64.wrap ((psum L md : Int) - (psum L s : Int)) = (psum L md : Int) - (psum L s : Int) := IntWalk.i64_in _ (by omega)
                    have i6 : IntKind.i64.wrap ((md : Int) - (s : Int)) = (md : Int) - (s : Int) := IntWalk.i64_in _ (by omega)
                    have i7 : IntKind.i64.wrap ((md : Int) - (s : Int) - 1) = (md : Int) - (s : Int) - 1 := IntWalk.i64_in _ (by omega)
                    have i8 : IntKind.i64.wrap (3 * ((md : Int) - (s : Int) - 1)) = 3 * ((md : Int) - (s : Int) - 1) := IntWalk.i64_in _ (by omega)
                    have i9 : IntKind.i64.wrap ((psum L md : Int) - (psum L s : Int) + 3 * ((md : Int) - (s : Int) - 1)) = (psum L md : Int) - (psum L s : Int) + 3 * ((md : Int) - (s : Int) - 1) := IntWalk.i64_in _ (by omega)
                    go_quiet (fail)
                    by_cases hfit : (psum L md : Int) - (psum L s : Int) + 3 * ((md : Int) - (s : Int) - 1) ≤ size
                    · have hmt : md ≤ t := PB.out.1 hfit
                      go_wp2_with fail
                      go_roundw
                      case rel => exact ⟨md, hi, m2 + nq, by omega, hmt, h3, h4, rfl, rfl, show _ = _ from by rw [HQ.out]; simp⟩
                      case measure => simp [intOf]; omega
                    · have hmt : t < md := by
                        by_cases h : md ≤ t
                        · exact absurd (PB.out.2 h) hfit
                        · omega
                      go_wp2_with fail
                      go_roundw
                      case rel => exact ⟨lo, md - 1, m2 + nq, by omega, h2, by omega, by omega, rfl, by go_num, show _ = _ from by rw [HQ.out]; simp⟩
                      case measure => simp [intOf]; omega
                  · obtain rfl : lo = t := by omega
                    obtain rfl : hi = lo := by omega
                    have HR : Hid (wr = wp.drewN (m + m2)) := show _ = _ from by rw [HQ.out, R.out.2.2.2]; simp
                    have hG : G[gi]? = some (s, k) := by
                      rw [R.out.1, K.out.1, R.out.2.1]
                      simp
                    have hgl : gi < G.length := (List.getElem?_eq_some_iff.1 hG).1
                    have hgn : G.length ≤ n := by have := PP.out.2.2.2.1.count; omega
                    obtain ⟨bd, cd, hxi, hrow⟩ := PP.out.2.2.1.row hG
                    obtain ⟨g5, cap5, hv5, _, _⟩ := PP.out.2.2.1.own.form (by omega)
                    obtain ⟨rfl, -, rfl⟩ : a5 = some ⟨g5, 0, none⟩ ∧ G.length = G.length ∧ c5 = cap5 := by simpa using hv5
                    have gd : wr.cell? ⟨g5, gi, none⟩ = some (.slice (some ⟨bd, 0, none⟩) (jl L s k) cd) := by
                      have h := PP.out.2.2.1.own.cells (g := g5) rfl gi _ hxi
                      have hadd : (⟨g5, 0, none⟩ : Addr).add gi = ⟨g5, gi, none⟩ := by unfold Addr.add; split <;> simp_all
                      rw [hadd] at h
                      rw [HR.out]
                      exact h
                    have RW : Hid (RowB w1.heap.size wr (some ⟨bd, 0, none⟩) (jl L s k) (dgF L X s k) ∧ Msgs w1.heap.size wr (some ⟨b, off, none⟩) n A L C X) := by
                      rw [HR.out]
                      exact ⟨hrow.below (below_drewN' _ _ _), PP.out.2.1.below (below_drewN' _ _ _)⟩
                    clear hrow hxi hv5 hG
                    go_wp2_with fail
                    refine (joined_any w1.heap.size n c s k hi (jl L s k) cd (some ⟨b, off, none⟩) (some ⟨bd, 0, none⟩) A L C X wr RW.out.2 hn hs K.out.2.1 (by omega) K.out.2.2.2.2.2 rfl RW.out.1).mono ?_
                    rintro e w3 ⟨rfl, m3, hw3⟩
                    have HR3 : Hid (w3 = wp.drewN (m + m2 + m3)) := show _ = _ from by rw [hw3, HR.out]; simp
                    clear hw3
                    go_wp2_with fail
                    go_roundw
                    case rel => exact ⟨gi + 1, hi, m + m2 + m3, gs0 ++ [(s, k)], gs', by omega, by omega, by go_num, rfl, ⟨by rw [R.out.1, K.out.1]; simp, by rw [R.out.2.1]; simp, by have := K.out.2.2.2.2.1; rwa [K.out.2.2.2.2.2] at this, HR3.out⟩⟩
                    case measure => simp [intOf]; omega
            · obtain rfl : n = s := by omega
              have hgs : gs = [] := R.out.2.2.1.at_end
              have hG : G.length = gi := by rw [R.out.1, hgs, R.out.2.1]; simp
              have FB : Hid (Below w.heap.size w wr) := by rw [R.out.2.2.2]; exact PP.out.2.2.2.2.1.trans (below_drewN' _ _ _)
              have hgg : ((gi : Int) != (gi : Int)) = false := by simp
              have HN : Hid (G = [] → a5 = none) := PP.out.2.2.2.2.2
              rw [hG]
              by_cases hg0 : gi = 0
              · have ha : a5 = none := HN.out (List.length_eq_zero_iff.1 (by omega))
                subst ha
                subst hg0
                go_wp2_with fail
                go_returns
                exact ⟨rfl, FB.out⟩
              · have hg0' : ((gi : Int) == 0) = false := by simp; omega
                go_wp2_with fail
                go_returns
                exact ⟨rfl, FB.out⟩

end Go.Proofs.Qxb6619301a
