/-
  Piggyback BY ITS CONTRACT.
-/
import Derived.Test.Qxb6619301aPack
namespace Go.Proofs.Qxb6619301a
open Go.RowKit

/-- What Piggyback hands back: the slice v of the datagrams G. -/
def PigOK (L : Nat → Nat) (X : Nat → Nat → Int) (n : Nat) (size : Int) (w w' : World) (e : Ending) : Prop :=
  ∃ a c G xs, e = .returned (.slice a G.length c) ∧ Packed L X w.heap.size w'.heap.size w' (.slice a G.length c) G xs ∧ Packs L n size 0 G ∧ Below w.heap.size w w' ∧ (G = [] → a = none)

theorem sep_own {D m : Nat} {w1 : World} {v1 : Value} {xs : List Value} (h : w1.ownsRow D 5 1 v1 (m + ByteArray.size { data := #[46, 13, 10] }) (xs ++ Lib.strCells { data := #[46, 13, 10] })) : w1.ownsRow D 5 1 v1 (m + 3) (xs ++ sepV) := h

theorem flush_below {B n : Nat} {w wr w2 : World} {v : Value} {xs : List Value} {o : Obj} (h : Below B w wr) (hv : wr.ownsRow B 27 1 v n xs) (hg : (wr.alloc o).grownBy w2 v.ownBlock) (hB : B ≤ wr.heap.size) : Below B w w2 := by
  exact (h.alloc hB o).grown hg (by simp; omega) (fun k hk => (hv.lt k hk).1)

theorem fit_own {D j s k : Nat} {w9 : World} {v : Value} {L : Nat → Nat} {X : Nat → Nat → Int} (h : w9.ownsRow D 5 1 v (jl L s k + 3 + L j) (jn L X s k ++ sepV ++ bytesV L X j)) :
    w9.ownsRow D 5 1 v (jn L X s k ++ (sepV ++ bytesV L X j)).length (jn L X s k ++ (sepV ++ bytesV L X j)) := by
  have hl : (jn L X s k ++ (sepV ++ bytesV L X j)).length = jl L s k + 3 + L j := by simp [jn_len, bytesV_len, sepV]; omega
  rw [hl, ← List.append_assoc]
  exact h
theorem fit_none {D j s k : Nat} {w1 : World} {v : Value} {L : Nat → Nat} {X : Nat → Nat → Int} (h0 : L j = 0) (h : w1.ownsRow D 5 1 v (jl L s k + 3) (jn L X s k ++ sepV)) :
    w1.ownsRow D 5 1 v (jn L X s k ++ (sepV ++ bytesV L X j)).length (jn L X s k ++ (sepV ++ bytesV L X j)) := by
  have hb : bytesV L X j = [] := by simp [bytesV, h0]
  rw [hb, List.append_nil]
  have hl : (jn L X s k ++ sepV).length = jl L s k + 3 := by simp [jn_len, sepV]
  rw [hl]
  exact h

set_option maxRecDepth 100000 in
set_option maxHeartbeats 3200000 in
theorem pig_any (n c : Nat) (a : Option Addr) (A : Nat → Option Addr) (L C : Nat → Nat) (X : Nat → Nat → Int) (size : Int) (w : World) (h : Msgs w.heap.size w a n A L C X) (hn : n ≤ 65536) (hs : psum L n ≤ 1048576) :
    Calls Try.prog 6 #[.slice a n c, .int .i64 size] w fun e w' => PigOK L X n size w w' e := by
  have H : Hid (Msgs w.heap.size w a n A L C X) := h
  clear h
  obtain ⟨i27, hi27, hz0, hz1, hz2⟩ := info_parts Try.info27
  obtain ⟨i5, hi5, hy0, hy1, hy2⟩ := info_parts Try.info5
  go_enter Try.func6, Try.ntmps6
  go_wp2_with fail
  go_loopw [5, 6, 11] (fun v5 v6 iv wr => ∃ (j D : Nat) (G : List (Nat × Nat)) (xs ds : List Value), j ≤ n ∧ iv = .int .i64 j ∧ Hid (Sta L X n size w.heap.size D w wr j v5 v6 G xs ds)) (fun _ _ iv _ => n - (intOf iv).toNat)
  case atStart => exact ⟨0, w.heap.size, [], [], [], Nat.zero_le _, rfl, ⟨Packed.nil _ _ _ _ _, World.ownsRow_nil _ _ _ _, Or.inl ⟨rfl, Nat.zero_le _, fun gs h => h⟩, Below.refl _ _, Nat.le_refl _, Nat.le_refl _⟩⟩
  case round =>
    obtain ⟨j, D, G, xs, ds, hj, rfl, T⟩ := hrel
    have zw : w.heap.size ≤ wr.heap.size := T.out.bel.size
    have zD : D ≤ wr.heap.size := T.out.dl
    have zB : w.heap.size ≤ D := T.out.bd
    by_cases hlt : j < n
    · have hLj : L j ≤ 1048576 := Nat.le_trans (le_psum L hlt) hs
      obtain ⟨b, off, rfl, _, hc⟩ := H.out.row (by omega)
      have gj : wr.cell? ⟨b, off + j, none⟩ = some (.slice (A j) (L j) (C j)) := (T.out.bel.cell (p := ⟨b, off + j, none⟩) (World.block_lt_of_cell? w _ (hc j hlt))).trans (hc j hlt)
      clear hc
      have MW : Hid (Msgs w.heap.size wr (some ⟨b, off, none⟩) n A L C X) := H.out.below T.out.bel
      rcases T.out.cur with ⟨hds, hG, hP⟩ | ⟨s, k, hsk, hG, h0, hds, hall, hP⟩
      · subst hds
        have HP : Hid (∀ gs, Packs L n size j gs → Packs L n size 0 (G ++ gs)) := hP
        clear hP
        have hown6 := T.out.own
        rw [List.length_nil] at hown6
        obtain ⟨a6, c6, rfl⟩ := owns_slice hown6
        have O6 : Hid (wr.ownsRow D 5 1 (.slice a6 0 c6) 0 []) := hown6
        clear hown6
        cases hA : A j with
        | none =>
          obtain ⟨hL0, hC0⟩ := H.out.nil j hlt hA
          rw [hA, hL0, hC0] at gj
          go_wp2_with (at_builtin; refine wpList_append_own_none rfl (.tmp 37) (.tmp 38) 27 rfl D 5 i5 1 Try.underlying27 hi5 _ _ _ rfl O6.out rfl ?_)
          go_roundw
          case rel => exact ⟨j + 1, D, G, xs, [], by omega, by go_num, ⟨T.out.pk, T.out.own, Cur.skips hlt hG hL0 HP.out, T.out.bel, T.out.dl, T.out.bd⟩⟩
          case measure => simp [intOf]; omega
        | some ad =>
          rw [hA] at gj
          go_wp2_with (at_builtin; refine wpList_append_own _ rfl (.tmp 37) (.tmp 38) 27 rfl D 5 i5 (.int .u8 0) 1 1 Try.underlying27 hi5 hy0 hy1 hy2 rfl (by decide) _ _ _ rfl O6.out ad (L j) (C j) (bytesV L X j) rfl (by rw [bytesV_len, Nat.mul_one]) (msgs_news MW.out hlt hA) (bytesV_one _ _ _) (by unfold maxLen; omega) (by omega) (by omega) ?_; intro v' w9 hown9 hgrow9 _)
          have BW : Below D wr w9 := own_below O6.out hgrow9 zD
          have TT : Hid (Sta L X n size w.heap.size D w w9 (j + 1) _ v' G xs (bytesV L X j)) :=
            ⟨T.out.pk.below BW, by have := hown9; rw [bytesV_len]; simpa using this, Cur.opens hlt hG HP.out, T.out.bel.trans (BW.mono zB), Nat.le_trans zD BW.size, zB⟩
          clear hown9 hgrow9 BW
          go_roundw
          case rel => exact ⟨j + 1, D, G, xs, _, by omega, by go_num, TT⟩
          case measure => simp [intOf]; omega
      · subst hds
        have HP : Hid ((∀ i, i < k → (jl L s (i + 1) : Int) ≤ size) ∧ ∀ gs, Packs L n size s gs → Packs L n size 0 (G ++ gs)) := ⟨hall, hP⟩
        clear hP hall
        have hjl : jl L s k ≤ psum L n + 3 * n := jl_le (by omega)
        have hjp : 0 < jl L s k := jl_pos h0 k
        have hown6 := T.out.own
        rw [jn_len] at hown6
        obtain ⟨g6, c6, rfl, _, _⟩ := hown6.form hjp
        have OD : Hid (wr.ownsRow D 5 1 (.slice (some ⟨g6, 0, none⟩) (jl L s k) c6) (jl L s k) (jn L X s k)) := hown6
        clear hown6
        have HSK : Hid (s + k + 1 = j) := hsk
        have hskn : s + k < n := by omega
        have hGj : G.length < j := by omega
        clear hsk
        by_cases hfit : ((jl L s k : Nat) : Int) + 3 + (L j : Int) ≤ size
        · have HM : Hid (Cur L X n size (j + 1) G (jn L X s k ++ (sepV ++ bytesV L X j))) := by
            have := Cur.more (X := X) hG h0 (by show ((jl L s k + 3 + L (s + k + 1) : Nat) : Int) ≤ size; rw [HSK.out]; push_cast; omega) HP.out.1 HP.out.2
            rw [HSK.out] at this
            exact this
          cases hA : A j with
          | none =>
            obtain ⟨hL0, hC0⟩ := H.out.nil j hlt hA
            rw [hA, hL0, hC0] at gj
            rw [hL0] at hfit
            go_wp2_with (first
              | (at_builtin; refine Lib.wpList_append_own_string _ rfl (.tmp 35) _ 27 9 rfl D 5 i5 Try.underlying27 Try.underlying9 hi5 hy0 hy1 hy2 _ _ _ rfl OD.out _ rfl (by show jl L s k + 3 ≤ maxLen; unfold maxLen; omega) (by show jl L s k + 3 ≤ 140737488355328; omega) zD ?_; intro v1 w1 hown1 hgrow1 _; have O1 : Hid (w1.ownsRow D 5 1 v1 (jl L s k + 3) (jn L X s k ++ sepV) ∧ Below D wr w1) := ⟨sep_own hown1, own_below OD.out hgrow1 zD⟩; have z1 : D ≤ w1.heap.size := Nat.le_trans zD O1.out.2.size; clear hown1 hgrow1)
              | (at_builtin; refine wpList_append_own_none rfl (.tmp 37) (.tmp 38) 27 rfl D 5 i5 1 Try.underlying27 hi5 _ _ _ rfl O1.out.1 rfl ?_))
            have TT : Hid (Sta L X n size w.heap.size D w w1 (j + 1) _ v1 G xs (jn L X s k ++ (sepV ++ bytesV L X j))) :=
              ⟨T.out.pk.below O1.out.2, fit_none hL0 O1.out.1, HM.out, T.out.bel.trans (O1.out.2.mono zB), z1, zB⟩
            go_roundw
            case rel => exact ⟨j + 1, D, G, xs, _, by omega, by go_num, TT⟩
            case measure => simp [intOf]; omega
          | some ad =>
            rw [hA] at gj
            go_wp2_with (first
              | (at_builtin; refine Lib.wpList_append_own_string _ rfl (.tmp 35) _ 27 9 rfl D 5 i5 Try.underlying27 Try.underlying9 hi5 hy0 hy1 hy2 _ _ _ rfl OD.out _ rfl (by show jl L s k + 3 ≤ maxLen; unfold maxLen; omega) (by show jl L s k + 3 ≤ 140737488355328; omega) zD ?_; intro v1 w1 hown1 hgrow1 _; have O1 : Hid (w1.ownsRow D 5 1 v1 (jl L s k + 3) (jn L X s k ++ sepV) ∧ Below D wr w1) := ⟨sep_own hown1, own_below OD.out hgrow1 zD⟩; have z1 : D ≤ w1.heap.size := Nat.le_trans zD O1.out.2.size; clear hown1 hgrow1)
              | (at_builtin; refine wpList_append_own _ rfl (.tmp 37) (.tmp 38) 27 rfl D 5 i5 (.int .u8 0) 1 1 Try.underlying27 hi5 hy0 hy1 hy2 rfl (by decide) _ _ _ rfl O1.out.1 ad (L j) (C j) (bytesV L X j) rfl (by rw [bytesV_len, Nat.mul_one]) (msgs_news (MW.out.below (O1.out.2.mono zB)) hlt hA) (bytesV_one _ _ _) (by unfold maxLen; omega) (by omega) (by omega) ?_; intro v' w9 hown9 hgrow9 _))
            have BW : Below D wr w9 := O1.out.2.trans (own_below O1.out.1 hgrow9 z1)
            have TT : Hid (Sta L X n size w.heap.size D w w9 (j + 1) _ v' G xs (jn L X s k ++ (sepV ++ bytesV L X j))) :=
              ⟨T.out.pk.below BW, fit_own hown9, HM.out, T.out.bel.trans (BW.mono zB), Nat.le_trans zD BW.size, zB⟩
            clear hown9 hgrow9 BW
            go_roundw
            case rel => exact ⟨j + 1, D, G, xs, _, by omega, by go_num, TT⟩
            case measure => simp [intOf]; omega
        · have hfit' : size < ((jl L s k : Nat) : Int) + 3 + (L j : Int) := by omega
          have HS : Hid (∀ gs, Packs L n size j gs → Packs L n size 0 ((G ++ [(s, k)]) ++ gs)) := by
            have := shuts hskn h0 HP.out.1 (Or.inr (by show size < ((jl L s k + 3 + L (s + k + 1) : Nat) : Int); rw [HSK.out]; push_cast; omega)) HP.out.2
            rw [HSK.out] at this
            exact this
          have hGl : (G ++ [(s, k)]).length ≤ j := by simp; omega
          cases hA : A j with
          | none =>
            obtain ⟨hL0, hC0⟩ := H.out.nil j hlt hA
            rw [hA, hL0, hC0] at gj
            rw [hL0] at hfit hfit'
            go_wp2_with (first
              | (at_builtin; refine wpList_append_lies _ rfl (.tmp 28) (.tmp 30) 22 rfl w.heap.size 27 i27 (.slice none 0 0) 1 24 Try.underlying22 hi27 hz0 hz1 hz2 rfl (by decide) _ _ _ rfl (T.out.pk.own.alloc _) ⟨wr.heap.size, 0, none⟩ 1 1 [.slice (some ⟨g6, 0, none⟩) (jl L s k) c6] rfl rfl (World.news_of_block (cs := #[.slice (some ⟨g6, 0, none⟩) (jl L s k) c6]) (t := 27) (fr := (0, 0)) (heap_alloc_new wr _)) (by simp [Value.oneCell']) (by decide) (by unfold maxLen; omega) (by omega) (by simp; omega) (wr.heap.size + 1) (by simp) ?_; intro g cap w2 hown2 hgrow2 hat2 hlt2; have PK : Hid (Packed L X w.heap.size w2.heap.size w2 (.slice (some ⟨g, 0, none⟩) (G.length + 1) cap) (G ++ [(s, k)]) (xs ++ [.slice (some ⟨g6, 0, none⟩) (jl L s k) c6]) ∧ Below w.heap.size w w2) := ⟨T.out.pk.push T.out.bd OD.out hown2 hgrow2 hat2 hlt2, flush_below T.out.bel T.out.pk.own hgrow2 zw⟩; have z2 : w.heap.size ≤ w2.heap.size := PK.out.2.size; clear hown2 hgrow2 hat2 hlt2)
              | (at_builtin; refine wpList_append_own_none rfl (.tmp 37) (.tmp 38) 27 rfl w2.heap.size 5 i5 1 Try.underlying27 hi5 _ _ _ rfl (World.ownsRow_nil w2 w2.heap.size 5 1) rfl ?_))
            have TT : Hid (Sta L X n size w.heap.size w2.heap.size w w2 (j + 1) _ (.slice none 0 0) (G ++ [(s, k)]) _ []) :=
              ⟨PK.out.1, World.ownsRow_nil _ _ _ _, Cur.skips hlt hGl hL0 HS.out, PK.out.2, Nat.le_refl _, z2⟩
            go_roundw
            case rel => exact ⟨j + 1, _, _, _, _, by omega, by go_num, TT⟩
            case measure => simp [intOf]; omega
          | some ad =>
            rw [hA] at gj
            go_wp2_with (first
              | (at_builtin; refine wpList_append_lies _ rfl (.tmp 28) (.tmp 30) 22 rfl w.heap.size 27 i27 (.slice none 0 0) 1 24 Try.underlying22 hi27 hz0 hz1 hz2 rfl (by decide) _ _ _ rfl (T.out.pk.own.alloc _) ⟨wr.heap.size, 0, none⟩ 1 1 [.slice (some ⟨g6, 0, none⟩) (jl L s k) c6] rfl rfl (World.news_of_block (cs := #[.slice (some ⟨g6, 0, none⟩) (jl L s k) c6]) (t := 27) (fr := (0, 0)) (heap_alloc_new wr _)) (by simp [Value.oneCell']) (by decide) (by unfold maxLen; omega) (by omega) (by simp; omega) (wr.heap.size + 1) (by simp) ?_; intro g cap w2 hown2 hgrow2 hat2 hlt2; have PK : Hid (Packed L X w.heap.size w2.heap.size w2 (.slice (some ⟨g, 0, none⟩) (G.length + 1) cap) (G ++ [(s, k)]) (xs ++ [.slice (some ⟨g6, 0, none⟩) (jl L s k) c6]) ∧ Below w.heap.size w w2) := ⟨T.out.pk.push T.out.bd OD.out hown2 hgrow2 hat2 hlt2, flush_below T.out.bel T.out.pk.own hgrow2 zw⟩; have z2 : w.heap.size ≤ w2.heap.size := PK.out.2.size; clear hown2 hgrow2 hat2 hlt2)
              | (at_builtin; refine wpList_append_own _ rfl (.tmp 37) (.tmp 38) 27 rfl w2.heap.size 5 i5 (.int .u8 0) 1 1 Try.underlying27 hi5 hy0 hy1 hy2 rfl (by decide) _ _ _ rfl (World.ownsRow_nil w2 w2.heap.size 5 1) ad (L j) (C j) (bytesV L X j) rfl (by rw [bytesV_len, Nat.mul_one]) (msgs_news (H.out.below PK.out.2) hlt hA) (bytesV_one _ _ _) (by unfold maxLen; omega) (by omega) (by omega) ?_; intro v' w9 hown9 hgrow9 _))
            have BW : Below w2.heap.size w2 w9 := own_below (World.ownsRow_nil w2 w2.heap.size 5 1) hgrow9 (Nat.le_refl _)
            have TT : Hid (Sta L X n size w.heap.size w2.heap.size w w9 (j + 1) _ v' (G ++ [(s, k)]) _ (bytesV L X j)) :=
              ⟨PK.out.1.below BW, by have := hown9; rw [bytesV_len]; simpa using this, Cur.opens hlt hGl HS.out, PK.out.2.trans (BW.mono z2), BW.size, z2⟩
            clear hown9 hgrow9 BW
            go_roundw
            case rel => exact ⟨j + 1, _, _, _, _, by omega, by go_num, TT⟩
            case measure => simp [intOf]; omega
    · obtain rfl : n = j := by omega
      rcases T.out.cur with ⟨hds, hG, hP⟩ | ⟨s, k, hsk, hG, h0, hds, hall, hP⟩
      · subst hds
        have hown6 := T.out.own
        rw [List.length_nil] at hown6
        obtain ⟨a6, c6, rfl⟩ := owns_slice hown6
        clear hown6
        obtain ⟨a5, c5, rfl⟩ := owns_slice T.out.pk.own
        have FIN : Hid (PigOK L X n size w wr (.returned (.slice a5 G.length c5))) :=
          ⟨a5, c5, G, xs, rfl, T.out.pk.mono zD, by have := hP [] .fin; rwa [List.append_nil] at this, T.out.bel, fun h0 => by have := T.out.pk.bare h0; simp at this; exact this.1⟩
        clear hP
        go_wp2_with fail
        go_returns
        exact FIN.out
      · subst hds
        have hjl : jl L s k ≤ psum L n + 3 * n := jl_le (by omega)
        have hjp : 0 < jl L s k := jl_pos h0 k
        have hown6 := T.out.own
        rw [jn_len] at hown6
        obtain ⟨g6, c6, rfl, _, _⟩ := hown6.form hjp
        have OD : Hid (wr.ownsRow D 5 1 (.slice (some ⟨g6, 0, none⟩) (jl L s k) c6) (jl L s k) (jn L X s k)) := hown6
        clear hown6
        have HS : Hid (Packs L n size 0 (G ++ [(s, k)])) := by
          have := shuts (G := G) (show s + k < n by omega) h0 hall (Or.inl hsk) hP [] (by rw [hsk]; exact .fin)
          rwa [List.append_nil] at this
        have hGn : G.length < n := by omega
        clear hP hall hsk
        go_wp2_with (at_builtin; refine wpList_append_lies _ rfl (.tmp 44) (.tmp 46) 22 rfl w.heap.size 27 i27 (.slice none 0 0) 1 24 Try.underlying22 hi27 hz0 hz1 hz2 rfl (by decide) _ _ _ rfl (T.out.pk.own.alloc _) ⟨wr.heap.size, 0, none⟩ 1 1 [.slice (some ⟨g6, 0, none⟩) (jl L s k) c6] rfl rfl (World.news_of_block (cs := #[.slice (some ⟨g6, 0, none⟩) (jl L s k) c6]) (t := 27) (fr := (0, 0)) (heap_alloc_new wr _)) (by simp [Value.oneCell']) (by decide) (by unfold maxLen; omega) (by omega) (by simp; omega) (wr.heap.size + 1) (by simp) ?_; intro g cap w2 hown2 hgrow2 hat2 hlt2; have PK : Hid (Packed L X w.heap.size w2.heap.size w2 (.slice (some ⟨g, 0, none⟩) (G.length + 1) cap) (G ++ [(s, k)]) (xs ++ [.slice (some ⟨g6, 0, none⟩) (jl L s k) c6]) ∧ Below w.heap.size w w2) := ⟨T.out.pk.push T.out.bd OD.out hown2 hgrow2 hat2 hlt2, flush_below T.out.bel T.out.pk.own hgrow2 zw⟩; have z2 : w.heap.size ≤ w2.heap.size := PK.out.2.size; clear hown2 hgrow2 hat2 hlt2)
        have FIN : Hid (PigOK L X n size w w2 (.returned (.slice (some ⟨g, 0, none⟩) (G.length + 1) cap))) :=
          ⟨some ⟨g, 0, none⟩, cap, G ++ [(s, k)], _, by simp, by simpa using PK.out.1, HS.out, PK.out.2, fun h0 => by simp at h0⟩
        go_returns
        exact FIN.out

end Go.Proofs.Qxb6619301a
