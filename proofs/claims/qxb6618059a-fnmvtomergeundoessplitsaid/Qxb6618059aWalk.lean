/-
  zzMvtoB1WalkTree AND zzMvtoB1Flat.
-/
import Derived.Test.Qxb6618059aPush
import Derived.Test.Qxb6618059aOrder
import Derived.Deep.RegionHeld3
import Derived.Deep.AppendLies
import Derived.Deep.DeepCutAuto
import Derived.Deep.RegionLaw
import Derived.Deep.DrawnRows
namespace Go.Proofs.Qxb6618059a
open Go.RowKit Go.Deep

/-- WHAT THE WALK HAS GATHERED, in the struct at block bw: heap is true, over is false; its two lists lie in blocks above bw of their own. -/
structure WSt (bw : Nat) (w : World) (ks : List ByteArray) (es : List Int) (kv ev : Value) : Prop where
  blk : w.heap[bw]? = some (.cells #[kv, ev, .bool true, .bool false] 43)
  kown : w.ownsRow (bw + 1) 9 1 kv ks.length (ks.map Value.string)
  eown : w.ownsRow (bw + 1) 36 1 ev es.length (es.map (Value.int .u64))
  apart : kv.ownBlock = none ∨ kv.ownBlock ≠ ev.ownBlock

theorem owns_slice {w : World} {base : Nat} {e : TypeId} {v : Value} {n : Nat} {xs : List Value} (h : w.ownsRow base e 1 v n xs) : ∃ a c, v = .slice a n c := by
  rcases h.2 with ⟨rfl, rfl⟩ | ⟨g, cap, cur, rfl, _⟩
  · exact ⟨none, 0, rfl⟩
  · exact ⟨_, cap, rfl⟩

theorem WSt.cells {bw : Nat} {w : World} {ks : List ByteArray} {es : List Int} {kv ev : Value} (h : WSt bw w ks es kv ev) :
    w.cell? ⟨bw, 0, none⟩ = some kv ∧ w.cell? ⟨bw, 1, none⟩ = some ev ∧ w.cell? ⟨bw, 2, none⟩ = some (.bool true) ∧ w.cell? ⟨bw, 3, none⟩ = some (.bool false) ∧
    w.frozen? ⟨bw, 0, none⟩ = false ∧ w.frozen? ⟨bw, 1, none⟩ = false := by
  have hb := h.blk
  refine ⟨?_, ?_, ?_, ?_, ?_, ?_⟩ <;> simp [World.cell?, World.frozen?, hb]

theorem owns_of {w w' : World} {base : Nat} {e : TypeId} {v : Value} {n : Nat} {xs : List Value} (h : w.ownsRow base e 1 v n xs) (hs : ∀ k, v.ownBlock = some k → w'.heap[k]? = w.heap[k]?) : w'.ownsRow base e 1 v n xs := by
  refine ⟨h.1, ?_⟩
  rcases h.2 with hn | ⟨g, cap, cur, rfl, hb, hgg, rest⟩
  · exact .inl hn
  · exact .inr ⟨g, cap, cur, rfl, hb, by rw [hs g rfl]; exact hgg, rest⟩

section
variable {bw : Nat} {w1 Wa w2 : World} {ks : List ByteArray} {es : List Int} {kv ev : Value}

theorem WSt.lt (h : WSt bw w1 ks es kv ev) : bw < w1.heap.size := (Array.getElem?_eq_some_iff.1 h.blk).1
theorem WSt.far (h : WSt bw w1 ks es kv ev) : some bw ≠ kv.ownBlock ∧ some bw ≠ ev.ownBlock :=
  ⟨fun e => by have := (h.kown.lt bw e.symm).1; omega, fun e => by have := (h.eown.lt bw e.symm).1; omega⟩

/-- The struct's block behind an append to one of its lists. -/
theorem WSt.blk_k (h : WSt bw w1 ks es kv ev) (hb : Below w1.heap.size w1 Wa) (hg : Wa.grownBy w2 kv.ownBlock) : w2.heap[bw]? = some (.cells #[kv, ev, .bool true, .bool false] 43) := by
  rw [hg.block bw (Nat.lt_of_lt_of_le h.lt hb.size) h.far.1, hb.block bw h.lt]
  exact h.blk
theorem WSt.blk_e (h : WSt bw w1 ks es kv ev) (hb : Below w1.heap.size w1 Wa) (hg : Wa.grownBy w2 ev.ownBlock) : w2.heap[bw]? = some (.cells #[kv, ev, .bool true, .bool false] 43) := by
  rw [hg.block bw (Nat.lt_of_lt_of_le h.lt hb.size) h.far.2, hb.block bw h.lt]
  exact h.blk
theorem blk_cells (h : w2.heap[bw]? = some (.cells #[kv, ev, .bool true, .bool false] 43)) :
    w2.cell? ⟨bw, 0, none⟩ = some kv ∧ w2.cell? ⟨bw, 1, none⟩ = some ev ∧ w2.frozen? ⟨bw, 0, none⟩ = false ∧ w2.frozen? ⟨bw, 1, none⟩ = false := by
  refine ⟨?_, ?_, ?_, ?_⟩ <;> simp [World.cell?, World.frozen?, h]

theorem WSt.key {g cap n : Nat} {k : ByteArray} (h : WSt bw w1 ks es kv ev) (hb : Below w1.heap.size w1 Wa) (hg : Wa.grownBy w2 kv.ownBlock) (hn : n = ks.length)
    (hown : w2.ownsRow (bw + 1) 9 1 (.slice (some ⟨g, 0, none⟩) (n + 1) cap) (n + 1) (ks.map Value.string ++ [.string k])) (hat : kv.ownBlock = some g ∨ g = Wa.heap.size) :
    WSt bw (w2.setCell ⟨bw, 0, none⟩ (.slice (some ⟨g, 0, none⟩) (n + 1) cap)) (ks ++ [k]) es (.slice (some ⟨g, 0, none⟩) (n + 1) cap) ev ∧ Below bw w1 (w2.setCell ⟨bw, 0, none⟩ (.slice (some ⟨g, 0, none⟩) (n + 1) cap)) := by
  subst hn
  have hlt := h.lt
  have hne : ∀ j, ev.ownBlock = some j → some j ≠ kv.ownBlock := fun j hj e => by
    rcases h.apart with h0 | h0
    · rw [h0] at e; cases e
    · exact h0 (e.symm.trans hj.symm)
  refine ⟨⟨heap_set (h.blk_k hb hg) _, ?_, ?_, ?_⟩, ?_⟩
  · have := ownsRow_setCell_below hown (a := ⟨bw, 0, none⟩) (Nat.lt_succ_self _) (.slice (some ⟨g, 0, none⟩) (ks.length + 1) cap)
    simpa using this
  · refine ownsRow_setCell_below (owns_of h.eown fun j hj => ?_) (a := ⟨bw, 0, none⟩) (Nat.lt_succ_self _) _
    have hj2 := (h.eown.lt j hj).2
    rw [hg.block j (Nat.lt_of_lt_of_le hj2 hb.size) (hne j hj), hb.block j hj2]
  · right
    intro e
    have e' : ev.ownBlock = some g := e.symm
    rcases hat with h0 | h0
    · exact hne g e' h0.symm
    · have := (h.eown.lt g e').2
      have := hb.size
      omega
  · refine Below.setCell (p := ⟨bw, 0, none⟩) ?_ (Nat.le_refl bw) _
    refine ⟨hg.os.trans hb.os, hg.tape.trans hb.tape, hg.output.trans hb.output, Nat.le_trans hb.size hg.size, fun j hj => ?_⟩
    rw [hg.block j (by have := hb.size; omega) (fun e => by have := (h.kown.lt j e.symm).1; omega), hb.block j (by omega)]

theorem WSt.eff {g cap n : Nat} {x : Int} (h : WSt bw w1 ks es kv ev) (hb : Below w1.heap.size w1 Wa) (hg : Wa.grownBy w2 ev.ownBlock) (hn : n = es.length)
    (hown : w2.ownsRow (bw + 1) 36 1 (.slice (some ⟨g, 0, none⟩) (n + 1) cap) (n + 1) (es.map (Value.int .u64) ++ [.int .u64 x])) (hat : ev.ownBlock = some g ∨ g = Wa.heap.size) :
    WSt bw (w2.setCell ⟨bw, 1, none⟩ (.slice (some ⟨g, 0, none⟩) (n + 1) cap)) ks (es ++ [x]) kv (.slice (some ⟨g, 0, none⟩) (n + 1) cap) ∧ Below bw w1 (w2.setCell ⟨bw, 1, none⟩ (.slice (some ⟨g, 0, none⟩) (n + 1) cap)) := by
  subst hn
  have hlt := h.lt
  have hne : ∀ j, kv.ownBlock = some j → some j ≠ ev.ownBlock := fun j hj e => by
    rcases h.apart with h0 | h0
    · rw [h0] at hj; cases hj
    · exact h0 (hj.trans e)
  refine ⟨⟨heap_set (h.blk_e hb hg) _, ?_, ?_, ?_⟩, ?_⟩
  · refine ownsRow_setCell_below (owns_of h.kown fun j hj => ?_) (a := ⟨bw, 1, none⟩) (Nat.lt_succ_self _) _
    have hj2 := (h.kown.lt j hj).2
    rw [hg.block j (Nat.lt_of_lt_of_le hj2 hb.size) (hne j hj), hb.block j hj2]
  · have := ownsRow_setCell_below hown (a := ⟨bw, 1, none⟩) (Nat.lt_succ_self _) (.slice (some ⟨g, 0, none⟩) (es.length + 1) cap)
    simpa using this
  · cases hk : kv.ownBlock with
    | none => exact Or.inl rfl
    | some j =>
      right
      intro e
      have e' : kv.ownBlock = some g := hk.trans e
      rcases hat with h0 | h0
      · exact hne g e' h0.symm
      · have := (h.kown.lt g e').2
        have := hb.size
        omega
  · refine Below.setCell (p := ⟨bw, 1, none⟩) ?_ (Nat.le_refl bw) _
    refine ⟨hg.os.trans hb.os, hg.tape.trans hb.tape, hg.output.trans hb.output, Nat.le_trans hb.size hg.size, fun j hj => ?_⟩
    rw [hg.block j (by have := hb.size; omega) (fun e => by have := (h.eown.lt j e.symm).1; omega), hb.block j (by omega)]
end

theorem Try.info9 : (Try.prog.info? 9).map (fun i => (i.zero, i.size, i.bytes)) = some (some (.string ByteArray.empty), 1, 16) := by kernel_rfl
theorem Try.info36 : (Try.prog.info? 36).map (fun i => (i.zero, i.size, i.bytes)) = some (some (.int .u64 0), 1, 8) := by kernel_rfl

theorem ptr_form (T : BT Nod) : ∃ p, T.ptr = .pointer p := by cases T <;> exact ⟨_, rfl⟩

/-- A child: nil, or a node whose priority is no greater. -/
def Kid (w : World) (p : Int) (u : Option Addr) : Prop := u = none ∨ ∃ c x, u = some ⟨c, 0, none⟩ ∧ w.cell? ⟨c, 3, none⟩ = some (.int .u64 x) ∧ x ≤ p
theorem kid_of {w : World} {p : Int} {T : BT Nod} {u : Option Addr} (h : InT w T) (hu : under p T) (e : T.ptr = .pointer u) : Kid w p u := by
  cases T with
  | nil => left; simpa [BT.ptr] using e.symm
  | node b o a l r =>
    obtain ⟨rfl, h2, _⟩ := h
    have : u = some ⟨b, 0, none⟩ := by simpa [BT.ptr] using e.symm
    exact Or.inr ⟨b, a.pr, this, (nobj_cells h2).2.2.2.1, hu⟩

/-- What a walk of T leaves. -/
def WalkOK (bw : Nat) (T : BT Nod) (acc : Int) (w : World) (ks : List ByteArray) (es : List Int) (w' : World) : Prop :=
  ∃ kv ev, WSt bw w' (ks ++ (flat acc T).map (·.1)) (es ++ (flat acc T).map (·.2)) kv ev ∧ Below bw w w'
def WalkSaid (bw limit : Nat) (T : BT Nod) : Prop :=
  ∀ (acc depth' : Int) (depth : Nat) (w : World) (ks : List ByteArray) (es : List Int) (kv ev : Value), depth' = depth → InT w T → (∀ x ∈ blocks T, x < bw) → hp T → ks.length + size T ≤ limit → depth + size T ≤ limit →
    WSt bw w ks es kv ev → es.length = ks.length →
    Calls Try.prog 22 #[T.ptr, .int .u64 acc, .int .i64 depth', .int .i64 limit, .pointer (some ⟨bw, 0, none⟩)] w fun e w' => e = .returned (.tuple #[]) ∧ WalkOK bw T acc w ks es w'

set_option maxRecDepth 100000 in
set_option maxHeartbeats 1600000 in
theorem walk_node (bw b limit : Nat) (a : Nod) (l r : BT Nod) (h3 : limit ≤ 1048576) (IHL : WalkSaid bw limit l) (IHR : WalkSaid bw limit r) : WalkSaid bw limit (.node b 0 a l r) := by
  intro acc depth' depth w ks es kv ev hdep hin hlow hh h1 h2 hst hes
  subst hdep
  show Calls Try.prog 22 #[.pointer (some ⟨b, 0, none⟩), .int .u64 acc, .int .i64 depth, .int .i64 limit, .pointer (some ⟨bw, 0, none⟩)] w _
  obtain ⟨ka, kc, rfl⟩ := owns_slice hst.kown
  obtain ⟨ea, ec, rfl⟩ := owns_slice hst.eown
  obtain ⟨c0, c1, c2, c3, f0, f1⟩ := hst.cells
  obtain ⟨n0, n1, n2, n3, n4, n5⟩ := nobj_cells hin.2.1
  have d1 : (depth : Int) < limit := by simp only [size] at h2; omega
  have d2 : (ks.length : Int) < limit := by simp only [size] at h1; omega
  obtain ⟨lu, hlu⟩ := ptr_form l
  obtain ⟨ru, hru⟩ := ptr_form r
  have KL : Hid (Kid w a.pr lu) := kid_of hin.2.2.2.2.1 hh.1 hlu
  have KR : Hid (Kid w a.pr ru) := kid_of hin.2.2.2.2.2 hh.2.1 hru
  rw [hlu] at n4
  rw [hru] at n5
  have H : Hid (InT w (.node b 0 a l r) ∧ (∀ x ∈ blocks (.node b 0 a l r), x < bw) ∧ hp (.node b 0 a l r) ∧ ks.length + size (.node b 0 a l r) ≤ limit ∧ depth + size (.node b 0 a l r) ≤ limit ∧ WSt bw w ks es (.slice ka ks.length kc) (.slice ea es.length ec) ∧ es.length = ks.length ∧ l.ptr = .pointer lu ∧ r.ptr = .pointer ru) := ⟨hin, hlow, hh, h1, h2, hst, hes, hlu, hru⟩
  clear hin hlow hh h1 h2 hst hes hlu hru
  go_enter Try.func22, Try.ntmps22
  go_upto_if 44 with (first | (go_at_call 17; go_in))
  go_cut [10] (fun s wc => s = .int .u64 (max acc a.al) ∧ w = wc)
  case first =>
    by_cases hal : acc < a.al
    · go_wp2_with fail
      go_meet
      case rel => exact ⟨by rw [show max acc a.al = a.al by omega]; rfl, rfl⟩
    · go_wp2_with fail
      go_meet
      case rel => exact ⟨by rw [show max acc a.al = acc by omega], rfl⟩
  case rest =>
    obtain ⟨rfl, rfl⟩ := hcut
    go_upto_region 10 with (first | (go_at_call 26; go_in) | (go_at_call 27; go_in) | (go_at_call 28; go_in))
    go_cut [59] (fun s wc => s = .bool false ∧ w = wc)
    case first =>
      rcases KL.out with rfl | ⟨c, x, rfl, hx, hle⟩
      · go_wp2_with fail
        go_meet
        case rel => exact ⟨rfl, rfl⟩
      · have hd : decide (a.pr < x) = false := decide_eq_false (by omega)
        go_wp2_with (first | (go_at_call 28; go_in))
        go_meet
        case rel => exact ⟨by simp, rfl⟩
    case rest =>
      obtain ⟨rfl, rfl⟩ := hcut
      go_upto_region 12 with fail
      go_cut [70] (fun s wc => s = .bool false ∧ w = wc)
      case first =>
        rcases KR.out with rfl | ⟨c, x, rfl, hx, hle⟩
        · go_wp2_with fail
          go_meet
          case rel => exact ⟨rfl, rfl⟩
        · have hd : decide (a.pr < x) = false := decide_eq_false (by omega)
          go_wp2_with (first | (go_at_call 28; go_in))
          go_meet
          case rel => exact ⟨by simp, rfl⟩
      case rest =>
        obtain ⟨rfl, rfl⟩ := hcut
        go_wp2_with fail
        rw [← H.out.2.2.2.2.2.2.2.1]
        refine (IHL (max acc a.al) _ (depth + 1) w ks es _ _ (by omega) ?_ ?_ ?_ ?_ ?_ H.out.2.2.2.2.2.1 H.out.2.2.2.2.2.2.1).mono ?_
        · exact H.out.1.2.2.2.2.1
        · exact fun x hx => H.out.2.1 x (by simp [blocks, hx])
        · exact H.out.2.2.1.2.2.1
        · have := H.out.2.2.2.1; simp only [size] at this; omega
        · have := H.out.2.2.2.2.1; simp only [size] at this; omega
        rintro e w1 ⟨rfl, kv1, ev1, st1, bel1⟩
        obtain ⟨ka1, kc1, rfl⟩ := owns_slice st1.kown
        obtain ⟨ea1, ec1, rfl⟩ := owns_slice st1.eown
        have hin1 : InT w1 (.node b 0 a l r) := inT_of H.out.1 fun x hx => bel1.block x (H.out.2.1 x hx)
        have lbw : b < bw := H.out.2.1 b (by simp [blocks])
        have d3 : ((ks ++ (flat (max acc a.al) l).map (·.1)).length : Int) < limit := by
          have := H.out.2.2.2.1
          simp only [size] at this
          simp only [List.length_append, List.length_map, flat_size]
          omega
        have d4 : (es ++ (flat (max acc a.al) l).map (·.2)).length = (ks ++ (flat (max acc a.al) l).map (·.1)).length := by
          simp only [List.length_append, List.length_map, H.out.2.2.2.2.2.2.1]
        have d5 : (ks ++ (flat (max acc a.al) l).map (·.1)).length = ks.length + size l := by simp only [List.length_append, List.length_map, flat_size]
        clear c0 c1 c2 c3 f0 f1 n0 n1 n2 n3 n4 n5 d2
        generalize hk1 : ks ++ (flat (max acc a.al) l).map (·.1) = ks1 at *
        generalize he1 : es ++ (flat (max acc a.al) l).map (·.2) = es1 at *
        have HK : Hid (ks ++ (flat (max acc a.al) l).map (·.1) = ks1 ∧ es ++ (flat (max acc a.al) l).map (·.2) = es1 ∧ es1.length = ks1.length ∧ ks1.length = ks.length + size l) := ⟨hk1, he1, d4, d5⟩
        clear hk1 he1 d4 d5
        obtain ⟨c0, c1, c2, c3, f0, f1⟩ := st1.cells
        obtain ⟨n0, n1, n2, n3, n4, n5⟩ := nobj_cells hin1.2.1
        have H1 : Hid (WSt bw w1 ks1 es1 (.slice ka1 ks1.length kc1) (.slice ea1 es1.length ec1) ∧ Below bw w w1 ∧ InT w1 (.node b 0 a l r)) := ⟨st1, bel1, hin1⟩
        clear st1 bel1 hin1
        go_upto_if 99 with (first | (go_at_call 29; go_in))
        go_cut [15] (fun s wc => s = .int .u64 (max a.ts (max acc a.al)) ∧ w1 = wc)
        case first =>
          by_cases hal : a.ts < max acc a.al
          · go_wp2_with fail
            go_meet
            case rel => exact ⟨by rw [show max a.ts (max acc a.al) = max acc a.al by omega], rfl⟩
          · go_wp2_with fail
            go_meet
            case rel => exact ⟨by rw [show max a.ts (max acc a.al) = a.ts by omega], rfl⟩
        case rest =>
          obtain ⟨rfl, rfl⟩ := hcut
          go_upto_region 21 with fail
          have hs1 : bw + 1 ≤ w1.heap.size := H1.out.1.lt
          go_cut [] (fun wc => ∃ kv2, Hid (WSt bw wc (ks1 ++ [a.key]) es1 kv2 (.slice ea1 es1.length ec1) ∧ Below bw w1 wc))
          case first =>
            obtain ⟨i0, hi0, hz0, hz1, hz2⟩ := info_parts Try.info9
            have ca : ∀ o, (w1.alloc o).cell? ⟨bw, 0, none⟩ = some (.slice ka1 ks1.length kc1) := fun o => (World.cell?_alloc_lt _ _ _ (by exact hs1)).trans c0
            go_region_law (first | (refine step_append_lies _ (by rfl) (.tmp 105) (.tmp 108) 22 (by rfl) (bw + 1) 9 i0 (.string ByteArray.empty) 1 16 Try.underlying22 hi0 hz0 hz1 hz2 rfl (by omega) (.slice ka1 ks1.length kc1) ks1.length (ks1.map Value.string) (by rfl) ((H1.out.1.kown.alloc _).drew) ⟨w1.heap.size, 0, none⟩ 1 1 [.string a.key] (by rfl) (by rfl) (World.news_of_block (cs := #[.string a.key]) (t := 9) (fr := (0, 0)) (heap_alloc_new w1 _)) (by simp [Value.oneCell']) (by omega) (by unfold maxLen; omega) (by omega) (by simp; omega) (w1.heap.size + 1) (by simp) ?_; intro g cap w2 hown2 hgrow hat hlt; have hbk := blk_cells (H1.out.1.blk_k (((Below.refl _ w1).alloc (Nat.le_refl _) _).drew) hgrow)) | (go_simp; go_at_call 30; refine (get_key b a.key _ ?_).mono ?_; (exact n0); rintro e w' ⟨rfl, rfl⟩))
            all_goals
              have R := H1.out.1.key (((Below.refl _ w1).alloc (Nat.le_refl _) _).drew) hgrow rfl hown2 (by rcases hat with h | h; exact .inl h; exact .inr (by rw [h]; simp))
              have RR : Hid (WSt bw (w2.setCell ⟨bw, 0, none⟩ (.slice (some ⟨g, 0, none⟩) (ks1.length + 1) cap)) (ks1 ++ [a.key]) es1 (.slice (some ⟨g, 0, none⟩) (ks1.length + 1) cap) (.slice ea1 es1.length ec1) ∧ Below bw w1 (w2.setCell ⟨bw, 0, none⟩ (.slice (some ⟨g, 0, none⟩) (ks1.length + 1) cap))) := R
              clear R hown2 hgrow hat
              go_wp2_with fail
              go_meet
              case rel => exact ⟨_, RR⟩
          case rest =>
            obtain ⟨kv2, hw2⟩ := hcut
            have hs2 : bw + 1 ≤ wc.heap.size := hw2.out.1.lt
            obtain ⟨b0, b1, b2, b3, g0, g1⟩ := hw2.out.1.cells
            obtain ⟨i0, hi0, hz0, hz1, hz2⟩ := info_parts Try.info36
            have dk := HK.out.2.2.1
            have hle : es1.length ≤ 1048576 := by omega
            clear dk
            go_wp2_with (at_builtin; refine wpList_append_lies _ rfl (.tmp 116) (.tmp 118) 23 rfl (bw + 1) 36 i0 (.int .u64 0) 1 8 Try.underlying23 hi0 hz0 hz1 hz2 rfl (by omega) (.slice ea1 es1.length ec1) es1.length (es1.map (Value.int .u64)) (by rfl) (hw2.out.1.eown.alloc _) ⟨wc.heap.size, 0, none⟩ 1 1 [.int .u64 (max a.ts (max acc a.al))] (by rfl) (by rfl) (World.news_of_block (cs := #[.int .u64 (max a.ts (max acc a.al))]) (t := 36) (fr := (0, 0)) (heap_alloc_new wc _)) (by simp [Value.oneCell']) (by omega) (by unfold maxLen; omega) (by omega) (by simp; omega) (wc.heap.size + 1) (by simp) ?_; intro g cap w2 hown2 hgrow hat hlt; have hbk := blk_cells (hw2.out.1.blk_e ((Below.refl _ wc).alloc (Nat.le_refl _) _) hgrow))
            obtain ⟨S3, B3⟩ := hw2.out.1.eff ((Below.refl _ wc).alloc (Nat.le_refl _) _) hgrow rfl hown2 (by rcases hat with h | h; exact .inl h; exact .inr (by rw [h]; simp))
            have B4 : Below bw w (w2.setCell ⟨bw, 1, none⟩ (.slice (some ⟨g, 0, none⟩) (es1.length + 1) cap)) := H1.out.2.1.trans (hw2.out.2.trans B3)
            have hin3 : InT (w2.setCell ⟨bw, 1, none⟩ (.slice (some ⟨g, 0, none⟩) (es1.length + 1) cap)) r := inT_of H.out.1.2.2.2.2.2 fun x hx => B4.block x (H.out.2.1 x (by simp [blocks, hx]))
            rw [← H.out.2.2.2.2.2.2.2.2]
            refine (IHR (max acc a.al) _ (depth + 1) _ (ks1 ++ [a.key]) (es1 ++ [max a.ts (max acc a.al)]) _ _ (by omega) hin3 ?_ ?_ ?_ ?_ S3 ?_).mono ?_
            · exact fun x hx => H.out.2.1 x (by simp [blocks, hx])
            · exact H.out.2.2.1.2.2.2
            · have := H.out.2.2.2.1; have := HK.out.2.2.2; simp only [size, List.length_append, List.length_cons, List.length_nil] at *; omega
            · have := H.out.2.2.2.2.1; simp only [size] at this; omega
            · simp only [List.length_append, List.length_cons, List.length_nil, HK.out.2.2.1]
            rintro e w4 ⟨rfl, kv4, ev4, S4, B5⟩
            have FIN : Hid (WalkOK bw (.node b 0 a l r) acc w ks es w4) := by
              refine ⟨kv4, ev4, ?_, B4.trans B5⟩
              rw [← HK.out.1, ← HK.out.2.1] at S4
              simpa [flat] using S4
            clear S3 B3 B4 hin3 S4 B5 hown2 hgrow hat
            go_wp2_with fail
            go_returns
            exact ⟨rfl, FIN.out⟩

theorem walk_nil (bw limit : Nat) : WalkSaid bw limit .nil := by
  intro acc depth' depth w ks es kv ev hdep _ _ _ _ _ hst _
  have H : Hid (WSt bw w ks es kv ev) := hst
  clear hst hdep
  show Calls Try.prog 22 #[.pointer none, .int .u64 acc, .int .i64 depth', .int .i64 limit, .pointer (some ⟨bw, 0, none⟩)] w _
  go_enter Try.func22, Try.ntmps22
  go_wp2_with fail
  go_returns
  exact ⟨rfl, kv, ev, by simpa [flat] using H.out, Below.refl _ _⟩

theorem walk_any (bw limit : Nat) (h3 : limit ≤ 1048576) (T : BT Nod) : WalkSaid bw limit T := by
  induction T with
  | nil => exact walk_nil bw limit
  | node b o a l r ihl ihr =>
    intro acc depth' depth w ks es kv ev hdep hin hlow hh h1 h2 hst hes
    obtain rfl : o = 0 := hin.1
    exact walk_node bw b limit a l r h3 ihl ihr acc depth' depth w ks es kv ev hdep hin hlow hh h1 h2 hst hes

end Go.Proofs.Qxb6618059a
