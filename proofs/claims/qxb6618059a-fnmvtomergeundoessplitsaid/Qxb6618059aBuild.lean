/-
  zzMvtoB1Build: THE TREAP OF THE ENTRIES lo .. hi-1 OUT OF NEW BLOCKS.
-/
import Derived.Test.Qxb6618059aPush
import Derived.Test.Qxb6618059aLoops
import Derived.Deep.RegionHeld3
namespace Go.Proofs.Qxb6618059a
open Go.RowKit Go.Deep

/-- The nodes in order. -/
def ent : BT Nod → List Nod
  | .nil => []
  | .node _ _ a l r => ent l ++ a :: ent r

theorem ent_size (T : BT Nod) : (ent T).length = size T := by
  induction T with
  | nil => rfl
  | node b o a l r ihl ihr => simp only [ent, size, List.length_append, List.length_cons, ihl, ihr]; omega
theorem ent_keys (T : BT Nod) : keysOf T = (ent T).map (·.key) := by
  induction T with
  | nil => rfl
  | node b o a l r ihl ihr => rw [keysOf_node, ihl, ihr]; simp [ent]

structure BuildOK (E : Nat → Nod) (lo hi : Nat) (w w' : World) (T : BT Nod) : Prop where
  inT : InT w' T
  bel : Below w.heap.size w w'
  new : ∀ b ∈ blocks T, w.heap.size ≤ b
  nod : (blocks T).Nodup
  ent : ent T = (List.range' lo (hi - lo)).map E
  hp : hp T
  und : ∀ p, (∀ i, lo ≤ i → i < hi → (E i).pr ≤ p) → under p T

theorem build_nil (E : Nat → Nod) (lo hi : Nat) (w : World) (h : hi ≤ lo) : BuildOK E lo hi w w .nil :=
  ⟨trivial, Below.refl _ _, by simp [blocks], by simp [blocks], by rw [show hi - lo = 0 by omega]; rfl, trivial, fun _ _ => trivial⟩

theorem range_cut (lo m hi : Nat) (h1 : lo ≤ m) (h2 : m < hi) : List.range' lo (hi - lo) = List.range' lo (m - lo) ++ m :: List.range' (m + 1) (hi - (m + 1)) := by
  have e : hi - lo = (m - lo) + ((hi - (m + 1)) + 1) := by omega
  rw [e, ← List.range'_append, List.range'_succ]
  simp only [Nat.one_mul]
  rw [show lo + (m - lo) = m by omega]

theorem build_step {E : Nat → Nod} {lo m hi : Nat} {w w1 w2 : World} {L R : BT Nod} {q : Nat} (h1 : lo ≤ m) (h2 : m < hi) (hm : ∀ i, lo ≤ i → i < hi → (E i).pr ≤ (E m).pr) (he : 0 ≤ (E m).ts ∧ 0 ≤ (E m).al)
    (hL : BuildOK E lo m w w1 L) (hR : BuildOK E (m + 1) hi w1 w2 R) :
    BuildOK E lo hi w ((w2.drewN q).alloc (nobj (E m) L.ptr R.ptr)) (.node w2.heap.size 0 (E m) L R) := by
  have lL := inT_lt hL.inT
  have lR := inT_lt hR.inT
  have s1 := hL.bel.size
  have s2 := hR.bel.size
  have hold : ∀ k, k < w2.heap.size → ((w2.drewN q).alloc (nobj (E m) L.ptr R.ptr)).heap[k]? = w2.heap[k]? := fun k hk => Below.heap_alloc (w2.drewN q) _ k hk
  refine ⟨⟨rfl, ?_, he.1, he.2, ?_, ?_⟩, ?_, ?_, ?_, ?_, ?_, fun p hp => hp m h1 h2⟩
  · show (w2.heap.push _)[w2.heap.size]? = _
    simp
  · refine inT_of hL.inT fun b hb => ?_
    have := lL b hb
    rw [hold b (by omega)]
    exact hR.bel.block b this
  · exact inT_of hR.inT fun b hb => hold b (lR b hb)
  · exact (hL.bel.trans (hR.bel.mono s1)).trans ⟨rfl, rfl, rfl, by simp, fun k hk => hold k (by omega)⟩
  · intro b hb
    simp only [blocks, List.mem_cons, List.mem_append] at hb
    rcases hb with rfl | hb | hb
    · omega
    · exact hL.new b hb
    · exact Nat.le_trans s1 (hR.new b hb)
  · simp only [blocks, List.nodup_cons, List.nodup_append, List.mem_append, not_or]
    refine ⟨⟨fun h => ?_, fun h => ?_⟩, hL.nod, hR.nod, fun x hx y hy e => ?_⟩
    · have := lL _ h; omega
    · have := lR _ h; omega
    · have := lL x hx; have := hR.new y hy; omega
  · rw [range_cut lo m hi h1 h2]
    simp only [Qxb6618059a.ent, hL.ent, hR.ent, List.map_append, List.map_cons]
  · exact ⟨hL.und _ fun i h3 h4 => hm i h3 (by omega), hR.und _ fun i h3 h4 => hm i (by omega) h4, hL.hp, hR.hp⟩

theorem max_step {Z : Nat → Int} {lo m k : Nat} (h : ∀ j, lo ≤ j → j < k → Z j ≤ Z m) (hk : Z k ≤ Z m) : ∀ j, lo ≤ j → j < k + 1 → Z j ≤ Z m := fun j h1 h2 => by
  by_cases e : j = k
  · rw [e]; exact hk
  · exact h j h1 (by omega)
theorem max_step' {Z : Nat → Int} {lo m k : Nat} (h : ∀ j, lo ≤ j → j < k → Z j ≤ Z m) (hk : Z m < Z k) : ∀ j, lo ≤ j → j < k + 1 → Z j ≤ Z k := fun j h1 h2 => by
  by_cases e : j = k
  · rw [e]; exact Int.le_refl _
  · have := h j h1 (by omega); omega

/-- The four lists that the treap is built of. -/
structure Src (B : Nat) (w : World) (n : Nat) (a a1 a2 a3 : Option Addr) (E : Nat → Nod) : Prop where
  k : RowB B w a n fun i => .string (E i).key
  t : RowB B w a1 n fun i => .int .u64 (E i).ts
  l : RowB B w a2 n fun i => .int .u64 (E i).al
  p : RowB B w a3 n fun i => .int .u64 (E i).pr
  pos : ∀ i, i < n → 0 ≤ (E i).ts ∧ 0 ≤ (E i).al

theorem Src.below {B n : Nat} {w w' : World} {a a1 a2 a3 : Option Addr} {E : Nat → Nod} (h : Src B w n a a1 a2 a3 E) (hb : Below B w w') : Src B w' n a a1 a2 a3 E :=
  ⟨h.k.below hb, h.t.below hb, h.l.below hb, h.p.below hb, h.pos⟩

theorem BuildOK.drawn {E : Nat → Nod} {lo hi q : Nat} {w w' : World} {T : BT Nod} (h : BuildOK E lo hi (w.drewN q) w' T) : BuildOK E lo hi w w' T :=
  ⟨h.inT, ⟨h.bel.os, h.bel.tape, h.bel.output, h.bel.size, h.bel.block⟩, h.new, h.nod, h.ent, h.hp, h.und⟩
theorem below_drewN' (w : World) (n B : Nat) : Below B w (w.drewN n) := ⟨rfl, rfl, rfl, Nat.le_refl _, fun _ _ => rfl⟩
theorem ptr_some' (T : BT Nod) : ∃ p, T.ptr = .pointer p := by cases T <;> exact ⟨_, rfl⟩
theorem RowB.at_ {B n b off : Nat} {w : World} {a : Option Addr} {f : Nat → Value} (h : RowB B w a n f) (ha : a = some ⟨b, off, none⟩) : ∀ i, i < n → w.cell? ⟨b, off + i, none⟩ = some (f i) := fun i hi => by
  obtain ⟨b', off', h1, _, h3⟩ := h (by omega)
  rw [h1] at ha
  cases ha
  exact h3 i hi

set_option maxHeartbeats 1600000 in
theorem build_any (B n c c1 c2 c3 : Nat) (a a1 a2 a3 : Option Addr) (E : Nat → Nod) (hn : n ≤ maxLen) (N : Nat) : ∀ (lo hi : Nat) (lo' hi' : Int) (w : World), lo' = lo → hi' = hi → hi - lo ≤ N → lo ≤ hi → hi ≤ n → B ≤ w.heap.size →
    Src B w n a a1 a2 a3 E →
    Calls Try.prog 10 #[.slice a n c, .slice a1 n c1, .slice a2 n c2, .slice a3 n c3, .int .i64 lo', .int .i64 hi'] w fun e w' => ∃ T : BT Nod, e = .returned T.ptr ∧ BuildOK E lo hi w w' T := by
  unfold maxLen at hn
  induction N with
  | zero =>
    intro lo hi lo' hi' w e1 e2 h1 h2 h3 hB hS
    subst e1 e2
    have hle : (hi : Int) ≤ lo := by omega
    clear hS
    go_enter Try.func10, Try.ntmps10
    go_wp2_with fail
    go_returns
    exact ⟨.nil, rfl, build_nil E lo hi w (by omega)⟩
  | succ N ih =>
    intro lo hi lo' hi' w e1 e2 h1 h2 h3 hB hS
    subst e1 e2
    have IH : Hid (∀ (lo hi : Nat) (lo' hi' : Int) (w : World), lo' = lo → hi' = hi → hi - lo ≤ N → lo ≤ hi → hi ≤ n → B ≤ w.heap.size →
      Src B w n a a1 a2 a3 E →
      Calls Try.prog 10 #[.slice a n c, .slice a1 n c1, .slice a2 n c2, .slice a3 n c3, .int .i64 lo', .int .i64 hi'] w fun e w' => ∃ T : BT Nod, e = .returned T.ptr ∧ BuildOK E lo hi w w' T) := ih
    clear ih
    by_cases hle : hi ≤ lo
    · clear hS
      go_enter Try.func10, Try.ntmps10
      go_wp2_with fail
      go_returns
      exact ⟨.nil, rfl, build_nil E lo hi w hle⟩
    · obtain ⟨b, off, rfl, _, hk⟩ := hS.k (by omega)
      obtain ⟨b1, off1, rfl, _, ht⟩ := hS.t (by omega)
      obtain ⟨b2, off2, rfl, _, hl⟩ := hS.l (by omega)
      obtain ⟨b3, off3, rfl, _, hp⟩ := hS.p (by omega)
      have HS : Hid (Src B w n (some ⟨b, off, none⟩) (some ⟨b1, off1, none⟩) (some ⟨b2, off2, none⟩) (some ⟨b3, off3, none⟩) E) := hS
      have HP : Hid (∀ i, i < n → w.cell? ⟨b3, off3 + i, none⟩ = some (.int .u64 (E i).pr)) := hp
      clear hk ht hl hp hS
      go_enter Try.func10, Try.ntmps10
      go_wp2_with fail
      go_loopw [13, 14] (fun mv iv wr => ∃ m k q : Nat, lo ≤ m ∧ m < k ∧ k ≤ hi ∧ mv = .int .i64 m ∧ iv = .int .i64 k ∧ Hid (∀ j, lo ≤ j → j < k → (E j).pr ≤ (E m).pr) ∧ wr = w.drewN q) (fun _ iv _ => hi - (intOf iv).toNat)
      case atStart => exact ⟨lo, lo + 1, 0, by omega, by omega, by omega, by go_num, by go_num, fun j h4 h5 => by rw [show j = lo by omega]; exact Int.le_refl _, rfl⟩
      case round =>
        obtain ⟨m, k, q, hm1, hm2, hk, rfl, rfl, hmax, rfl⟩ := hrel
        have g2 := HP.out m (by omega)
        by_cases hlt : k < hi
        · have g1 := HP.out k (by omega)
          have i1 : (k : Int) < n := by omega
          have i2 : (m : Int) < n := by omega
          go_wp2_with fail
          go_quiet (fail)
          go_wp2_with fail
          · have hgt : (E m).pr < (E k).pr := by assumption
            have R := max_step' (Z := fun j => (E j).pr) hmax.out hgt
            go_roundw
            case rel => exact ⟨k, k + 1, q + nq, by omega, by omega, by omega, rfl, by go_num, R, by simp⟩
            case measure => simp [intOf]; omega
          · have hgt : (E k).pr ≤ (E m).pr := by assumption
            have R := max_step (Z := fun j => (E j).pr) hmax.out hgt
            go_roundw
            case rel => exact ⟨m, k + 1, q + nq, by omega, by omega, by omega, rfl, by go_num, R, by simp⟩
            case measure => simp [intOf]; omega
        · obtain rfl : k = hi := by omega
          go_wp2_with fail
          refine (IH.out lo m _ _ (w.drewN q) rfl rfl (by omega) (by omega) (by omega) hB (HS.out.below (below_drewN' w q B))).mono ?_
          rintro e w1 ⟨L, rfl, hL⟩
          obtain ⟨u, hu⟩ := ptr_some' L
          have HL : Hid (BuildOK E lo m w w1 L ∧ L.ptr = .pointer u) := ⟨hL.drawn, hu⟩
          have s1 : w.heap.size ≤ w1.heap.size := HL.out.1.bel.size
          rw [hu]
          clear hL hu
          go_wp2_with fail
          refine (IH.out (m + 1) k _ _ w1 (by omega) rfl (by omega) (by omega) (by omega) (by omega) (HS.out.below (HL.out.1.bel.mono hB))).mono ?_
          rintro e w2 ⟨R, rfl, hR⟩
          obtain ⟨v, hv⟩ := ptr_some' R
          have HR : Hid (BuildOK E (m + 1) k w1 w2 R ∧ R.ptr = .pointer v) := ⟨hR, hv⟩
          have s2 : w1.heap.size ≤ w2.heap.size := HR.out.1.bel.size
          rw [hv]
          clear hR hv g2
          have S2 := HS.out.below ((HL.out.1.bel.mono hB).trans (HR.out.1.bel.mono (by omega)))
          have c0 := (S2.k.at_ rfl) m (by omega)
          have c1 := (S2.t.at_ rfl) m (by omega)
          have c2 := (S2.l.at_ rfl) m (by omega)
          have c3 := (S2.p.at_ rfl) m (by omega)
          have i0 : (0 : Int) ≤ m := by omega
          have i1 : (m : Int) < n := by omega
          have hpos := S2.pos m (by omega)
          clear S2
          have F := fun q' => build_step (q := q') hm1 hm2 hmax.out hpos HL.out.1 HR.out.1
          rw [HL.out.2, HR.out.2] at F
          have FF : Hid (∀ q', BuildOK E lo k w ((w2.drewN q').alloc (nobj (E m) (.pointer u) (.pointer v))) (.node w2.heap.size 0 (E m) L R)) := F
          clear F
          go_wp2_with fail
          go_region_held3 (fun w' => w'.cell? ⟨b, off + m, none⟩ = some (.string (E m).key) ∧ w'.cell? ⟨b1, off1 + m, none⟩ = some (.int .u64 (E m).ts) ∧ w'.cell? ⟨b2, off2 + m, none⟩ = some (.int .u64 (E m).al) ∧ w'.cell? ⟨b3, off3 + m, none⟩ = some (.int .u64 (E m).pr)) (go_keep)
            ((go_at_call 21; refine (make_node (E m).key (E m).ts (E m).al (E m).pr u v _).mono ?_; rintro e w' ⟨rfl, rfl⟩))
          go_wp2_with fail
          go_returns
          exact ⟨_, rfl, FF.out 1⟩

end Go.Proofs.Qxb6618059a
