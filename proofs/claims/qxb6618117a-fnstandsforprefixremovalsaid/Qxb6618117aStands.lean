/-
  standsFor AND ITS SHIM BY THEIR CONTRACTS.
-/
import Derived.Test.Qxb6618117aSearch
namespace Go.Proofs.Qxb6618117a
open Go.RowKit

theorem less_irrefl : ∀ (a : List UInt8), Op.bytesLess a a = false
  | [] => rfl
  | x :: a => by
    simp only [Op.bytesLess, less_irrefl a, Bool.and_false, Bool.or_false, decide_eq_false_iff_not]
    exact UInt8.lt_irrefl x
theorem lt_irrefl' (a : ByteArray) : lt a a = false := less_irrefl _

def Mem (S : Nat → ByteArray) (n : Nat) (x : ByteArray) : Prop := ∃ i, i < n ∧ S i = x

theorem found_iff {S : Nat → ByteArray} {n : Nat} {x : ByteArray} {i : Nat} {f : Bool} (ha : AscN S n) (h : BsOK S n x i f) : f = true ↔ Mem S n x := by
  obtain ⟨h1, h2, h3, h4⟩ := h
  rw [h4]
  refine ⟨fun ⟨a, b⟩ => ⟨i, a, b⟩, fun ⟨t, ht, he⟩ => ?_⟩
  have e : t = i := by
    rcases Nat.lt_trichotomy t i with h | h | h
    · have := h2 t h
      rw [he, lt_irrefl'] at this
      cases this
    · exact h
    · have h5 := ha i t h ht
      rw [he, h3 i (Nat.le_refl _) (by omega)] at h5
      cases h5
  rw [← e]
  exact ⟨ht, he⟩

/-- x is among the prefixes, or starts with the last that sorts before it. -/
def Hit (S : Nat → ByteArray) (n : Nat) (x : ByteArray) : Prop :=
  ∃ i, i ≤ n ∧ (∀ t, t < i → lt (S t) x = true) ∧ (∀ t, i ≤ t → t < n → lt (S t) x = false) ∧ ((i < n ∧ S i = x) ∨ (0 < i ∧ preB (S (i - 1)) x = true))

theorem place_one {S : Nat → ByteArray} {n i j : Nat} {x : ByteArray} (h1 : i ≤ n) (h2 : ∀ t, t < i → lt (S t) x = true) (h3 : ∀ t, i ≤ t → t < n → lt (S t) x = false)
    (g1 : j ≤ n) (g2 : ∀ t, t < j → lt (S t) x = true) (g3 : ∀ t, j ≤ t → t < n → lt (S t) x = false) : i = j := by
  rcases Nat.lt_trichotomy i j with h | h | h
  · have := g2 i h
    rw [h3 i (Nat.le_refl _) (by omega)] at this
    cases this
  · exact h
  · have := h2 j h
    rw [g3 j (Nat.le_refl _) (by omega)] at this
    cases this

theorem hit_found {S : Nat → ByteArray} {n : Nat} {x : ByteArray} {i : Nat} (h : BsOK S n x i true) : Hit S n x := ⟨i, h.1, h.2.1, h.2.2.1, Or.inl (h.2.2.2.1 rfl)⟩
theorem hit_iff {S : Nat → ByteArray} {n : Nat} {x : ByteArray} {i : Nat} (h : BsOK S n x i false) : Hit S n x ↔ 0 < i ∧ preB (S (i - 1)) x = true := by
  obtain ⟨h1, h2, h3, h4⟩ := h
  refine ⟨fun ⟨j, g1, g2, g3, g4⟩ => ?_, fun hp => ⟨i, h1, h2, h3, Or.inr hp⟩⟩
  obtain rfl := place_one h1 h2 h3 g1 g2 g3
  rcases g4 with g | g
  · have := h4.2 g
    cases this
  · exact g

/-- The three lists that standsFor looks at, by what they hold. -/
structure Lists (B : Nat) (w : World) (a2 : Option Addr) (n2 : Nat) (a3 : Option Addr) (n3 : Nat) (S2 S3 : Nat → ByteArray) : Prop where
  b2 : n2 ≤ 4611686018427387903
  b3 : n3 ≤ 4611686018427387903
  r2 : RowB B w a2 n2 fun i => .string (S2 i)
  r3 : RowB B w a3 n3 fun i => .string (S3 i)
  s2 : AscN S2 n2
  s3 : AscN S3 n3

theorem Lists.below {B n2 n3 : Nat} {w w' : World} {a2 a3 : Option Addr} {S2 S3 : Nat → ByteArray} (h : Lists B w a2 n2 a3 n3 S2 S3) (hb : Below B w w') : Lists B w' a2 n2 a3 n3 S2 S3 :=
  ⟨h.b2, h.b3, h.r2.below hb, h.r3.below hb, h.s2, h.s3⟩

set_option maxHeartbeats 1600000 in
theorem stands_any (B b n2 c2 n3 c3 : Nat) (a2 a3 : Option Addr) (S2 S3 : Nat → ByteArray) (x : ByteArray) (w : World) (hL : Lists B w a2 n2 a3 n3 S2 S3)
    (k2 : w.cell? ⟨b, 2, none⟩ = some (.slice a2 n2 c2)) (k3 : w.cell? ⟨b, 3, none⟩ = some (.slice a3 n3 c3)) :
    Calls Try.prog 14 #[.pointer (some ⟨b, 0, none⟩), .string x] w fun e w' => BoolIff (Mem S2 n2 x ∨ Hit S3 n3 x) e ∧ w' = w := by
  have b3 := hL.b3
  have H : Hid (Lists B w a2 n2 a3 n3 S2 S3) := hL
  clear hL
  go_enter Try.func14, Try.ntmps14
  go_wp2_with fail
  refine (bs_any B n2 c2 a2 S2 x w H.out.b2 H.out.r2 H.out.s2).mono ?_
  rintro e w' ⟨⟨i, f, rfl, hbs⟩, hw⟩
  obtain rfl : w = w' := hw.symm
  clear hw
  have hf := found_iff H.out.s2 hbs
  cases f with
  | true =>
    have F : Hid (Mem S2 n2 x) := hf.1 rfl
    clear hf hbs
    go_wp2_with fail
    go_returns
    exact ⟨BoolIff.yes (Or.inl F.out), rfl⟩
  | false =>
    have F : Hid (¬ Mem S2 n2 x) := fun h => by have := hf.2 h; cases this
    clear hf hbs
    go_wp2_with fail
    refine (bs_any B n3 c3 a3 S3 x w H.out.b3 H.out.r3 H.out.s3).mono ?_
    rintro e w' ⟨⟨j, g, rfl, hbs⟩, hw⟩
    obtain rfl : w = w' := hw.symm
    clear hw
    cases g with
    | true =>
      have G : Hid (Hit S3 n3 x) := hit_found hbs
      clear hbs
      go_wp2_with fail
      go_returns
      exact ⟨BoolIff.yes (Or.inr G.out), rfl⟩
    | false =>
      have G := hit_iff hbs
      have hj := hbs.1
      by_cases h0 : 0 < j
      · obtain ⟨bb, off, rfl, _, hc⟩ := H.out.r3 (by omega)
        have g1 := hc (j - 1) (by omega)
        obtain ⟨i, rfl⟩ : ∃ i, j = i + 1 := ⟨j - 1, by omega⟩
        rw [Nat.add_sub_cancel] at g1 G
        have GG : Hid (Hit S3 n3 x ↔ 0 < i + 1 ∧ preB (S3 i) x = true) := G
        clear G hbs hc
        go_wp2_with (first | (go_at_call 16; refine (hasPre_any _ _ _).mono ?_; rintro e w' ⟨rfl, rfl⟩))
        go_returns
        exact ⟨⟨preB (S3 i) x, rfl, ⟨fun h => Or.inr (GG.out.2 ⟨Nat.succ_pos _, h⟩), fun h => h.elim (fun h => absurd h F.out) (fun h => (GG.out.1 h).2)⟩⟩, rfl⟩
      · have GG : Hid (¬ Hit S3 n3 x) := fun h => h0 (G.1 h).1
        clear G hbs
        go_wp2_with fail
        go_returns
        exact ⟨BoolIff.no (fun h => h.elim F.out GG.out), rfl⟩

set_option maxHeartbeats 800000 in
theorem zzStands_any (n1 c1 n2 c2 n3 c3 : Nat) (a1 a2 a3 : Option Addr) (S2 S3 : Nat → ByteArray) (t x : ByteArray) (w : World) (hL : Lists w.heap.size w a2 n2 a3 n3 S2 S3) :
    Calls Try.prog 9 #[.string t, .slice a1 n1 c1, .slice a2 n2 c2, .slice a3 n3 c3, .string x] w fun e w' => BoolIff (Mem S2 n2 x ∨ Hit S3 n3 x) e ∧ Below w.heap.size w w' := by
  have H : Hid (Lists w.heap.size w a2 n2 a3 n3 S2 S3) := hL
  clear hL
  go_enter Try.func9, Try.ntmps9
  go_wp2_with fail
  have bel : Below w.heap.size w (w.alloc (.cells #[.string t, .slice a1 n1 c1, .slice a2 n2 c2, .slice a3 n3 c3] 33)) := (Below.refl _ w).alloc (Nat.le_refl _) _
  have hb : (w.alloc (.cells #[.string t, .slice a1 n1 c1, .slice a2 n2 c2, .slice a3 n3 c3] 33)).heap[w.heap.size]? = some (.cells #[.string t, .slice a1 n1 c1, .slice a2 n2 c2, .slice a3 n3 c3] 33) := heap_alloc_new w _
  refine (stands_any w.heap.size w.heap.size n2 c2 n3 c3 a2 a3 S2 S3 x (w.alloc (.cells #[.string t, .slice a1 n1 c1, .slice a2 n2 c2, .slice a3 n3 c3] 33)) (H.out.below bel) (by rw [cell_of_row _ _ _ _ _ _ hb]; rfl) (by rw [cell_of_row _ _ _ _ _ _ hb]; rfl)).mono ?_
  rintro e w' ⟨⟨b, rfl, hb2⟩, rfl⟩
  have HB : Hid ((b = true ↔ Mem S2 n2 x ∨ Hit S3 n3 x) ∧ Below w.heap.size w (w.alloc (.cells #[.string t, .slice a1 n1 c1, .slice a2 n2 c2, .slice a3 n3 c3] 33))) := ⟨hb2, bel⟩
  clear hb2 bel hb
  go_wp2_with fail
  go_returns
  exact ⟨⟨b, rfl, HB.out.1⟩, HB.out.2⟩

end Go.Proofs.Qxb6618117a
