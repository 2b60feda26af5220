/-
  PREFIXES NONE OF WHICH STARTS WITH ANOTHER; ONE OF THEM TAKEN OUT. No walk here.
-/
import Derived.Test.Qxb6618117aInsert
namespace Go.Proofs.Qxb6618117a
open Go.RowKit

theorem between : ∀ (p s x : List UInt8), p <+: x → Op.bytesLess p s = true → Op.bytesLess s x = true → p <+: s
  | [], _, _, _, _, _ => List.nil_prefix
  | _ :: _, [], _, _, h, _ => by simp [Op.bytesLess] at h
  | _ :: _, _ :: _, [], _, _, h => by simp [Op.bytesLess] at h
  | a :: p, b :: s, c :: x, hp, h1, h2 => by
    obtain ⟨rfl, hp'⟩ := List.cons_prefix_cons.1 hp
    simp only [Op.bytesLess, Bool.or_eq_true, decide_eq_true_eq, Bool.and_eq_true, beq_iff_eq] at h1 h2
    rw [UInt8.lt_iff_toNat_lt] at h1 h2
    rcases h1 with h1 | ⟨h1, h1'⟩
    · rcases h2 with h2 | ⟨h2, _⟩
      · omega
      · rw [h2] at h1; omega
    · rcases h2 with h2 | ⟨_, h2'⟩
      · rw [h1] at h2; omega
      · rw [h1]; exact List.cons_prefix_cons.2 ⟨rfl, between p s x hp' h1' h2'⟩
theorem pre_lt : ∀ (p x : List UInt8), p <+: x → p = x ∨ Op.bytesLess p x = true
  | [], [], _ => Or.inl rfl
  | [], _ :: _, _ => Or.inr (by simp [Op.bytesLess])
  | _ :: _, [], h => by simp at h
  | a :: p, b :: x, h => by
    obtain ⟨rfl, hp'⟩ := List.cons_prefix_cons.1 h
    rcases pre_lt p x hp' with h1 | h1
    · exact Or.inl (by rw [h1])
    · exact Or.inr (by simp [Op.bytesLess, h1])

theorem preB_between {p s x : ByteArray} (h : preB p x = true) (h1 : lt p s = true) (h2 : lt s x = true) : preB p s = true := by
  rw [preB_iff] at h ⊢
  unfold lt at h1 h2
  rw [ByteArray.toList_eq, ByteArray.toList_eq] at h1 h2
  exact between _ _ _ h h1 h2
theorem preB_lt {p x : ByteArray} (h : preB p x = true) : p = x ∨ lt p x = true := by
  rw [preB_iff] at h
  unfold lt
  rw [ByteArray.toList_eq, ByteArray.toList_eq]
  rcases pre_lt _ _ h with h1 | h1
  · left
    cases p; cases x
    exact congrArg ByteArray.mk (Array.toList_inj.1 h1)
  · exact Or.inr h1
theorem preB_self (p : ByteArray) : preB p p = true := (preB_iff p p).2 (List.prefix_refl _)

/-- Ascending, and no neighbour starts with the one ahead of it. -/
def Anti (S : Nat → ByteArray) (n : Nat) : Prop := AscN S n ∧ ∀ i, i + 1 < n → preB (S i) (S (i + 1)) = false

/-- .. so none starts with another. -/
theorem Anti.far {S : Nat → ByteArray} {n i j : Nat} (h : Anti S n) (hi : i < n) (hj : j < n) (hp : preB (S i) (S j) = true) : i = j := by
  rcases Nat.lt_trichotomy i j with hij | hij | hij
  · exfalso
    have hnb := h.2 i (by omega)
    by_cases e : i + 1 = j
    · rw [e, hp] at hnb; cases hnb
    · rw [preB_between hp (h.1 i (i + 1) (by omega) (by omega)) (h.1 (i + 1) j (by omega) hj)] at hnb
      cases hnb
  · exact hij
  · exfalso
    rcases preB_lt hp with e | e
    · have := h.1 j i hij hi
      rw [e, lt_irrefl'] at this
      cases this
    · have := lt_trans' (h.1 j i hij hi) e
      rw [lt_irrefl'] at this
      cases this

theorem place_exists (S : Nat → ByteArray) (x : ByteArray) (n : Nat) (ha : AscN S n) : ∃ i, i ≤ n ∧ (∀ t, t < i → lt (S t) x = true) ∧ (∀ t, i ≤ t → t < n → lt (S t) x = false) := by
  induction n with
  | zero => exact ⟨0, Nat.le_refl _, fun t h => absurd h (by omega), fun t _ h => absurd h (by omega)⟩
  | succ n ih =>
    obtain ⟨i, h1, h2, h3⟩ := ih (fun a b hab hb => ha a b hab (by omega))
    cases hl : lt (S n) x with
    | true =>
      refine ⟨n + 1, Nat.le_refl _, low_up ha (Nat.lt_succ_self n) hl, fun t g1 g2 => absurd g2 (by omega)⟩
    | false =>
      refine ⟨i, by omega, h2, fun t g1 g2 => ?_⟩
      by_cases e : t = n
      · rw [e]; exact hl
      · exact h3 t g1 (by omega)

def AnyPre (S : Nat → ByteArray) (n : Nat) (x : ByteArray) : Prop := ∃ i, i < n ∧ preB (S i) x = true

theorem hit_anti {S : Nat → ByteArray} {n : Nat} {x : ByteArray} (h : Anti S n) : Hit S n x ↔ AnyPre S n x := by
  constructor
  · rintro ⟨i, h1, h2, h3, ⟨h4, h5⟩ | ⟨h4, h5⟩⟩
    · exact ⟨i, h4, by rw [h5]; exact preB_self x⟩
    · exact ⟨i - 1, by omega, h5⟩
  · rintro ⟨t, ht, hp⟩
    obtain ⟨i, h1, h2, h3⟩ := place_exists S x n h.1
    refine ⟨i, h1, h2, h3, ?_⟩
    rcases preB_lt hp with e | e
    · left
      have : t = i := by
        rcases Nat.lt_trichotomy t i with g | g | g
        · have := h2 t g
          rw [e, lt_irrefl'] at this
          cases this
        · exact g
        · have h5 := h.1 i t g ht
          rw [e, h3 i (Nat.le_refl _) (by omega)] at h5
          cases h5
      rw [← this]
      exact ⟨ht, e⟩
    · right
      have hti : t < i := by
        rcases Nat.lt_or_ge t i with g | g
        · exact g
        · rw [h3 t g ht] at e
          cases e
      by_cases g : t + 1 = i
      · rw [← g, Nat.add_sub_cancel]
        exact ⟨by omega, hp⟩
      · exfalso
        have hnb := h.2 t (by omega)
        rw [preB_between hp (h.1 t (t + 1) (by omega) (by omega)) (h2 (t + 1) (by omega))] at hnb
        cases hnb

def rem (S : Nat → ByteArray) (k i : Nat) : ByteArray := if i < k then S i else S (i + 1)
theorem rem_low {S : Nat → ByteArray} {k i : Nat} (h : i < k) : rem S k i = S i := by simp [rem, h]
theorem rem_high {S : Nat → ByteArray} {k i : Nat} (h : k ≤ i) : rem S k i = S (i + 1) := by
  have : ¬ i < k := by omega
  simp [rem, this]

theorem rem_anti {S : Nat → ByteArray} {n k : Nat} (h : Anti S n) : Anti (rem S k) (n - 1) := by
  refine ⟨fun a b hab hb => ?_, fun i hi => ?_⟩
  · by_cases h1 : b < k
    · rw [rem_low h1, rem_low (by omega)]; exact h.1 a b hab (by omega)
    · rw [rem_high (i := b) (by omega)]
      by_cases h2 : a < k
      · rw [rem_low h2]; exact h.1 a (b + 1) (by omega) (by omega)
      · rw [rem_high (i := a) (by omega)]; exact h.1 (a + 1) (b + 1) (by omega) (by omega)
  · cases hp : preB (rem S k i) (rem S k (i + 1)) with
    | false => rfl
    | true =>
      exfalso
      by_cases h1 : i + 1 < k
      · rw [rem_low h1, rem_low (by omega)] at hp
        have := h.far (by omega) (by omega) hp
        omega
      · rw [rem_high (i := i + 1) (by omega)] at hp
        by_cases h2 : i < k
        · rw [rem_low h2] at hp
          have := h.far (by omega) (by omega) hp
          omega
        · rw [rem_high (by omega)] at hp
          have := h.far (by omega) (by omega) hp
          omega

theorem rem_any {S : Nat → ByteArray} {n k : Nat} {x : ByteArray} (hk : k < n) : AnyPre (rem S k) (n - 1) x ↔ ∃ j, j < n ∧ j ≠ k ∧ preB (S j) x = true := by
  constructor
  · rintro ⟨i, hi, hp⟩
    by_cases h : i < k
    · rw [rem_low h] at hp; exact ⟨i, by omega, by omega, hp⟩
    · rw [rem_high (by omega)] at hp; exact ⟨i + 1, by omega, by omega, hp⟩
  · rintro ⟨j, hj, hne, hp⟩
    by_cases h : j < k
    · exact ⟨j, by omega, by rw [rem_low h]; exact hp⟩
    · obtain ⟨i, rfl⟩ : ∃ i, j = i + 1 := ⟨j - 1, by omega⟩
      exact ⟨i, by omega, by rw [rem_high (by omega)]; exact hp⟩

/-- At the prefix itself: with it, a hit; without it, none. -/
theorem at_self {S : Nat → ByteArray} {n k : Nat} (h : Anti S n) (hk : k < n) : Hit S n (S k) ∧ ¬ Hit (rem S k) (n - 1) (S k) := by
  refine ⟨(hit_anti h).2 ⟨k, hk, preB_self _⟩, fun hh => ?_⟩
  obtain ⟨j, hj, hne, hp⟩ := (rem_any hk).1 ((hit_anti (rem_anti h)).1 hh)
  exact hne (h.far hj hk hp)

/-- At any name. -/
theorem at_name {S : Nat → ByteArray} {n k : Nat} {x : ByteArray} (h : Anti S n) (hk : k < n) : Hit S n x ↔ Hit (rem S k) (n - 1) x ∨ preB (S k) x = true := by
  rw [hit_anti h, hit_anti (rem_anti h), rem_any hk]
  constructor
  · rintro ⟨i, hi, hp⟩
    by_cases e : i = k
    · rw [e] at hp; exact Or.inr hp
    · exact Or.inl ⟨i, hi, e, hp⟩
  · rintro (⟨i, hi, _, hp⟩ | hp)
    · exact ⟨i, hi, hp⟩
    · exact ⟨k, hk, hp⟩

theorem rem_at {S : Nat → ByteArray} {k i m : Nat} (hm : i ≤ k ∧ m = i ∨ k < i ∧ m + 1 = i) (hik : i ≠ k) : rem S k m = S i := by
  rcases hm with ⟨h1, rfl⟩ | ⟨h1, rfl⟩
  · exact rem_low (by omega)
  · exact rem_high (by omega)

theorem Lists.to {n2 n3 : Nat} {w w' : World} {a2 a3 : Option Addr} {S2 S3 : Nat → ByteArray} (h : Lists w.heap.size w a2 n2 a3 n3 S2 S3) (hb : Below w.heap.size w w') : Lists w'.heap.size w' a2 n2 a3 n3 S2 S3 :=
  ⟨h.b2, h.b3, (h.r2.below hb).mono hb.size, (h.r3.below hb).mono hb.size, h.s2, h.s3⟩

end Go.Proofs.Qxb6618117a
