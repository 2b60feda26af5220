/-
  THE LIST WITH x PUT IN AT PLACE j. No walk here.
-/
import Derived.Test.Qxb6618117aCopy
namespace Go.Proofs.Qxb6618117a
open Go.RowKit

theorem less_total : ∀ (a b : List UInt8), Op.bytesLess a b = false → a ≠ b → Op.bytesLess b a = true
  | [], [], _, h => absurd rfl h
  | [], _ :: _, h, _ => by simp [Op.bytesLess] at h
  | _ :: _, [], _, _ => by simp [Op.bytesLess]
  | x :: a, y :: b, h, hne => by
    simp only [Op.bytesLess, Bool.or_eq_false_iff, decide_eq_false_iff_not, Bool.and_eq_false_iff, beq_eq_false_iff_ne] at h
    simp only [Op.bytesLess, Bool.or_eq_true, decide_eq_true_eq, Bool.and_eq_true, beq_iff_eq]
    obtain ⟨h1, h2⟩ := h
    by_cases e : x = y
    · right
      refine ⟨e.symm, less_total a b ?_ (fun h => hne (by rw [e, h]))⟩
      rcases h2 with h2 | h2
      · exact absurd e h2
      · exact h2
    · left
      rw [UInt8.lt_iff_toNat_lt] at *
      have : x.toNat ≠ y.toNat := fun h => e (UInt8.toNat_inj.1 h)
      omega
theorem lt_total {a b : ByteArray} (h : lt a b = false) (hne : a ≠ b) : lt b a = true :=
  less_total _ _ h (fun e => hne (str_eq (by rw [e]; simp)))

def ins (S : Nat → ByteArray) (j : Nat) (x : ByteArray) (i : Nat) : ByteArray := if i < j then S i else if i = j then x else S (i - 1)

theorem ins_low {S : Nat → ByteArray} {j i : Nat} {x : ByteArray} (h : i < j) : ins S j x i = S i := by simp [ins, h]
theorem ins_at (S : Nat → ByteArray) (j : Nat) (x : ByteArray) : ins S j x j = x := by simp [ins]
theorem ins_high {S : Nat → ByteArray} {j i : Nat} {x : ByteArray} (h : j ≤ i) : ins S j x (i + 1) = S i := by
  have h1 : ¬ i + 1 < j := by omega
  have h2 : ¬ i + 1 = j := by omega
  simp [ins, h1, h2]

theorem ins_mem {S : Nat → ByteArray} {n j : Nat} {x y : ByteArray} (hj : j ≤ n) : Mem (ins S j x) (n + 1) y ↔ Mem S n y ∨ y = x := by
  constructor
  · rintro ⟨i, hi, rfl⟩
    rcases Nat.lt_trichotomy i j with h | h | h
    · exact Or.inl ⟨i, by omega, (ins_low h).symm⟩
    · rw [h, ins_at]; exact Or.inr rfl
    · obtain ⟨k, rfl⟩ : ∃ k, i = k + 1 := ⟨i - 1, by omega⟩
      exact Or.inl ⟨k, by omega, (ins_high (by omega)).symm⟩
  · rintro (⟨i, hi, rfl⟩ | rfl)
    · by_cases h : i < j
      · exact ⟨i, by omega, ins_low h⟩
      · exact ⟨i + 1, by omega, ins_high (by omega)⟩
    · exact ⟨j, by omega, ins_at _ _ _⟩

theorem ins_asc {S : Nat → ByteArray} {n j : Nat} {x : ByteArray} (ha : AscN S n) (hj : j ≤ n) (hlow : ∀ i, i < j → lt (S i) x = true) (hhigh : j < n → lt (S j) x = false ∧ S j ≠ x) : AscN (ins S j x) (n + 1) := fun a b hab hb => by
  have hx : ∀ i, j ≤ i → i < n → lt x (S i) = true := fun i h1 h2 => by
    have h0 : lt x (S j) = true := lt_total (hhigh (by omega)).1 (hhigh (by omega)).2
    by_cases e : i = j
    · rw [e]; exact h0
    · exact lt_trans' h0 (ha j i (by omega) h2)
  rcases Nat.lt_trichotomy b j with h | h | h
  · rw [ins_low h, ins_low (by omega)]; exact ha a b hab (by omega)
  · subst h
    rw [ins_at, ins_low hab]; exact hlow a hab
  · obtain ⟨b', rfl⟩ : ∃ k, b = k + 1 := ⟨b - 1, by omega⟩
    rw [ins_high (by omega)]
    rcases Nat.lt_trichotomy a j with g | g | g
    · rw [ins_low g]; exact ha a b' (by omega) (by omega)
    · subst g
      rw [ins_at]; exact hx b' (by omega) (by omega)
    · obtain ⟨a', rfl⟩ : ∃ k, a = k + 1 := ⟨a - 1, by omega⟩
      rw [ins_high (by omega)]; exact ha a' b' (by omega) (by omega)

theorem strCells_succ (n : Nat) (f : Nat → ByteArray) : strCells (n + 1) f = strCells n f ++ [.string (f n)] := by
  simp [strCells, List.range_succ]

/-- A slice of the call's own, by what it holds. -/
theorem row_of_owned {w : World} {base n : Nat} {v : Value} {f : Nat → ByteArray} (h : w.ownsRow base 9 1 v n (strCells n f)) : ∃ a c, v = .slice a n c ∧ RowB w.heap.size w a n (fun i => .string (f i)) := by
  rcases h.2 with ⟨rfl, rfl⟩ | ⟨g, cap, cur, rfl, hb, hg, h1, h2, h3, h4⟩
  · exact ⟨none, 0, rfl, fun h => absurd h (by omega)⟩
  · refine ⟨_, cap, rfl, fun _ => ⟨g, 0, rfl, (Array.getElem?_eq_some_iff.1 hg).1, fun i hi => ?_⟩⟩
    have hc := h.cells (g := g) rfl i (.string (f i)) (by simp [strCells, hi])
    have hadd : (⟨g, 0, none⟩ : Addr).add i = ⟨g, 0 + i, none⟩ := by unfold Addr.add; split <;> simp_all
    rw [hadd] at hc
    exact hc

/-- One append more. -/
theorem own_step {wc wr w2 : World} {base k : Nat} {v v' : Value} {f : Nat → ByteArray} {o : Obj} {y : ByteArray} (h : wr.ownsRow base 9 1 v k (strCells k f)) (hb : Below base wc wr) (hB : base ≤ wr.heap.size)
    (hown : w2.ownsRow base 9 1 v' (k + 1) (strCells k f ++ [.string y])) (hg : (wr.alloc o).grownBy w2 v.ownBlock) (hy : f k = y) : w2.ownsRow base 9 1 v' (k + 1) (strCells (k + 1) f) ∧ Below base wc w2 := by
  subst hy
  rw [← strCells_succ] at hown
  exact ⟨hown, (hb.alloc hB o).grown hg (by simp; omega) (fun j hj => (h.lt j hj).1)⟩

end Go.Proofs.Qxb6618117a
