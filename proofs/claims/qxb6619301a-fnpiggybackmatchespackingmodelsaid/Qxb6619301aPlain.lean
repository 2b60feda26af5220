/-
  THE PLAIN LAW OF Piggyback: which messages go into which datagram. No Go here.
-/
import Derived.Test.Qxb6619301aRows
namespace Go.Proofs.Qxb6619301a

/-- The lengths of the first m messages, summed. -/
def psum (L : Nat → Nat) : Nat → Nat
  | 0 => 0
  | m + 1 => psum L m + L m

theorem psum_mono (L : Nat → Nat) {a b : Nat} (h : a ≤ b) : psum L a ≤ psum L b := by
  induction b with
  | zero => obtain rfl : a = 0 := by omega
            exact Nat.le_refl _
  | succ b ih =>
    by_cases e : a = b + 1
    · subst e; exact Nat.le_refl _
    · have := ih (by omega)
      simp only [psum]
      omega
theorem le_psum (L : Nat → Nat) {i n : Nat} (h : i < n) : L i ≤ psum L n := by
  have := psum_mono L (show i + 1 ≤ n by omega)
  simp only [psum] at this
  omega

/-- The length of the messages s .. s + k joined. -/
def jl (L : Nat → Nat) (s : Nat) : Nat → Nat
  | 0 => L s
  | k + 1 => jl L s k + 3 + L (s + k + 1)

theorem jl_psum (L : Nat → Nat) (s : Nat) : ∀ k, psum L s + jl L s k = psum L (s + k + 1) + 3 * k
  | 0 => by simp [jl, psum]
  | k + 1 => by
    have := jl_psum L s k
    have h2 : psum L (s + (k + 1) + 1) = psum L (s + k + 1) + L (s + k + 1) := rfl
    have h3 : jl L s (k + 1) = jl L s k + 3 + L (s + k + 1) := rfl
    omega
theorem jl_mono (L : Nat → Nat) (s : Nat) {a b : Nat} (h : a ≤ b) : jl L s a ≤ jl L s b := by
  have h1 := jl_psum L s a
  have h2 := jl_psum L s b
  have h3 := psum_mono L (show s + a + 1 ≤ s + b + 1 by omega)
  omega
theorem jl_pos {L : Nat → Nat} {s : Nat} (h : 0 < L s) (k : Nat) : 0 < jl L s k := by
  have := jl_mono L s (Nat.zero_le k)
  simp only [jl] at this
  omega
theorem jl_le {L : Nat → Nat} {n s k : Nat} (h : s + k < n) : jl L s k ≤ psum L n + 3 * n := by
  have h1 := jl_psum L s k
  have h2 := psum_mono L (show s + k + 1 ≤ n by omega)
  omega

/-- THE DATAGRAMS (first message, how many more) OF THE MESSAGES FROM s ON: empty messages are passed; a datagram takes what fits; the next message goes beyond the size or is not there. -/
def Packs (L : Nat → Nat) (n : Nat) (size : Int) : Nat → List (Nat × Nat) → Prop
  | s, [] => s ≤ n ∧ ∀ i, s ≤ i → i < n → L i = 0
  | s, (p, k) :: gs => s ≤ p ∧ (∀ i, s ≤ i → i < p → L i = 0) ∧ p + k < n ∧ 0 < L p ∧ (∀ i, i < k → (jl L p (i + 1) : Int) ≤ size) ∧ (p + k + 1 = n ∨ size < (jl L p (k + 1) : Int)) ∧ Packs L n size (p + k + 1) gs

section
variable {L : Nat → Nat} {n : Nat} {size : Int} {s : Nat} {gs : List (Nat × Nat)}

theorem Packs.fin : Packs L n size n [] := ⟨Nat.le_refl _, fun i h1 h2 => absurd h2 (by omega)⟩
theorem zero_from {m p : Nat} (h0 : L s = 0) (h : ∀ i, s + 1 ≤ i → i < p → L i = 0) (hm : m < p) (hs : s ≤ m) : L m = 0 := by
  by_cases e : m = s
  · rw [e]; exact h0
  · exact h m (by omega) hm
theorem Packs.skip (hs : s < n) (h0 : L s = 0) (h : Packs L n size (s + 1) gs) : Packs L n size s gs := by
  cases gs with
  | nil => exact ⟨by omega, fun i h1 h2 => zero_from h0 h.2 h2 h1⟩
  | cons g gs =>
    obtain ⟨p, k⟩ := g
    obtain ⟨h1, h2, h3⟩ := h
    exact ⟨by omega, fun i h4 h5 => zero_from h0 h2 h5 h4, h3⟩
theorem Packs.take {k : Nat} (hk : s + k < n) (h0 : 0 < L s) (hall : ∀ i, i < k → (jl L s (i + 1) : Int) ≤ size) (hno : s + k + 1 = n ∨ size < (jl L s (k + 1) : Int)) (h : Packs L n size (s + k + 1) gs) : Packs L n size s ((s, k) :: gs) :=
  ⟨Nat.le_refl _, fun i h1 h2 => absurd h2 (by omega), hk, h0, hall, hno, h⟩
theorem Packs.at_end (h : Packs L n size n gs) : gs = [] := by
  cases gs with
  | nil => rfl
  | cons g gs =>
    obtain ⟨p, k⟩ := g
    have h1 := h.1
    have h2 := h.2.2.1
    omega
theorem Packs.at_empty (h : Packs L n size s gs) (hs : s < n) (h0 : L s = 0) : Packs L n size (s + 1) gs := by
  cases gs with
  | nil => exact ⟨by omega, fun i h1 h2 => h.2 i (by omega) h2⟩
  | cons g gs =>
    obtain ⟨p, k⟩ := g
    obtain ⟨h1, h2, h3, h4, h5⟩ := h
    have hp : p ≠ s := fun e => by rw [e] at h4; omega
    exact ⟨by omega, fun i h6 h7 => h2 i (by omega) h7, h3, h4, h5⟩
theorem Packs.at_full (h : Packs L n size s gs) (hs : s < n) (h0 : 0 < L s) :
    ∃ k gs', gs = (s, k) :: gs' ∧ s + k < n ∧ (∀ i, i < k → (jl L s (i + 1) : Int) ≤ size) ∧ (s + k + 1 = n ∨ size < (jl L s (k + 1) : Int)) ∧ Packs L n size (s + k + 1) gs' := by
  cases gs with
  | nil => have := h.2 s (Nat.le_refl _) hs; omega
  | cons g gs =>
    obtain ⟨p, k⟩ := g
    obtain ⟨h1, h2, h3, h4, h5, h6, h7⟩ := h
    have hp : p = s := by
      by_cases e : p = s
      · exact e
      · have := h2 s (Nat.le_refl _) (by omega); omega
    subst hp
    exact ⟨k, gs, rfl, h3, h5, h6, h7⟩
end
theorem Packs.count {L : Nat → Nat} {n : Nat} {size : Int} : ∀ {s : Nat} {gs : List (Nat × Nat)}, Packs L n size s gs → s + gs.length ≤ n
  | s, [], h => h.1
  | s, (p, k) :: gs, h => by
    have h1 := h.1
    have h2 := Packs.count h.2.2.2.2.2.2
    simp only [List.length_cons]
    omega

/-- A message's bytes as cells. -/
def bytesV (L : Nat → Nat) (X : Nat → Nat → Int) (j : Nat) : List Value := (List.range (L j)).map fun i => .int .u8 (X j i)
def sepV : List Value := [.int .u8 46, .int .u8 13, .int .u8 10]
/-- The messages s .. s + k joined. -/
def jn (L : Nat → Nat) (X : Nat → Nat → Int) (s : Nat) : Nat → List Value
  | 0 => bytesV L X s
  | k + 1 => jn L X s k ++ (sepV ++ bytesV L X (s + k + 1))

theorem bytesV_len (L : Nat → Nat) (X : Nat → Nat → Int) (j : Nat) : (bytesV L X j).length = L j := by simp [bytesV]
theorem bytesV_one (L : Nat → Nat) (X : Nat → Nat → Int) (j : Nat) : ∀ v ∈ bytesV L X j, v.oneCell' = true := fun v hv => by
  obtain ⟨i, _, rfl⟩ := List.mem_map.1 hv
  rfl
theorem bytesV_at {L : Nat → Nat} {X : Nat → Nat → Int} {j i : Nat} (h : i < L j) : (bytesV L X j)[i]? = some (.int .u8 (X j i)) := by simp [bytesV, h]
theorem jn_len (L : Nat → Nat) (X : Nat → Nat → Int) (s : Nat) : ∀ k, (jn L X s k).length = jl L s k
  | 0 => bytesV_len L X s
  | k + 1 => by
    simp only [jn, jl, List.length_append, jn_len L X s k, bytesV_len]
    simp [sepV]
    omega

/-- Where message s + i begins in the datagram. -/
def st (L : Nat → Nat) (s : Nat) : Nat → Nat
  | 0 => 0
  | i + 1 => jl L s i + 3
theorem st_jl (L : Nat → Nat) (s : Nat) : ∀ i, st L s i + L (s + i) = jl L s i
  | 0 => by simp [st, jl]
  | i + 1 => by simp [st, jl, Nat.add_assoc]

theorem jn_msg {L : Nat → Nat} {X : Nat → Nat → Int} {s : Nat} : ∀ {k i r : Nat}, i ≤ k → r < L (s + i) → (jn L X s k)[st L s i + r]? = some (.int .u8 (X (s + i) r))
  | 0, i, r, hi, hr => by
    obtain rfl : i = 0 := by omega
    simp only [st, jn, Nat.zero_add, Nat.add_zero] at hr ⊢
    exact bytesV_at hr
  | k + 1, i, r, hi, hr => by
    simp only [jn]
    by_cases e : i = k + 1
    · subst e
      rw [List.getElem?_append_right (by rw [jn_len]; simp only [st]; omega), jn_len, List.getElem?_append_right (by simp only [sepV, st, List.length_cons, List.length_nil]; omega)]
      rw [show st L s (k + 1) + r - jl L s k - sepV.length = r by simp only [sepV, st, List.length_cons, List.length_nil]; omega]
      exact bytesV_at hr
    · have h1 := st_jl L s i
      have h2 := jl_mono L s (show i ≤ k by omega)
      rw [List.getElem?_append_left (by rw [jn_len]; omega)]
      exact jn_msg (by omega) hr
theorem jn_sep {L : Nat → Nat} {X : Nat → Nat → Int} {s : Nat} : ∀ {k i r : Nat}, i < k → r < 3 → (jn L X s k)[jl L s i + r]? = sepV[r]?
  | 0, i, r, hi, _ => by omega
  | k + 1, i, r, hi, hr => by
    simp only [jn]
    by_cases e : i = k
    · subst e
      rw [List.getElem?_append_right (by rw [jn_len]; omega), jn_len, List.getElem?_append_left (by simp only [sepV, List.length_cons, List.length_nil]; omega)]
      rw [show jl L s i + r - jl L s i = r by omega]
    · have h2 : jl L s (i + 1) ≤ jl L s k := jl_mono L s (by omega)
      simp only [jl] at h2
      rw [List.getElem?_append_left (by rw [jn_len]; omega)]
      exact jn_sep (by omega) hr

end Go.Proofs.Qxb6619301a
