/-
  SMALL TIES BETWEEN THE CONTRACTS, FOR THE LAWS' WALKS. No walk here.
-/
import Derived.Test.Qxb6618059aFlat
import Derived.Test.Qxb6618059aBuild
import Derived.Test.Qxb6618059aMerge
import Derived.OpenShut
namespace Go.Proofs.Qxb6618059a
open Go.RowKit Go.Deep

theorem RowB.congr {B n : Nat} {w : World} {a : Option Addr} {f g : Nat → Value} (h : RowB B w a n f) (e : ∀ i, i < n → f i = g i) : RowB B w a n g := fun hn => by
  obtain ⟨b, off, h1, h2, h3⟩ := h hn
  exact ⟨b, off, h1, h2, fun i hi => by rw [← e i hi]; exact h3 i hi⟩
theorem RowB.touch {B n : Nat} {w w' : World} {S : List Nat} {a : Option Addr} {f : Nat → Value} (h : RowB B w a n f) (ht : Touch S w w') (hs : ∀ x, a = some x → x.block ∉ S) : RowB B w' a n f := fun hn => by
  obtain ⟨b, off, h1, h2, h3⟩ := h hn
  exact ⟨b, off, h1, h2, fun i hi => (World.cell?_of_block (a := ⟨b, off + i, none⟩) (ht.block b (hs _ h1))).trans (h3 i hi)⟩

theorem ent_at {E : Nat → Nod} {n : Nat} {T : BT Nod} (h : ent T = (List.range' 0 (n - 0)).map E) : size T = n ∧ ∀ i, i < n → keyAt T i = (E i).key := by
  have hs : size T = n := by rw [← ent_size, h]; simp
  refine ⟨hs, fun i hi => ?_⟩
  have hk : (flat 0 T).map (·.1) = (ent T).map (·.key) := ent_keys T
  unfold keyAt
  rw [hk, h]
  simp [List.getD_eq_getElem?_getD, hi]

theorem asc_of {l : List ByteArray} (h : ∀ i, i + 1 < l.length → lt (l.getD i ByteArray.empty) (l.getD (i + 1) ByteArray.empty) = true) : Asc l := by
  unfold Asc
  induction l with
  | nil => exact List.Pairwise.nil
  | cons x t ih =>
    have ih' := ih fun i hi => by
      have := h (i + 1) (by simp; omega)
      simpa using this
    refine List.pairwise_cons.2 ⟨fun y hy => ?_, ih'⟩
    cases t with
    | nil => cases hy
    | cons z t' =>
      have hz : lt x z = true := by simpa using h 0 (by simp)
      rcases List.mem_cons.1 hy with rfl | hy
      · exact hz
      · exact lt_trans' hz ((List.pairwise_cons.1 ih').1 y hy)

/-- The tree built of increasing keys is in order. -/
theorem asc_built {E : Nat → Nod} {n : Nat} {T : BT Nod} (h : ent T = (List.range' 0 (n - 0)).map E) (hi : ∀ i, i + 1 < n → lt (E i).key (E (i + 1)).key = true) : Asc (keysOf T) := by
  obtain ⟨hs, hk⟩ := ent_at h
  refine asc_of fun i h1 => ?_
  have hl : (keysOf T).length = n := by rw [← hs, ← flat_size 0 T]; simp [keysOf]
  rw [hl] at h1
  have e1 := hk i (by omega)
  have e2 := hk (i + 1) h1
  unfold keyAt at e1 e2
  show lt (((flat 0 T).map (·.1)).getD i ByteArray.empty) (((flat 0 T).map (·.1)).getD (i + 1) ByteArray.empty) = true
  rw [e1, e2]
  exact hi i h1

theorem hp_pushed {b : Nat} {a : Nod} {l r : BT Nod} (h : hp (.node b 0 a l r)) : hp (.node b 0 (pushed a) (raise a.al l) (raise a.al r)) := by
  obtain ⟨h1, h2, h3, h4⟩ := h
  exact ⟨by rw [raise_under]; exact h1, by rw [raise_under]; exact h2, by rw [raise_hp]; exact h3, by rw [raise_hp]; exact h4⟩
theorem size_pushed (b : Nat) (a : Nod) (l r : BT Nod) : size (.node b 0 (pushed a) (raise a.al l) (raise a.al r)) = size (.node b 0 a l r) := by
  simp only [size, raise_size]

/-- The arguments of a law, as the walk is told them. -/
structure Args (w : World) (n n1 n2 n3 : Nat) (a a1 a2 a3 : Option Addr) (E : Nat → Nod) : Prop where
  l0 : n ≤ maxLen
  l1 : n1 ≤ maxLen
  l2 : n2 ≤ maxLen
  l3 : n3 ≤ maxLen
  k : RowB w.heap.size w a n fun i => .string (E i).key
  t : RowB w.heap.size w a1 n1 fun i => .int .u64 (E i).ts
  l : RowB w.heap.size w a2 n2 fun i => .int .u64 (E i).al
  p : RowB w.heap.size w a3 n3 fun i => .int .u64 (E i).pr
  pt : ∀ i, i < n1 → 0 ≤ (E i).ts
  pl : ∀ i, i < n2 → 0 ≤ (E i).al

theorem Args.src {w w' : World} {n : Nat} {a a1 a2 a3 : Option Addr} {E : Nat → Nod} (h : Args w n n n n a a1 a2 a3 E) (hb : Below w.heap.size w w') : Src w.heap.size w' n a a1 a2 a3 E :=
  ⟨h.k.below hb, h.t.below hb, h.l.below hb, h.p.below hb, fun i hi => ⟨h.pt i hi, h.pl i hi⟩⟩

theorem is_node {w : World} {T : BT Nod} (h : InT w T) (hs : size T ≠ 0) : ∃ b a l r, T = .node b 0 a l r := by
  cases T with
  | nil => exact absurd rfl hs
  | node b o a l r => obtain rfl : o = 0 := h.1; exact ⟨b, a, l, r, rfl⟩

theorem zzPush_ptr (b : Nat) (a : Nod) (l r : BT Nod) (w : World) (h : InT w (.node b 0 a l r)) (hn : (blocks (.node b 0 a l r)).Nodup) :
    Calls Try.prog 16 #[(BT.node b 0 a l r).ptr] w fun e w' => e = .returned (.tuple #[]) ∧ InT w' (.node b 0 (pushed a) (raise a.al l) (raise a.al r)) ∧ Touch (blocks (.node b 0 a l r)) w w' :=
  zzPush_any b a l r w h hn
theorem atLeast_ptr (b : Nat) (a : Nod) (l r : BT Nod) (x : Int) (w : World) (h : w.cell? ⟨b, 2, none⟩ = some (.int .u64 x)) :
    Calls Try.prog 17 #[(BT.node b 0 a l r).ptr] w fun e w' => e = .returned (.int .u64 x) ∧ w' = w := get_atLeast b x w h

theorem rowB_of {W : World} {x : Addr} {n m : Nat} {f : Nat → Value} (hn : n ≤ m) (hc : ∀ i, i < m → W.cell? (x.add i) = some (f i)) : RowB W.heap.size W (some x) n f := fun h0 => by
  obtain ⟨b, off, spot⟩ := x
  have hspot : spot = none := by simpa [Addr.add] using World.cell?_spot (hc 0 (by omega))
  subst hspot
  have hc' : ∀ i, i < m → W.cell? ⟨b, off + i, none⟩ = some (f i) := fun i hi => by rw [← Go.WideShapes.add_plain]; exact hc i hi
  exact ⟨b, off, rfl, World.block_lt_of_cell? W _ (hc' 0 (by omega)), fun i hi => hc' i (by omega)⟩
theorem rowB_none (B : Nat) (W : World) (f : Nat → Value) : RowB B W none 0 f := fun h => absurd h (by omega)
theorem u64_pos {zs : List Int} (h : ∀ n ∈ zs, (Lit.int .u64 n).wf = true) (i : Nat) : 0 ≤ zs.getD i 0 := by
  have := (range_u64 h i).1
  simpa [List.getD_eq_getElem?_getD] using this

theorem low_step {E : Nat → Nod} {k : ByteArray} {j : Nat} (h : ∀ i, i < j → lt (E i).key k = true) (hj : lt (E j).key k = true) : ∀ i, i < j + 1 → lt (E i).key k = true := fun i hi => by
  by_cases e : i = j
  · rw [e]; exact hj
  · exact h i (by omega)

/-- How many entries lie below: where the law's own count stops. -/
theorem split_count {E : Nat → Nod} {n j : Nat} {k : ByteArray} {w w' : World} {T P Q : BT Nod} (hT : ent T = (List.range' 0 (n - 0)).map E) (hS : SplitOK T k w w' P Q) (hj : j ≤ n)
    (hlow : ∀ i, i < j → lt (E i).key k = true) (hhigh : j < n → lt (E j).key k = false) :
    size P = j ∧ size Q = n - j ∧ (∀ i, i < j → keyAt P i = (E i).key) ∧ (∀ i, i < j → effAt P i = effAt T i) ∧ (∀ i, i < n - j → keyAt Q i = (E (j + i)).key) ∧ (∀ i, i < n - j → effAt Q i = effAt T (j + i)) := by
  obtain ⟨hs, hk⟩ := ent_at hT
  have hfl := hS.flat
  have hlen : size P + size Q = n := by
    have := congrArg List.length hfl
    simp only [List.length_append, flat_size] at this
    omega
  have hkP : ∀ i, i < size P → keyAt P i = keyAt T i := fun i hi => by
    unfold keyAt
    rw [← hfl, List.map_append, List.getD_eq_getElem?_getD, List.getD_eq_getElem?_getD, List.getElem?_append_left (by simpa [flat_size] using hi)]
  have heP : ∀ i, i < size P → effAt P i = effAt T i := fun i hi => by
    unfold effAt
    rw [← hfl, List.map_append, List.getD_eq_getElem?_getD, List.getD_eq_getElem?_getD, List.getElem?_append_left (by simpa [flat_size] using hi)]
  have hkQ : ∀ i, keyAt Q i = keyAt T (size P + i) := fun i => by
    unfold keyAt
    rw [← hfl, List.map_append, List.getD_eq_getElem?_getD, List.getD_eq_getElem?_getD, List.getElem?_append_right (by simp [flat_size])]
    simp [flat_size]
  have heQ : ∀ i, effAt Q i = effAt T (size P + i) := fun i => by
    unfold effAt
    rw [← hfl, List.map_append, List.getD_eq_getElem?_getD, List.getD_eq_getElem?_getD, List.getElem?_append_right (by simp [flat_size])]
    simp [flat_size]
  have mP : ∀ i, i < size P → keyAt P i ∈ keysOf P := fun i hi => by
    have h : i < ((flat 0 P).map (·.1)).length := by simpa [flat_size] using hi
    show ((flat 0 P).map (·.1)).getD i ByteArray.empty ∈ (flat 0 P).map (·.1)
    rw [List.getD_eq_getElem?_getD, List.getElem?_eq_getElem h, Option.getD_some]
    exact List.getElem_mem h
  have mQ : ∀ i, i < size Q → keyAt Q i ∈ keysOf Q := fun i hi => by
    have h : i < ((flat 0 Q).map (·.1)).length := by simpa [flat_size] using hi
    show ((flat 0 Q).map (·.1)).getD i ByteArray.empty ∈ (flat 0 Q).map (·.1)
    rw [List.getD_eq_getElem?_getD, List.getElem?_eq_getElem h, Option.getD_some]
    exact List.getElem_mem h
  have hPj : size P = j := by
    rcases Nat.lt_trichotomy (size P) j with h | h | h
    · have h0 := hS.high _ (mQ 0 (by omega))
      rw [hkQ 0, Nat.add_zero, hk _ (by omega), hlow _ h] at h0
      cases h0
    · exact h
    · have h0 := hS.low _ (mP j h)
      rw [hkP j h, hk j (by omega), hhigh (by omega)] at h0
      cases h0
  refine ⟨hPj, by omega, fun i hi => ?_, fun i hi => heP i (by omega), fun i hi => ?_, fun i hi => by rw [heQ i, hPj]⟩
  · rw [hkP i (by omega), hk i (by omega)]
  · rw [hkQ i, hPj, hk _ (by omega)]

/-- The head and the tail of a list that is read. -/
theorem RowB.take {B n j : Nat} {w : World} {a : Option Addr} {f : Nat → Value} (h : RowB B w a n f) (hj : j ≤ n) : RowB B w a j f := fun h0 => by
  obtain ⟨b, off, h1, h2, h3⟩ := h (by omega)
  exact ⟨b, off, h1, h2, fun i hi => h3 i (by omega)⟩

theorem RowB.drop {B n j b off : Nat} {w : World} {f : Nat → Value} (h : RowB B w (some ⟨b, off, none⟩) n f) (hj : j ≤ n) : RowB B w (some ⟨b, off + j, none⟩) (n - j) (fun i => f (j + i)) := fun h0 => by
  obtain ⟨b', off', h1, h2, h3⟩ := h (by omega)
  cases h1
  exact ⟨b, off + j, rfl, h2, fun i hi => by rw [Nat.add_assoc]; exact h3 (j + i) (by omega)⟩
theorem row_zero (B n : Nat) (w : World) (a : Option Addr) (f : Nat → Value) (h : n = 0) : RowB B w a n f := fun h0 => absurd h0 (by omega)

end Go.Proofs.Qxb6618059a
