/-
  WHAT Piggyback HAS GATHERED: the datagrams that are shut, and the one that is open. No walk here.
-/
import Derived.Test.Qxb6619301aSmall
import Derived.Deep.AppendLies
import Derived.Laws.AppendOwnNone
import Derived.Lib.AppendStr
namespace Go.Proofs.Qxb6619301a
open Go.RowKit

theorem Try.info27 : (Try.prog.info? 27).map (fun i => (i.zero, i.size, i.bytes)) = some (some (.slice none 0 0), 1, 24) := by kernel_rfl
theorem Try.info5 : (Try.prog.info? 5).map (fun i => (i.zero, i.size, i.bytes)) = some (some (.int .u8 0), 1, 1) := by kernel_rfl

theorem owns_slice {w : World} {base : Nat} {e : TypeId} {v : Value} {n : Nat} {xs : List Value} (h : w.ownsRow base e 1 v n xs) : ∃ a c, v = .slice a n c := by
  rcases h.2 with ⟨rfl, rfl⟩ | ⟨g, cap, cur, rfl, _⟩
  · exact ⟨none, 0, rfl⟩
  · exact ⟨_, cap, rfl⟩
theorem owns_of {w w' : World} {base : Nat} {e : TypeId} {v : Value} {n : Nat} {xs : List Value} (h : w.ownsRow base e 1 v n xs) (hs : ∀ k, v.ownBlock = some k → w'.heap[k]? = w.heap[k]?) : w'.ownsRow base e 1 v n xs := by
  refine ⟨h.1, ?_⟩
  rcases h.2 with hn | ⟨g, cap, cur, rfl, hb, hgg, rest⟩
  · exact .inl hn
  · exact .inr ⟨g, cap, cur, rfl, hb, by rw [hs g rfl]; exact hgg, rest⟩

/-- THE DATAGRAMS THAT ARE SHUT: v is the slice of them; they and v's row lie from B on and below D. -/
structure Packed (L : Nat → Nat) (X : Nat → Nat → Int) (B D : Nat) (w : World) (v : Value) (G : List (Nat × Nat)) (xs : List Value) : Prop where
  own : w.ownsRow B 27 1 v G.length xs
  low : ∀ k, v.ownBlock = some k → k < D
  bare : G = [] → v = .slice none 0 0
  each : ∀ (i s k : Nat), G[i]? = some (s, k) → ∃ b c, xs[i]? = some (Value.slice (some ⟨b, 0, none⟩) (jl L s k) c) ∧ b < D ∧ B ≤ b ∧ some b ≠ v.ownBlock ∧ ∀ (r : Nat) (u : Value), (jn L X s k)[r]? = some u → w.cell? ⟨b, r, none⟩ = some u

section
variable {L : Nat → Nat} {X : Nat → Nat → Int} {B D n : Nat} {size : Int} {w wr w' : World} {v : Value} {G : List (Nat × Nat)} {xs : List Value}

theorem Packed.nil (L : Nat → Nat) (X : Nat → Nat → Int) (B D : Nat) (w : World) : Packed L X B D w (.slice none 0 0) [] [] :=
  ⟨World.ownsRow_nil w B 27 1, (fun k hk => by cases hk), fun _ => rfl, fun i s k h => by simp at h⟩

theorem Packed.below (h : Packed L X B D w v G xs) (hb : Below D w w') : Packed L X B D w' v G xs :=
  ⟨owns_of h.own fun k hk => hb.block k (h.low k hk), h.low, h.bare, fun i s k hi => by
    obtain ⟨b, c, h1, h2, h3, h4, h5⟩ := h.each i s k hi
    exact ⟨b, c, h1, h2, h3, h4, fun r u hu => (hb.cell (p := ⟨b, r, none⟩) h2).trans (h5 r u hu)⟩⟩

theorem Packed.mono {D' : Nat} (h : Packed L X B D w v G xs) (hd : D ≤ D') : Packed L X B D' w v G xs :=
  ⟨h.own, fun k hk => Nat.lt_of_lt_of_le (h.low k hk) hd, h.bare, fun i s k hi => by
    obtain ⟨b, c, h1, h2, h3⟩ := h.each i s k hi
    exact ⟨b, c, h1, Nat.lt_of_lt_of_le h2 hd, h3⟩⟩

/-- ONE MORE IS SHUT. -/
theorem Packed.push {o : Obj} {g g6 c6 cap s k : Nat} (h : Packed L X B D wr v G xs) (hBD : B ≤ D)
    (hd : wr.ownsRow D 5 1 (.slice (some ⟨g6, 0, none⟩) (jl L s k) c6) (jl L s k) (jn L X s k))
    (hown : w'.ownsRow B 27 1 (.slice (some ⟨g, 0, none⟩) (G.length + 1) cap) (G.length + 1) (xs ++ [.slice (some ⟨g6, 0, none⟩) (jl L s k) c6]))
    (hg : (wr.alloc o).grownBy w' v.ownBlock) (hat : v.ownBlock = some g ∨ g = wr.heap.size + 1) (hlt : g < w'.heap.size) :
    Packed L X B w'.heap.size w' (.slice (some ⟨g, 0, none⟩) (G.length + 1) cap) (G ++ [(s, k)]) (xs ++ [.slice (some ⟨g6, 0, none⟩) (jl L s k) c6]) := by
  have hsz : wr.heap.size + 1 ≤ w'.heap.size := by have := hg.size; simpa using this
  have h6 := hd.lt g6 rfl
  have hxl : xs.length = G.length := by have := h.own.1; omega
  have hcell : ∀ (b r : Nat) (u : Value), b < wr.heap.size → some b ≠ v.ownBlock → wr.cell? ⟨b, r, none⟩ = some u → w'.cell? ⟨b, r, none⟩ = some u := fun b r u hb hne hu => by
    have h1 : (wr.alloc o).cell? ⟨b, r, none⟩ = some u := by
      rw [World.cell?_of_block (w := wr) (w' := wr.alloc o) (a := ⟨b, r, none⟩) (heap_alloc_old wr o hb)]
      exact hu
    exact hg.cell h1 hne
  have hnew : ∀ b, b < wr.heap.size → some b ≠ v.ownBlock → some b ≠ Value.ownBlock (.slice (some ⟨g, 0, none⟩) (G.length + 1) cap) := fun b hb hne e => by
    have e' : b = g := by simpa [Value.ownBlock] using e
    subst e'
    rcases hat with h0 | h0
    · exact hne h0.symm
    · omega
  have hv6 : some g6 ≠ v.ownBlock := fun e => by
    have := h.low g6 e.symm
    omega
  refine ⟨?_, fun k hk => ?_, fun h0 => by simp at h0, fun i s' k' hi => ?_⟩
  · simpa using hown
  · have : k = g := by simpa [Value.ownBlock, eq_comm] using hk
    omega
  · by_cases hil : i < G.length
    · rw [List.getElem?_append_left hil] at hi
      obtain ⟨b, c, h1, h2, h3, h4, h5⟩ := h.each i s' k' hi
      have hb : b < wr.heap.size ∨ wr.heap.size ≤ b := by omega
      rcases hb with hb | hb
      · refine ⟨b, c, ?_, by omega, h3, hnew b hb h4, fun r u hu => hcell b r u hb h4 (h5 r u hu)⟩
        rw [List.getElem?_append_left (by omega)]
        exact h1
      · omega
    · have hi' : i = G.length := by
        have := (List.getElem?_eq_some_iff.1 hi).1
        simp at this
        omega
      subst hi'
      simp at hi
      obtain ⟨rfl, rfl⟩ := hi
      refine ⟨g6, c6, ?_, by omega, by omega, hnew g6 h6.2 hv6, fun r u hu => hcell g6 r u h6.2 hv6 ?_⟩
      · rw [← hxl]; simp
      · have := hd.cells (g := g6) rfl r u hu
        have hadd : (⟨g6, 0, none⟩ : Addr).add r = ⟨g6, r, none⟩ := by unfold Addr.add; split <;> simp_all
        rw [hadd] at this
        exact this

end

/-- THE OPEN DATAGRAM, behind the first j messages: nothing is open; or the messages s .. s + k, the last of them j - 1. -/
def Cur (L : Nat → Nat) (X : Nat → Nat → Int) (n : Nat) (size : Int) (j : Nat) (G : List (Nat × Nat)) (ds : List Value) : Prop :=
  (ds = [] ∧ G.length ≤ j ∧ ∀ gs, Packs L n size j gs → Packs L n size 0 (G ++ gs)) ∨
  ∃ s k, s + k + 1 = j ∧ G.length ≤ s ∧ 0 < L s ∧ ds = jn L X s k ∧ (∀ i, i < k → (jl L s (i + 1) : Int) ≤ size) ∧ ∀ gs, Packs L n size s gs → Packs L n size 0 (G ++ gs)

section
variable {L : Nat → Nat} {X : Nat → Nat → Int} {n j s k : Nat} {size : Int} {G : List (Nat × Nat)}

/-- A message opens a datagram (or, being empty, does not). -/
theorem Cur.opens (hj : j < n) (hl : G.length ≤ j) (h : ∀ gs, Packs L n size j gs → Packs L n size 0 (G ++ gs)) : Cur L X n size (j + 1) G (bytesV L X j) := by
  by_cases h0 : L j = 0
  · left
    refine ⟨by simp [bytesV, h0], by omega, fun gs hg => h gs (.skip hj h0 hg)⟩
  · right
    exact ⟨j, 0, rfl, hl, by omega, rfl, fun i hi => by omega, h⟩
theorem Cur.skips (hj : j < n) (hl : G.length ≤ j) (h0 : L j = 0) (h : ∀ gs, Packs L n size j gs → Packs L n size 0 (G ++ gs)) : Cur L X n size (j + 1) G [] :=
  Or.inl ⟨rfl, by omega, fun gs hg => h gs (.skip hj h0 hg)⟩
theorem Cur.more (hl : G.length ≤ s) (h0 : 0 < L s) (hfit : (jl L s (k + 1) : Int) ≤ size) (hall : ∀ i, i < k → (jl L s (i + 1) : Int) ≤ size)
    (h : ∀ gs, Packs L n size s gs → Packs L n size 0 (G ++ gs)) : Cur L X n size (s + k + 1 + 1) G (jn L X s k ++ (sepV ++ bytesV L X (s + k + 1))) :=
  Or.inr ⟨s, k + 1, rfl, hl, h0, rfl, fun i hi => by
    by_cases e : i = k
    · subst e; exact hfit
    · exact hall i (by omega), h⟩
/-- It is shut. -/
theorem shuts (hk : s + k < n) (h0 : 0 < L s) (hall : ∀ i, i < k → (jl L s (i + 1) : Int) ≤ size) (hno : s + k + 1 = n ∨ size < (jl L s (k + 1) : Int))
    (h : ∀ gs, Packs L n size s gs → Packs L n size 0 (G ++ gs)) : ∀ gs, Packs L n size (s + k + 1) gs → Packs L n size 0 ((G ++ [(s, k)]) ++ gs) := fun gs hg => by
  rw [List.append_assoc]
  exact h _ (.take hk h0 hall hno hg)
end

/-- THE LOOP's STATE. -/
structure Sta (L : Nat → Nat) (X : Nat → Nat → Int) (n : Nat) (size : Int) (B D : Nat) (w wr : World) (j : Nat) (v5 v6 : Value) (G : List (Nat × Nat)) (xs ds : List Value) : Prop where
  pk : Packed L X B D wr v5 G xs
  own : wr.ownsRow D 5 1 v6 ds.length ds
  cur : Cur L X n size j G ds
  bel : Below B w wr
  dl : D ≤ wr.heap.size
  bd : B ≤ D

theorem msgs_news {B n j : Nat} {w : World} {a : Option Addr} {A : Nat → Option Addr} {L C : Nat → Nat} {X : Nat → Nat → Int} {ad : Addr} (h : Msgs B w a n A L C X) (hj : j < n) (ha : A j = some ad) :
    ∀ r u, (bytesV L X j)[r]? = some u → w.cell? (ad.add r) = some u := fun r u hu => by
  have hr : r < L j := by
    have := (List.getElem?_eq_some_iff.1 hu).1
    rwa [bytesV_len] at this
  rw [bytesV_at hr] at hu
  obtain rfl := Option.some.inj hu
  obtain ⟨b, off, h1, _, h3⟩ := h.each j hj (by omega)
  rw [ha] at h1
  obtain rfl := Option.some.inj h1
  have hadd : (⟨b, off, none⟩ : Addr).add r = ⟨b, off + r, none⟩ := by unfold Addr.add; split <;> simp_all
  rw [hadd]
  exact h3 r hr

/-- An append to the open datagram keeps all that lies below it. -/
theorem own_below {D e : Nat} {wr w' : World} {v : Value} {m : Nat} {xs : List Value} (h : wr.ownsRow D e 1 v m xs) (hg : wr.grownBy w' v.ownBlock) (hD : D ≤ wr.heap.size) : Below D wr w' :=
  (Below.refl _ _).grown hg hD (fun k hk => (h.lt k hk).1)

end Go.Proofs.Qxb6619301a
