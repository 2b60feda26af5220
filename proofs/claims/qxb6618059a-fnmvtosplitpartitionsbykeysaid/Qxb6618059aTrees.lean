/-
  THE TREAP's NODES IN MEMORY, AND THE PLAIN LAWS ON TREES. A tree with its addresses is the library's 'BT'; a node's four plain fields are 'Nod'. 'InT w T': the nodes of T lie in w, each a whole block of its own. No walk here.
-/
import Derived.Test.Qxb6618059aRows
import Derived.WalkKit
import Derived.ProofKit
import Derived.Deep.Trees
namespace Go.Proofs.Qxb6618059a
open Go.RowKit Go.Deep

structure Nod where
  key : ByteArray
  ts : Int
  al : Int
  pr : Int

def nobj (a : Nod) (l r : Value) : Obj := .cells #[.string a.key, .int .u64 a.ts, .int .u64 a.al, .int .u64 a.pr, l, r] 47

def InT (w : World) : BT Nod → Prop
  | .nil => True
  | .node b o a l r => o = 0 ∧ w.heap[b]? = some (nobj a l.ptr r.ptr) ∧ 0 ≤ a.ts ∧ 0 ≤ a.al ∧ InT w l ∧ InT w r

def blocks : BT Nod → List Nat
  | .nil => []
  | .node b _ _ l r => b :: (blocks l ++ blocks r)

def size : BT Nod → Nat
  | .nil => 0
  | .node _ _ _ l r => size l + 1 + size r

/-- The keys in order, each with its effective timestamp, under a raise x. -/
def flat (x : Int) : BT Nod → List (ByteArray × Int)
  | .nil => []
  | .node _ _ a l r => flat (max x a.al) l ++ (a.key, max a.ts (max x a.al)) :: flat (max x a.al) r

def under (p : Int) : BT Nod → Prop
  | .nil => True
  | .node _ _ a _ _ => a.pr ≤ p

def hp : BT Nod → Prop
  | .nil => True
  | .node _ _ a l r => under a.pr l ∧ under a.pr r ∧ hp l ∧ hp r

def raise (x : Int) : BT Nod → BT Nod
  | .nil => .nil
  | .node b o a l r => .node b o { a with al := max a.al x } l r

/-- The node as push leaves it. -/
def pushed (a : Nod) : Nod := { a with ts := max a.ts a.al, al := 0 }

theorem raise_ptr (x : Int) (T : BT Nod) : (raise x T).ptr = T.ptr := by cases T <;> rfl
theorem raise_blocks (x : Int) (T : BT Nod) : blocks (raise x T) = blocks T := by cases T <;> rfl
theorem raise_size (x : Int) (T : BT Nod) : size (raise x T) = size T := by cases T <;> rfl
theorem raise_under (x p : Int) (T : BT Nod) : under p (raise x T) = under p T := by cases T <;> rfl
theorem raise_hp (x : Int) (T : BT Nod) : hp (raise x T) = hp T := by cases T <;> rfl
theorem raise_flat (x : Int) (hx : 0 ≤ x) (T : BT Nod) : flat 0 (raise x T) = flat x T := by
  cases T with
  | nil => rfl
  | node b o a l r =>
    have e : max 0 (max a.al x) = max x a.al := by omega
    simp only [raise, flat, e]
theorem flat_size (x : Int) (T : BT Nod) : (flat x T).length = size T := by
  induction T generalizing x with
  | nil => rfl
  | node b o a l r ihl ihr => simp only [flat, size, List.length_append, List.length_cons, ihl, ihr]; omega
theorem flat_keys (x y : Int) (T : BT Nod) : (flat x T).map (·.1) = (flat y T).map (·.1) := by
  induction T generalizing x y with
  | nil => rfl
  | node b o a l r ihl ihr => simp only [flat, List.map_append, List.map_cons, ihl (max x a.al) (max y a.al), ihr (max x a.al) (max y a.al)]
theorem under_mono {p q : Int} (h : p ≤ q) {T : BT Nod} (hu : under p T) : under q T := by
  cases T with
  | nil => trivial
  | node b o a l r => exact Int.le_trans hu h

/-- Another world, the same blocks. -/
theorem inT_of {w w' : World} : ∀ {T : BT Nod}, InT w T → (∀ b ∈ blocks T, w'.heap[b]? = w.heap[b]?) → InT w' T
  | .nil, _, _ => trivial
  | .node b _ _ _ _, ⟨h1, h2, h3, h4, hl, hr⟩, hs => ⟨h1, by rw [hs b (by simp [blocks])]; exact h2, h3, h4,
      inT_of hl (fun k hk => hs k (by simp [blocks, hk])), inT_of hr (fun k hk => hs k (by simp [blocks, hk]))⟩

theorem inT_lt {w : World} : ∀ {T : BT Nod}, InT w T → ∀ b ∈ blocks T, b < w.heap.size
  | .nil, _, _, h => by simp [blocks] at h
  | .node b0 _ _ _ _, ⟨_, h2, _, _, hl, hr⟩, b, h => by
    simp only [blocks, List.mem_cons, List.mem_append] at h
    rcases h with rfl | h | h
    · exact (Array.getElem?_eq_some_iff.1 h2).1
    · exact inT_lt hl b h
    · exact inT_lt hr b h

/-- What a call that writes into the blocks S alone leaves. -/
structure Touch (S : List Nat) (w w' : World) : Prop where
  os : w'.os = w.os
  tape : w'.tape = w.tape
  output : w'.output = w.output
  size : w'.heap.size = w.heap.size
  block : ∀ k, k ∉ S → w'.heap[k]? = w.heap[k]?

theorem Touch.refl (S : List Nat) (w : World) : Touch S w w := ⟨rfl, rfl, rfl, rfl, fun _ _ => rfl⟩
theorem Touch.trans {S : List Nat} {a b c : World} (h : Touch S a b) (k : Touch S b c) : Touch S a c :=
  ⟨k.os.trans h.os, k.tape.trans h.tape, k.output.trans h.output, k.size.trans h.size, fun i hi => (k.block i hi).trans (h.block i hi)⟩
theorem Touch.mono {S S' : List Nat} {w w' : World} (h : Touch S w w') (hs : ∀ k ∈ S, k ∈ S') : Touch S' w w' :=
  ⟨h.os, h.tape, h.output, h.size, fun k hk => h.block k (fun hh => hk (hs k hh))⟩
theorem Touch.drew {S : List Nat} {a w : World} (h : Touch S a w) : Touch S a w.drew := ⟨h.os, h.tape, h.output, h.size, h.block⟩
theorem Touch.setCell {S : List Nat} {a w : World} (h : Touch S a w) {p : Addr} (hp : p.block ∈ S) (u : Value) : Touch S a (w.setCell p u) :=
  h.trans ⟨rfl, rfl, rfl, by simp [World.setCell], fun k hk => Below.heap_setCell _ _ _ _ (fun e => hk (e ▸ hp))⟩
theorem Touch.below {S : List Nat} {B : Nat} {w w' : World} (h : Touch S w w') (hs : ∀ k ∈ S, B ≤ k) : Below B w w' :=
  ⟨h.os, h.tape, h.output, Nat.le_of_eq h.size.symm, fun k hk => h.block k (fun hh => by have := hs k hh; omega)⟩

theorem heap_set {w : World} {b i : Nat} {cs : Array Value} {t : TypeId} {fz : Nat × Nat} (h : w.heap[b]? = some (.cells cs t fz)) (v : Value) :
    (w.setCell ⟨b, i, none⟩ v).heap[b]? = some (.cells (cs.setIfInBounds i v) t fz) := by
  have hlt : b < w.heap.size := (Array.getElem?_eq_some_iff.1 h).1
  have hv : w.heap[b] = .cells cs t fz := (Array.getElem?_eq_some_iff.1 h).2
  unfold World.setCell
  rw [Array.getElem?_eq_getElem (by simpa using hlt), Array.getElem_modify]
  simp [hv]
theorem heap_set_ne {w : World} {b i k : Nat} (h : k ≠ b) (v : Value) : (w.setCell ⟨b, i, none⟩ v).heap[k]? = w.heap[k]? := Below.heap_setCell _ _ _ _ h

/-- A node's six cells, none frozen. -/
theorem nobj_cells {w : World} {b : Nat} {a : Nod} {l r : Value} (h : w.heap[b]? = some (nobj a l r)) :
    w.cell? ⟨b, 0, none⟩ = some (.string a.key) ∧ w.cell? ⟨b, 1, none⟩ = some (.int .u64 a.ts) ∧ w.cell? ⟨b, 2, none⟩ = some (.int .u64 a.al) ∧
    w.cell? ⟨b, 3, none⟩ = some (.int .u64 a.pr) ∧ w.cell? ⟨b, 4, none⟩ = some l ∧ w.cell? ⟨b, 5, none⟩ = some r := by
  unfold nobj at h
  refine ⟨?_, ?_, ?_, ?_, ?_, ?_⟩ <;> simp [World.cell?, h]
theorem nobj_free {w : World} {b : Nat} {a : Nod} {l r : Value} (h : w.heap[b]? = some (nobj a l r)) (i : Nat) : w.frozen? ⟨b, i, none⟩ = false := by
  unfold nobj at h
  simp [World.frozen?, h]

/-! The four stores that push, split and merge make. -/
theorem nobj_ts {w : World} {b : Nat} {a : Nod} {l r : Value} (h : w.heap[b]? = some (nobj a l r)) (x : Int) : (w.setCell ⟨b, 1, none⟩ (.int .u64 x)).heap[b]? = some (nobj { a with ts := x } l r) := heap_set h _
theorem nobj_al {w : World} {b : Nat} {a : Nod} {l r : Value} (h : w.heap[b]? = some (nobj a l r)) (x : Int) : (w.setCell ⟨b, 2, none⟩ (.int .u64 x)).heap[b]? = some (nobj { a with al := x } l r) := heap_set h _
theorem nobj_left {w : World} {b : Nat} {a : Nod} {l r : Value} (h : w.heap[b]? = some (nobj a l r)) (v : Value) : (w.setCell ⟨b, 4, none⟩ v).heap[b]? = some (nobj a v r) := heap_set h _
theorem nobj_right {w : World} {b : Nat} {a : Nod} {l r : Value} (h : w.heap[b]? = some (nobj a l r)) (v : Value) : (w.setCell ⟨b, 5, none⟩ v).heap[b]? = some (nobj a l v) := heap_set h _

end Go.Proofs.Qxb6618059a
