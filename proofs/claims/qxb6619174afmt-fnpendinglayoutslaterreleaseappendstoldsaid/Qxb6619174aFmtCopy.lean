/-
  'if xs != nil { c := make([]string, len(xs)); copy(c, xs); xs = c }' AND appends: WHAT THEY LEAVE. No walk here.
-/
import Derived.Test.Qxb6619174aFmtPend
import Derived.Laws.CopyOwn
import Derived.Deep.DeepCutAuto
import Derived.Deep.AppendLies
import Derived.Stop.IfaceNil
namespace Go.Proofs.Qxb6619174aFmt
open Go.RowKit Go.Extern.Stop Go.Stop Go.Extern

theorem Tryf.info9 : (Tryf.prog.info? 9).map (fun i => (i.zero, i.size, i.bytes)) = some (some (.string ByteArray.empty), 1, 16) := by kernel_rfl
theorem Tryf.size9 : (Tryf.prog.info? 9).map (·.size) = some 1 := by kernel_rfl

/-- The slice s reads f in wc; below w's size nothing has turned. -/
def Held (w wc : World) (n : Nat) (f : Nat → ByteArray) (s : Value) : Prop := ∃ a c, s = .slice a n c ∧ n ≤ c ∧ RowB wc.heap.size wc a n (fun i => .string (f i)) ∧ Below w.heap.size w wc

/-- The cells that are copied. -/
def strCells (n : Nat) (f : Nat → ByteArray) : List Value := (List.range n).map fun i => .string (f i)
theorem strCells_len (n : Nat) (f : Nat → ByteArray) : (strCells n f).length = n := by simp [strCells]
theorem strCells_at {n : Nat} {f : Nat → ByteArray} {j : Nat} {v : Value} (h : (strCells n f)[j]? = some v) : j < n ∧ v = .string (f j) := by
  have hj : j < n := by
    have := (List.getElem?_eq_some_iff.1 h).1
    simpa [strCells] using this
  refine ⟨hj, ?_⟩
  simp [strCells, hj] at h
  exact h.symm
theorem strCells_one (n : Nat) (f : Nat → ByteArray) : ∀ v ∈ strCells n f, v.oneCell' = true := fun v hv => by
  obtain ⟨i, _, rfl⟩ := List.mem_map.1 hv
  rfl
theorem strCells_src {B n : Nat} {w : World} {a : Option Addr} {f : Nat → ByteArray} (h : RowB B w a n (fun i => .string (f i))) (h0 : 0 < (strCells n f).length) :
    ∃ ad, a = some ad ∧ ∀ j v, (strCells n f)[j]? = some v → w.cell? (ad.add j) = some v := by
  rw [strCells_len] at h0
  obtain ⟨b, off, rfl, _, h3⟩ := h h0
  refine ⟨_, rfl, fun j v hv => ?_⟩
  obtain ⟨hj, rfl⟩ := strCells_at hv
  have hadd : (⟨b, off, none⟩ : Addr).add j = ⟨b, off + j, none⟩ := by unfold Addr.add; split <;> simp_all
  rw [hadd]
  exact h3 j hj

theorem splice_all {L cs : List Value} (h : cs.length = L.length) : splice L 0 cs = cs := by
  simp [splice, h]

/-- The copy is made. -/
theorem held_copy {n g : Nat} {w w2 : World} {f : Nat → ByteArray} {cur : List Value} (hc : cur.length = n) (h1 : w2.heap[g]? = some (.cells (splice cur 0 (strCells n f)).toArray 9 (0, 0))) (hb : Below w.heap.size w w2) :
    Held w w2 n f (.slice (some ⟨g, 0, none⟩) n n) := by
  rw [splice_all (by rw [strCells_len, hc])] at h1
  refine ⟨_, n, rfl, Nat.le_refl _, fun _ => ⟨g, 0, rfl, (Array.getElem?_eq_some_iff.1 h1).1, fun i hi => ?_⟩, hb⟩
  rw [cell_of_row _ _ _ _ _ _ h1]
  simp [strCells, hi]

theorem owns_heap {w : World} {base g n cap : Nat} {e : TypeId} {xs : List Value} (h : w.ownsRow base e 1 (.slice (some ⟨g, 0, none⟩) n cap) n xs) (hn : n = cap) : w.heap[g]? = some (.cells xs.toArray e (0, 0)) := by
  subst hn
  rcases h.2 with ⟨h0, _⟩ | ⟨g', cap', cur, hv, hb, hg, h1, h2, h3, h4⟩
  · cases h0
  · cases hv
    rw [hg]
    have : cur.toList = xs := by rw [← h4, List.take_of_length_le (by simp [h3])]
    rw [← this]

theorem made_row {w : World} {base g n : Nat} {e : TypeId} {xs : List Value} (h : w.ownsRow base e 1 (.slice (some ⟨g, 0, none⟩) n n) n xs) : ∃ cur : List Value, Hid (w.heap[g]? = some (.cells cur.toArray e (0, 0)) ∧ cur.length = n) :=
  ⟨xs, owns_heap h rfl, by rw [h.1]; omega⟩
theorem grown_below {w w' : World} (h : w.grownBy w' none) : Below w.heap.size w w' := (Below.refl _ _).grown h (Nat.le_refl _) (fun k hk => by cases hk)

theorem strCells_succ (n : Nat) (f : Nat → ByteArray) : strCells (n + 1) f = strCells n f ++ [.string (f n)] := by
  simp [strCells, List.range_succ]

/-- A slice of the call's own, by what it holds. -/
theorem row_of_owned {w : World} {base n : Nat} {v : Value} {f : Nat → ByteArray} (h : w.ownsRow base 9 1 v n (strCells n f)) : ∃ a c, v = .slice a n c ∧ RowB w.heap.size w a n (fun i => .string (f i)) := by
  rcases h.2 with ⟨rfl, rfl⟩ | ⟨g, cap, cur, rfl, hb, hg, h1, h2, h3, h4⟩
  · exact ⟨none, 0, rfl, fun h => absurd h (by omega)⟩
  · refine ⟨_, cap, rfl, fun _ => ⟨g, 0, rfl, (Array.getElem?_eq_some_iff.1 hg).1, fun i hi => ?_⟩⟩
    have hc := h.cells (g := g) rfl i (.string (f i)) (by simp [strCells, hi])
    have hadd : (⟨g, 0, none⟩ : Addr).add i = ⟨g, 0 + i, none⟩ := by unfold Addr.add; split <;> simp_all
    rw [hadd] at hc
    exact hc

/-- One append more. -/
theorem own_step {wc wr w2 : World} {base k : Nat} {v v' : Value} {f : Nat → ByteArray} {o : Obj} {y : ByteArray} (h : wr.ownsRow base 9 1 v k (strCells k f)) (hb : Below base wc wr) (hB : base ≤ wr.heap.size)
    (hown : w2.ownsRow base 9 1 v' (k + 1) (strCells k f ++ [.string y])) (hg : (wr.alloc o).grownBy w2 v.ownBlock) (hy : f k = y) : w2.ownsRow base 9 1 v' (k + 1) (strCells (k + 1) f) ∧ Below base wc w2 := by
  subst hy
  rw [← strCells_succ] at hown
  exact ⟨hown, (hb.alloc hB o).grown hg (by simp; omega) (fun j hj => (h.lt j hj).1)⟩

end Go.Proofs.Qxb6619174aFmt
