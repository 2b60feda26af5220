/-
  WHAT split AND merge LEAVE, TOLD ON TREES; THE STEPS. No walk here.
-/
import Derived.Test.Qxb6618059aTrees
namespace Go.Proofs.Qxb6618059a
open Go.RowKit Go.Deep

def lt (a b : ByteArray) : Bool := Op.bytesLess a.toList b.toList

theorem less_trans : ∀ (a b c : List UInt8), Op.bytesLess a b = true → Op.bytesLess b c = true → Op.bytesLess a c = true
  | _, [], _, h, _ => by simp [Op.bytesLess] at h
  | _, _ :: _, [], _, h => by simp [Op.bytesLess] at h
  | [], _ :: _, _ :: _, _, _ => by simp [Op.bytesLess]
  | x :: a, y :: b, z :: c, h1, h2 => by
    simp only [Op.bytesLess, Bool.or_eq_true, decide_eq_true_eq, Bool.and_eq_true, beq_iff_eq] at h1 h2 ⊢
    rcases h1 with h1 | ⟨rfl, h1⟩
    · rcases h2 with h2 | ⟨rfl, h2⟩
      · left
        rw [UInt8.lt_iff_toNat_lt] at *
        omega
      · exact Or.inl h1
    · rcases h2 with h2 | ⟨rfl, h2⟩
      · exact Or.inl h2
      · exact Or.inr ⟨rfl, less_trans a b c h1 h2⟩
theorem lt_trans' {a b c : ByteArray} (h1 : lt a b = true) (h2 : lt b c = true) : lt a c = true := less_trans _ _ _ h1 h2

def Asc (l : List ByteArray) : Prop := l.Pairwise fun a b => lt a b = true
def keysOf (T : BT Nod) : List ByteArray := (flat 0 T).map (·.1)

theorem keysOf_any (x : Int) (T : BT Nod) : (flat x T).map (·.1) = keysOf T := flat_keys x 0 T
theorem keysOf_node (b o : Nat) (a : Nod) (l r : BT Nod) : keysOf (.node b o a l r) = keysOf l ++ a.key :: keysOf r := by
  show (flat 0 (.node b o a l r)).map (·.1) = _
  simp only [flat, List.map_append, List.map_cons, keysOf_any]
theorem keysOf_raise (x : Int) (T : BT Nod) : keysOf (raise x T) = keysOf T := by
  cases T with
  | nil => rfl
  | node b o a l r => show keysOf (.node b o _ l r) = _; rw [keysOf_node, keysOf_node]

/-- The node as push leaves it reads as the node did. -/
theorem flat_pushed (b o : Nat) (a : Nod) (l r : BT Nod) (ha : 0 ≤ a.al) (ht : 0 ≤ a.ts) :
    flat 0 (.node b o (pushed a) (raise a.al l) (raise a.al r)) = flat 0 (.node b o a l r) := by
  have e1 : max 0 a.al = a.al := by omega
  have e2 : max (max a.ts a.al) 0 = max a.ts a.al := by omega
  have e3 : max (0 : Int) 0 = 0 := by omega
  simp only [flat, pushed, e1, e2, e3, raise_flat _ ha]

structure SplitOK (T : BT Nod) (k : ByteArray) (w w' : World) (P Q : BT Nod) : Prop where
  inP : InT w' P
  inQ : InT w' Q
  touch : Touch (blocks T) w w'
  perm : (blocks P ++ blocks Q).Perm (blocks T)
  flat : flat 0 P ++ flat 0 Q = flat 0 T
  low : ∀ x ∈ keysOf P, lt x k = true
  high : ∀ x ∈ keysOf Q, lt x k = false
  hp : hp T → hp P ∧ hp Q ∧ ∀ p, under p T → under p P ∧ under p Q

theorem split_nil (k : ByteArray) (w : World) : SplitOK .nil k w w .nil .nil :=
  ⟨trivial, trivial, Touch.refl _ _, List.Perm.refl _, rfl, by simp [keysOf, Qxb6618059a.flat], by simp [keysOf, Qxb6618059a.flat], fun _ => ⟨trivial, trivial, fun _ _ => ⟨trivial, trivial⟩⟩⟩

/-- The key lies below: the right subtree was split. -/
theorem split_right {b : Nat} {a : Nod} {l r P Q : BT Nod} {k : ByteArray} {w w1 w2 : World} (ha : 0 ≤ a.al) (ht : 0 ≤ a.ts) (hn : (blocks (.node b 0 a l r)).Nodup) (hs : Asc (keysOf (.node b 0 a l r)))
    (hk : lt a.key k = true) (h1 : InT w1 (.node b 0 (pushed a) (raise a.al l) (raise a.al r))) (t1 : Touch (blocks (.node b 0 a l r)) w w1) (h2 : SplitOK (raise a.al r) k w1 w2 P Q) :
    SplitOK (.node b 0 a l r) k w (w2.setCell ⟨b, 5, none⟩ P.ptr) (.node b 0 (pushed a) (raise a.al l) P) Q := by
  obtain ⟨_, hb, hts, hal, hl, hr⟩ := h1
  have hn0 := hn
  simp only [blocks, List.nodup_cons, List.nodup_append, List.mem_append, not_or] at hn
  obtain ⟨⟨hbl, hbr⟩, hnl, hnr, hlr⟩ := hn
  have bR := raise_blocks a.al r
  have bL := raise_blocks a.al l
  have mP : ∀ x ∈ blocks P, x ∈ blocks r := fun x hx => by rw [← bR]; exact h2.perm.mem_iff.1 (List.mem_append_left _ hx)
  have mQ : ∀ x ∈ blocks Q, x ∈ blocks r := fun x hx => by rw [← bR]; exact h2.perm.mem_iff.1 (List.mem_append_right _ hx)
  have hb2 : w2.heap[b]? = some (nobj (pushed a) (raise a.al l).ptr (raise a.al r).ptr) := (h2.touch.block b (by rw [bR]; exact hbr)).trans hb
  have hkeys : keysOf (.node b 0 (pushed a) (raise a.al l) P) = keysOf l ++ a.key :: keysOf P := by rw [keysOf_node, keysOf_raise]; rfl
  refine ⟨⟨rfl, nobj_right hb2 _, hts, hal, ?_, ?_⟩, ?_, ?_, ?_, ?_, ?_, h2.high, ?_⟩
  · refine inT_of hl fun x hx => ?_
    rw [bL] at hx
    rw [heap_set_ne (fun e => hbl (by rw [← e]; exact hx))]
    exact h2.touch.block x (by rw [bR]; exact fun h => hlr x hx x h rfl)
  · exact inT_of h2.inP fun x hx => heap_set_ne (fun e => hbr (by rw [← e]; exact mP x hx)) _
  · exact inT_of h2.inQ fun x hx => heap_set_ne (fun e => hbr (by rw [← e]; exact mQ x hx)) _
  · exact (t1.trans (h2.touch.mono (by rw [bR]; intro x hx; simp [blocks, hx]))).setCell (by simp [blocks]) _
  · simp only [blocks, bL, List.cons_append, List.append_assoc]
    exact (List.Perm.append_left _ (by rw [← bR]; exact h2.perm)).cons _
  · rw [← flat_pushed b 0 a l r ha ht]
    have e3 : max (0 : Int) (pushed a).al = 0 := by show max (0 : Int) 0 = 0; omega
    simp only [Qxb6618059a.flat, e3, List.append_assoc, List.cons_append]
    rw [h2.flat]
  · intro x hx
    rw [hkeys] at hx
    rw [keysOf_node] at hs
    rcases List.mem_append.1 hx with hx | hx
    · exact lt_trans' ((List.pairwise_append.1 hs).2.2 x hx a.key (by simp)) hk
    · rcases List.mem_cons.1 hx with rfl | hx
      · exact hk
      · exact h2.low x hx
  · intro hh
    obtain ⟨u1, u2, g1, g2⟩ := hh
    obtain ⟨hP, hQ, hU⟩ := h2.hp (by rw [raise_hp]; exact g2)
    have hPQ := hU a.pr (by rw [raise_under]; exact u2)
    exact ⟨⟨by rw [raise_under]; exact u1, hPQ.1, by rw [raise_hp]; exact g1, hP⟩, hQ, fun p hp => ⟨hp, under_mono hp hPQ.2⟩⟩

/-- The key lies above or is the same: the left subtree was split. -/
theorem split_left {b : Nat} {a : Nod} {l r P Q : BT Nod} {k : ByteArray} {w w1 w2 : World} (ha : 0 ≤ a.al) (ht : 0 ≤ a.ts) (hn : (blocks (.node b 0 a l r)).Nodup) (hs : Asc (keysOf (.node b 0 a l r)))
    (hk : lt a.key k = false) (h1 : InT w1 (.node b 0 (pushed a) (raise a.al l) (raise a.al r))) (t1 : Touch (blocks (.node b 0 a l r)) w w1) (h2 : SplitOK (raise a.al l) k w1 w2 P Q) :
    SplitOK (.node b 0 a l r) k w (w2.setCell ⟨b, 4, none⟩ Q.ptr) P (.node b 0 (pushed a) Q (raise a.al r)) := by
  obtain ⟨_, hb, hts, hal, hl, hr⟩ := h1
  have hn0 := hn
  simp only [blocks, List.nodup_cons, List.nodup_append, List.mem_append, not_or] at hn
  obtain ⟨⟨hbl, hbr⟩, hnl, hnr, hlr⟩ := hn
  have bR := raise_blocks a.al r
  have bL := raise_blocks a.al l
  have mP : ∀ x ∈ blocks P, x ∈ blocks l := fun x hx => by rw [← bL]; exact h2.perm.mem_iff.1 (List.mem_append_left _ hx)
  have mQ : ∀ x ∈ blocks Q, x ∈ blocks l := fun x hx => by rw [← bL]; exact h2.perm.mem_iff.1 (List.mem_append_right _ hx)
  have hb2 : w2.heap[b]? = some (nobj (pushed a) (raise a.al l).ptr (raise a.al r).ptr) := (h2.touch.block b (by rw [bL]; exact hbl)).trans hb
  have hkeys : keysOf (.node b 0 (pushed a) Q (raise a.al r)) = keysOf Q ++ a.key :: keysOf r := by rw [keysOf_node, keysOf_raise]; rfl
  refine ⟨?_, ⟨rfl, nobj_left hb2 _, hts, hal, ?_, ?_⟩, ?_, ?_, ?_, h2.low, ?_, ?_⟩
  · exact inT_of h2.inP fun x hx => heap_set_ne (fun e => hbl (by rw [← e]; exact mP x hx)) _
  · exact inT_of h2.inQ fun x hx => heap_set_ne (fun e => hbl (by rw [← e]; exact mQ x hx)) _
  · refine inT_of hr fun x hx => ?_
    rw [bR] at hx
    rw [heap_set_ne (fun e => hbr (by rw [← e]; exact hx))]
    exact h2.touch.block x (by rw [bL]; exact fun h => hlr x h x hx rfl)
  · exact (t1.trans (h2.touch.mono (by rw [bL]; intro x hx; simp [blocks, hx]))).setCell (by simp [blocks]) _
  · simp only [blocks, bR]
    refine List.perm_middle.trans (List.Perm.cons _ ?_)
    rw [← List.append_assoc]
    exact List.Perm.append_right _ (by rw [← bL]; exact h2.perm)
  · rw [← flat_pushed b 0 a l r ha ht]
    have e3 : max (0 : Int) (pushed a).al = 0 := by show max (0 : Int) 0 = 0; omega
    simp only [Qxb6618059a.flat, e3]
    rw [← List.append_assoc, h2.flat]
  · intro x hx
    rw [hkeys] at hx
    rw [keysOf_node] at hs
    rcases List.mem_append.1 hx with hx | hx
    · exact h2.high x hx
    · rcases List.mem_cons.1 hx with rfl | hx
      · exact hk
      · cases hc : lt x k with
        | false => rfl
        | true =>
          have h3 : lt a.key x = true := (List.pairwise_cons.1 (List.pairwise_append.1 hs).2.1).1 x hx
          rw [lt_trans' h3 hc] at hk
          cases hk
  · intro hh
    obtain ⟨u1, u2, g1, g2⟩ := hh
    obtain ⟨hP, hQ, hU⟩ := h2.hp (by rw [raise_hp]; exact g1)
    have hPQ := hU a.pr (by rw [raise_under]; exact u1)
    exact ⟨hP, ⟨hPQ.2, by rw [raise_under]; exact u2, hQ, by rw [raise_hp]; exact g2⟩, fun p hp => ⟨under_mono hp hPQ.1, hp⟩⟩

structure MergeOK (A B : BT Nod) (w w' : World) (M : BT Nod) : Prop where
  inM : InT w' M
  touch : Touch (blocks A ++ blocks B) w w'
  perm : (blocks M).Perm (blocks A ++ blocks B)
  flat : flat 0 M = flat 0 A ++ flat 0 B
  hp : hp A → hp B → hp M ∧ ∀ p, under p A → under p B → under p M

theorem merge_nil_left {B : BT Nod} {w : World} (h : InT w B) : MergeOK .nil B w w B :=
  ⟨h, Touch.refl _ _, List.Perm.refl _, rfl, fun _ h => ⟨h, fun _ _ h => h⟩⟩
theorem merge_nil_right {A : BT Nod} {w : World} (h : InT w A) : MergeOK A .nil w w A :=
  ⟨h, Touch.refl _ _, by simp [blocks], by simp [Qxb6618059a.flat], fun h _ => ⟨h, fun _ h _ => h⟩⟩

/-- The first tree's root stays the root. -/
theorem merge_first {b : Nat} {a : Nod} {l r B M : BT Nod} {w w1 w2 : World} (ha : 0 ≤ a.al) (ht : 0 ≤ a.ts) (hn : (blocks (.node b 0 a l r) ++ blocks B).Nodup) (hu : under a.pr B)
    (h1 : InT w1 (.node b 0 (pushed a) (raise a.al l) (raise a.al r))) (t1 : Touch (blocks (.node b 0 a l r)) w w1) (h2 : MergeOK (raise a.al r) B w1 w2 M) :
    MergeOK (.node b 0 a l r) B w (w2.setCell ⟨b, 5, none⟩ M.ptr) (.node b 0 (pushed a) (raise a.al l) M) := by
  obtain ⟨_, hb, hts, hal, hl, hr⟩ := h1
  have hn0 := hn
  simp only [blocks, List.cons_append, List.nodup_cons, List.nodup_append, List.mem_append, not_or] at hn
  obtain ⟨⟨⟨hbl, hbr⟩, hbB⟩, ⟨hnl, hnr, hlr⟩, hnB, hAB⟩ := hn
  have bR := raise_blocks a.al r
  have bL := raise_blocks a.al l
  have mM : ∀ x ∈ blocks M, x ∈ blocks r ∨ x ∈ blocks B := fun x hx => by rw [← bR]; exact List.mem_append.1 (h2.perm.mem_iff.1 hx)
  have hb2 : w2.heap[b]? = some (nobj (pushed a) (raise a.al l).ptr (raise a.al r).ptr) := (h2.touch.block b (by rw [bR, List.mem_append, not_or]; exact ⟨hbr, hbB⟩)).trans hb
  refine ⟨⟨rfl, nobj_right hb2 _, hts, hal, ?_, ?_⟩, ?_, ?_, ?_, ?_⟩
  · refine inT_of hl fun x hx => ?_
    rw [bL] at hx
    rw [heap_set_ne (fun e => hbl (by rw [← e]; exact hx))]
    exact h2.touch.block x (by rw [bR, List.mem_append, not_or]; exact ⟨fun h => hlr x hx x h rfl, fun h => hAB x (Or.inl hx) x h rfl⟩)
  · exact inT_of h2.inM fun x hx => heap_set_ne (fun e => (mM x hx).elim (fun h => hbr (by rw [← e]; exact h)) (fun h => hbB (by rw [← e]; exact h))) _
  · refine ((t1.mono ?_).trans (h2.touch.mono ?_)).setCell (by simp [blocks]) _
    · intro x hx; exact List.mem_append_left _ hx
    · rw [bR]; intro x hx; rcases List.mem_append.1 hx with hx | hx <;> simp [blocks, hx]
  · simp only [blocks, bL, List.cons_append, List.append_assoc]
    exact (List.Perm.append_left _ (by rw [← bR]; exact h2.perm)).cons _
  · rw [← flat_pushed b 0 a l r ha ht]
    have e3 : max (0 : Int) (pushed a).al = 0 := by show max (0 : Int) 0 = 0; omega
    simp only [Qxb6618059a.flat, e3, List.append_assoc, List.cons_append]
    rw [h2.flat]
  · intro hA hB
    obtain ⟨u1, u2, g1, g2⟩ := hA
    obtain ⟨hM, hU⟩ := h2.hp (by rw [raise_hp]; exact g2) hB
    exact ⟨⟨by rw [raise_under]; exact u1, hU a.pr (by rw [raise_under]; exact u2) hu, by rw [raise_hp]; exact g1, hM⟩, fun p hp _ => hp⟩

/-- The second tree's root stays the root. -/
theorem merge_second {b : Nat} {a : Nod} {A l r M : BT Nod} {w w1 w2 : World} (ha : 0 ≤ a.al) (ht : 0 ≤ a.ts) (hn : (blocks A ++ blocks (.node b 0 a l r)).Nodup) (hu : under a.pr A)
    (h1 : InT w1 (.node b 0 (pushed a) (raise a.al l) (raise a.al r))) (t1 : Touch (blocks (.node b 0 a l r)) w w1) (h2 : MergeOK A (raise a.al l) w1 w2 M) :
    MergeOK A (.node b 0 a l r) w (w2.setCell ⟨b, 4, none⟩ M.ptr) (.node b 0 (pushed a) M (raise a.al r)) := by
  obtain ⟨_, hb, hts, hal, hl, hr⟩ := h1
  have hn0 := hn
  simp only [blocks, List.nodup_cons, List.nodup_append, List.mem_append, List.mem_cons, not_or] at hn
  obtain ⟨hnA, ⟨⟨hbl, hbr⟩, hnl, hnr, hlr⟩, hAB⟩ := hn
  have bR := raise_blocks a.al r
  have bL := raise_blocks a.al l
  have hbA : b ∉ blocks A := fun h => hAB b h b (Or.inl rfl) rfl
  have mM : ∀ x ∈ blocks M, x ∈ blocks A ∨ x ∈ blocks l := fun x hx => by rw [← bL]; exact List.mem_append.1 (h2.perm.mem_iff.1 hx)
  have hb2 : w2.heap[b]? = some (nobj (pushed a) (raise a.al l).ptr (raise a.al r).ptr) := (h2.touch.block b (by rw [bL, List.mem_append, not_or]; exact ⟨hbA, hbl⟩)).trans hb
  refine ⟨⟨rfl, nobj_left hb2 _, hts, hal, ?_, ?_⟩, ?_, ?_, ?_, ?_⟩
  · exact inT_of h2.inM fun x hx => heap_set_ne (fun e => (mM x hx).elim (fun h => hbA (by rw [← e]; exact h)) (fun h => hbl (by rw [← e]; exact h))) _
  · refine inT_of hr fun x hx => ?_
    rw [bR] at hx
    rw [heap_set_ne (fun e => hbr (by rw [← e]; exact hx))]
    exact h2.touch.block x (by rw [bL, List.mem_append, not_or]; exact ⟨fun h => hAB x h x (Or.inr (Or.inr hx)) rfl, fun h => hlr x h x hx rfl⟩)
  · refine ((t1.mono ?_).trans (h2.touch.mono ?_)).setCell (by simp [blocks]) _
    · intro x hx; exact List.mem_append_right _ hx
    · rw [bL]; intro x hx; rcases List.mem_append.1 hx with hx | hx <;> simp [blocks, hx]
  · simp only [blocks, bR]
    refine List.Perm.trans (List.Perm.cons _ ?_) List.perm_middle.symm
    rw [← List.append_assoc]
    exact List.Perm.append_right _ (by rw [← bL]; exact h2.perm)
  · rw [← flat_pushed b 0 a l r ha ht]
    have e3 : max (0 : Int) (pushed a).al = 0 := by show max (0 : Int) 0 = 0; omega
    simp only [Qxb6618059a.flat, e3]
    rw [h2.flat, List.append_assoc]
  · intro hA hB
    obtain ⟨u1, u2, g1, g2⟩ := hB
    obtain ⟨hM, hU⟩ := h2.hp hA (by rw [raise_hp]; exact g1)
    exact ⟨⟨hU a.pr hu (by rw [raise_under]; exact u1), by rw [raise_under]; exact u2, hM, by rw [raise_hp]; exact g2⟩, fun p _ hp => hp⟩

end Go.Proofs.Qxb6618059a
