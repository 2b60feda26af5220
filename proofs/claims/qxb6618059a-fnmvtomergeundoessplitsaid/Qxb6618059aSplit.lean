/-
  push, split AND merge BY THEIR CONTRACTS ON TREES.
-/
import Derived.Test.Qxb6618059aPush
import Derived.Test.Qxb6618059aOrder
namespace Go.Proofs.Qxb6618059a
open Go.RowKit Go.Deep

theorem raise_zero {w : World} {T : BT Nod} (h : InT w T) : raise 0 T = T := by
  cases T with
  | nil => rfl
  | node b o a l r =>
    have := h.2.2.2.1
    have e : max a.al 0 = a.al := by omega
    simp [raise, e]

theorem ptr_some (T : BT Nod) : ∃ p, T.ptr = .pointer p := by cases T <;> exact ⟨_, rfl⟩

/-- The subtrees of a raised node lie where they lay. -/
theorem inT_raise {w w' : World} {x : Int} {T : BT Nod} (hx : 0 ≤ x) (h : InT w T) (hs : ∀ b ∈ blocks T, w'.heap[b]? = w.heap[b]? ∨ ∃ o a l r, T = .node b o a l r)
    (hr : ∀ b o a l r, T = .node b o a l r → w'.heap[b]? = some (nobj { a with al := max a.al x } l.ptr r.ptr)) (hn : (blocks T).Nodup) : InT w' (raise x T) := by
  cases T with
  | nil => trivial
  | node b o a l r =>
    obtain ⟨h1, h2, h3, h4, hl, hr'⟩ := h
    simp only [blocks, List.nodup_cons, List.nodup_append, List.mem_append] at hn
    refine ⟨h1, hr b o a l r rfl, h3, ?_, ?_, ?_⟩
    · show 0 ≤ max a.al x
      omega
    · refine inT_of hl fun k hk => ?_
      rcases hs k (by simp [blocks, hk]) with h | ⟨_, _, _, _, he⟩
      · exact h
      · cases he; exact absurd (Or.inl hk) hn.1
    · refine inT_of hr' fun k hk => ?_
      rcases hs k (by simp [blocks, hk]) with h | ⟨_, _, _, _, he⟩
      · exact h
      · cases he; exact absurd (Or.inr hk) hn.1

theorem push_any (b : Nat) (a : Nod) (l r : BT Nod) (w : World) (h : InT w (.node b 0 a l r)) (hn : (blocks (.node b 0 a l r)).Nodup) :
    Calls Try.prog 24 #[.pointer (some ⟨b, 0, none⟩)] w fun e w' => e = .returned (.tuple #[]) ∧ InT w' (.node b 0 (pushed a) (raise a.al l) (raise a.al r)) ∧ Touch (blocks (.node b 0 a l r)) w w' := by
  obtain ⟨_, h2, h3, h4, hl, hr⟩ := h
  have hn0 := hn
  simp only [blocks, List.nodup_cons, List.nodup_append, List.mem_append] at hn
  obtain ⟨hn1, hnl, hnr, hlr⟩ := hn
  by_cases h0 : a.al = 0
  · refine (push_zero b w (by rw [(nobj_cells h2).2.2.1, h0])).mono ?_
    rintro e w' ⟨rfl, rfl⟩
    have e1 : pushed a = a := by
      obtain ⟨k, t, al, p⟩ := a
      dsimp only at h0 h3
      subst h0
      have : max t 0 = t := by omega
      simp [pushed, this]
    rw [e1, h0, raise_zero hl, raise_zero hr]
    exact ⟨rfl, ⟨rfl, h2, h3, h4, hl, hr⟩, Touch.refl _ _⟩
  · have hne : (a.al == 0) = false := by simpa using h0
    have hts : 0 ≤ (pushed a).ts := by show 0 ≤ max a.ts a.al; omega
    have hal : 0 ≤ (pushed a).al := Int.le_refl _
    cases l with
    | nil =>
      cases r with
      | nil =>
        refine (push_nn b a w hne h2).mono ?_
        rintro e w' ⟨rfl, hb, ht⟩
        exact ⟨rfl, ⟨rfl, hb, hts, hal, trivial, trivial⟩, ht.mono (by simp [blocks])⟩
      | node d od y yl yr =>
        have hr0 := hr
        obtain ⟨rfl, g2, _⟩ := hr
        have hdb : d ≠ b := fun e => hn1 (Or.inr (by simp [blocks, e]))
        refine (push_rn b d a y yl.ptr yr.ptr w hne hdb h2 g2).mono ?_
        rintro e w' ⟨rfl, hb, hd, ht⟩
        refine ⟨rfl, ⟨rfl, hb, hts, hal, trivial, inT_raise h4 hr0 (fun k hk => ?_) (fun _ _ _ _ _ he => by cases he; exact hd) hnr⟩, ht.mono (by simp [blocks])⟩
        by_cases hkd : k = d
        · exact Or.inr ⟨0, y, yl, yr, by rw [hkd]⟩
        · refine Or.inl (ht.block k ?_)
          simp only [List.mem_cons, List.not_mem_nil, or_false, not_or]
          exact ⟨fun e => hn1 (Or.inr (e ▸ hk)), hkd⟩
    | node c oc x xl xr =>
      have hl0 := hl
      obtain ⟨rfl, g1, _⟩ := hl
      have hcb : c ≠ b := fun e => hn1 (Or.inl (by simp [blocks, e]))
      cases r with
      | nil =>
        refine (push_ln b c a x xl.ptr xr.ptr w hne hcb h2 g1).mono ?_
        rintro e w' ⟨rfl, hb, hc, ht⟩
        refine ⟨rfl, ⟨rfl, hb, hts, hal, inT_raise h4 hl0 (fun k hk => ?_) (fun _ _ _ _ _ he => by cases he; exact hc) hnl, trivial⟩, ht.mono (by simp [blocks])⟩
        by_cases hkd : k = c
        · exact Or.inr ⟨0, x, xl, xr, by rw [hkd]⟩
        · refine Or.inl (ht.block k ?_)
          simp only [List.mem_cons, List.not_mem_nil, or_false, not_or]
          exact ⟨fun e => hn1 (Or.inl (e ▸ hk)), hkd⟩
      | node d od y yl yr =>
        have hr0 := hr
        obtain ⟨rfl, g2, _⟩ := hr
        have hdb : d ≠ b := fun e => hn1 (Or.inr (by simp [blocks, e]))
        have hcd : c ≠ d := hlr c (by simp [blocks]) d (by simp [blocks])
        refine (push_lr b c d a x y xl.ptr xr.ptr yl.ptr yr.ptr w hne hcb hdb hcd h2 g1 g2).mono ?_
        rintro e w' ⟨rfl, hb, hc, hd, ht⟩
        refine ⟨rfl, ⟨rfl, hb, hts, hal, inT_raise h4 hl0 (fun k hk => ?_) (fun _ _ _ _ _ he => by cases he; exact hc) hnl,
          inT_raise h4 hr0 (fun k hk => ?_) (fun _ _ _ _ _ he => by cases he; exact hd) hnr⟩, ht.mono (fun k hk => ?_)⟩
        · by_cases hkd : k = c
          · exact Or.inr ⟨0, x, xl, xr, by rw [hkd]⟩
          · refine Or.inl (ht.block k ?_)
            simp only [List.mem_cons, List.not_mem_nil, or_false, not_or]
            exact ⟨fun e => hn1 (Or.inl (e ▸ hk)), hkd, fun e => hlr k hk d (by simp [blocks]) e⟩
        · by_cases hkd : k = d
          · exact Or.inr ⟨0, y, yl, yr, by rw [hkd]⟩
          · refine Or.inl (ht.block k ?_)
            simp only [List.mem_cons, List.not_mem_nil, or_false, not_or]
            exact ⟨fun e => hn1 (Or.inr (e ▸ hk)), fun e => hlr c (by simp [blocks]) k hk e.symm, hkd⟩
        · simp only [List.mem_cons, List.not_mem_nil, or_false] at hk
          rcases hk with rfl | rfl | rfl <;> simp [blocks]

theorem nodup_sub {b o : Nat} {a : Nod} {l r : BT Nod} (h : (blocks (.node b o a l r)).Nodup) : (blocks l).Nodup ∧ (blocks r).Nodup ∧ b ∉ blocks l ∧ b ∉ blocks r := by
  simp only [blocks, List.nodup_cons, List.nodup_append, List.mem_append, not_or] at h
  exact ⟨h.2.1, h.2.2.1, h.1.1, h.1.2⟩
theorem asc_sub {b o : Nat} {a : Nod} {l r : BT Nod} (h : Asc (keysOf (.node b o a l r))) : Asc (keysOf l) ∧ Asc (keysOf r) := by
  rw [keysOf_node] at h
  exact ⟨(List.pairwise_append.1 h).1, (List.pairwise_cons.1 (List.pairwise_append.1 h).2.1).2⟩

set_option maxHeartbeats 800000 in
theorem split_any (n : Nat) : ∀ (T : BT Nod) (k : ByteArray) (w : World), size T ≤ n → InT w T → (blocks T).Nodup → Asc (keysOf T) →
    Calls Try.prog 25 #[T.ptr, .string k] w fun e w' => ∃ P Q : BT Nod, e = .returned (.tuple #[P.ptr, Q.ptr]) ∧ SplitOK T k w w' P Q := by
  induction n with
  | zero =>
    intro T k w hs _ _ _
    cases T with
    | node b o a l r => simp [size] at hs
    | nil =>
      show Calls Try.prog 25 #[.pointer none, .string k] w _
      go_enter Try.func25, Try.ntmps25
      go_wp2_with fail
      go_returns
      exact ⟨.nil, .nil, rfl, split_nil k w⟩
  | succ n ih =>
    intro T k w hs hin hn hasc
    have IH : Hid (∀ (T : BT Nod) (k : ByteArray) (w : World), size T ≤ n → InT w T → (blocks T).Nodup → Asc (keysOf T) →
      Calls Try.prog 25 #[T.ptr, .string k] w fun e w' => ∃ P Q : BT Nod, e = .returned (.tuple #[P.ptr, Q.ptr]) ∧ SplitOK T k w w' P Q) := ih
    clear ih
    cases T with
    | nil =>
      show Calls Try.prog 25 #[.pointer none, .string k] w _
      go_enter Try.func25, Try.ntmps25
      go_wp2_with fail
      go_returns
      exact ⟨.nil, .nil, rfl, split_nil k w⟩
    | node b o a l r =>
      obtain rfl : o = 0 := hin.1
      show Calls Try.prog 25 #[.pointer (some ⟨b, 0, none⟩), .string k] w _
      have H : Hid (size (.node b 0 a l r) ≤ n + 1 ∧ InT w (.node b 0 a l r) ∧ (blocks (.node b 0 a l r)).Nodup ∧ Asc (keysOf (.node b 0 a l r))) := ⟨hs, hin, hn, hasc⟩
      clear hs hin hn hasc
      go_enter Try.func25, Try.ntmps25
      go_wp2_with fail
      refine (push_any b a l r w H.out.2.1 H.out.2.2.1).mono ?_
      rintro e w1 ⟨rfl, h1, t1⟩
      obtain ⟨k0, _, _, _, k4, k5⟩ := nobj_cells h1.2.1
      cases hk : lt a.key k with
      | true =>
        have hk' : Op.bytesLess (pushed a).key.toList k.toList = true := hk
        have HH : Hid (InT w1 (.node b 0 (pushed a) (raise a.al l) (raise a.al r)) ∧ Touch (blocks (.node b 0 a l r)) w w1 ∧ lt a.key k = true) := ⟨h1, t1, hk⟩
        clear h1 t1 hk
        go_wp2_with fail
        refine (IH.out (raise a.al r) k w1 ?_ ?_ ?_ ?_).mono ?_
        · have := H.out.1; simp only [size, raise_size] at this ⊢; omega
        · exact HH.out.1.2.2.2.2.2
        · rw [raise_blocks]; exact (nodup_sub H.out.2.2.1).2.1
        · rw [keysOf_raise]; exact (asc_sub H.out.2.2.2).2
        rintro e w2 ⟨P, Q, rfl, h2⟩
        have hb2 : w2.heap[b]? = some (nobj (pushed a) (raise a.al l).ptr (raise a.al r).ptr) := (h2.touch.block b (by rw [raise_blocks]; exact (nodup_sub H.out.2.2.1).2.2.2)).trans HH.out.1.2.1
        obtain ⟨u, hu⟩ := ptr_some P
        obtain ⟨v, hv⟩ := ptr_some Q
        have c5 := (nobj_cells hb2).2.2.2.2.2
        have f5 := nobj_free hb2 5
        have R := split_right H.out.2.1.2.2.2.1 H.out.2.1.2.2.1 H.out.2.2.1 H.out.2.2.2 HH.out.2.2 HH.out.1 HH.out.2.1 h2
        rw [hu] at R
        have RR : Hid (SplitOK (.node b 0 a l r) k w (w2.setCell ⟨b, 5, none⟩ (.pointer u)) (.node b 0 (pushed a) (raise a.al l) P) Q ∧ Q.ptr = .pointer v) := ⟨R, hv⟩
        clear hb2 h2 R
        rw [hu, hv]
        clear hu hv
        go_wp2_with fail
        go_returns
        exact ⟨_, Q, by rw [RR.out.2]; rfl, RR.out.1⟩
      | false =>
        have hk' : Op.bytesLess (pushed a).key.toList k.toList = false := hk
        have HH : Hid (InT w1 (.node b 0 (pushed a) (raise a.al l) (raise a.al r)) ∧ Touch (blocks (.node b 0 a l r)) w w1 ∧ lt a.key k = false) := ⟨h1, t1, hk⟩
        clear h1 t1 hk
        go_wp2_with fail
        refine (IH.out (raise a.al l) k w1 ?_ ?_ ?_ ?_).mono ?_
        · have := H.out.1; simp only [size, raise_size] at this ⊢; omega
        · exact HH.out.1.2.2.2.2.1
        · rw [raise_blocks]; exact (nodup_sub H.out.2.2.1).1
        · rw [keysOf_raise]; exact (asc_sub H.out.2.2.2).1
        rintro e w2 ⟨P, Q, rfl, h2⟩
        have hb2 : w2.heap[b]? = some (nobj (pushed a) (raise a.al l).ptr (raise a.al r).ptr) := (h2.touch.block b (by rw [raise_blocks]; exact (nodup_sub H.out.2.2.1).2.2.1)).trans HH.out.1.2.1
        obtain ⟨u, hu⟩ := ptr_some P
        obtain ⟨v, hv⟩ := ptr_some Q
        have c4 := (nobj_cells hb2).2.2.2.2.1
        have f4 := nobj_free hb2 4
        have R := split_left H.out.2.1.2.2.2.1 H.out.2.1.2.2.1 H.out.2.2.1 H.out.2.2.2 HH.out.2.2 HH.out.1 HH.out.2.1 h2
        rw [hv] at R
        have RR : Hid (SplitOK (.node b 0 a l r) k w (w2.setCell ⟨b, 4, none⟩ (.pointer v)) P (.node b 0 (pushed a) Q (raise a.al r)) ∧ P.ptr = .pointer u) := ⟨R, hu⟩
        clear hb2 h2 R
        rw [hu, hv]
        clear hu hv
        go_wp2_with fail
        go_returns
        exact ⟨P, _, by rw [RR.out.2]; rfl, RR.out.1⟩

end Go.Proofs.Qxb6618059a
