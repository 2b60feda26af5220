/-
  merge BY ITS CONTRACT ON TREES; the shims ZZPush, ZZSplit, ZZMerge.
-/
import Derived.Test.Qxb6618059aSplit
namespace Go.Proofs.Qxb6618059a
open Go.RowKit Go.Deep

theorem Touch.drewN {S : List Nat} (w : World) (n : Nat) : Touch S w (w.drewN n) := ⟨rfl, rfl, rfl, rfl, fun _ _ => rfl⟩
theorem nodup_app {s t : List Nat} (h : (s ++ t).Nodup) : s.Nodup ∧ t.Nodup ∧ ∀ x ∈ s, x ∉ t :=
  ⟨(List.nodup_append.1 h).1, (List.nodup_append.1 h).2.1, fun x h1 h2 => (List.nodup_append.1 h).2.2 x h1 x h2 rfl⟩
theorem nodup_right {b o : Nat} {a : Nod} {l r : BT Nod} {t : List Nat} (h : (blocks (.node b o a l r) ++ t).Nodup) : (blocks r ++ t).Nodup := by
  obtain ⟨h1, h2, h3⟩ := nodup_app h
  exact List.nodup_append.2 ⟨(nodup_sub h1).2.1, h2, fun x hx y hy e => h3 x (by simp [blocks, hx]) (e ▸ hy)⟩
theorem nodup_left {b o : Nat} {a : Nod} {l r : BT Nod} {t : List Nat} (h : (t ++ blocks (.node b o a l r)).Nodup) : (t ++ blocks l).Nodup := by
  obtain ⟨h1, h2, h3⟩ := nodup_app h
  exact List.nodup_append.2 ⟨h1, (nodup_sub h2).1, fun x hx y hy e => h3 x hx (by simp [blocks, e, hy])⟩

set_option maxHeartbeats 800000 in
theorem merge_any (n : Nat) : ∀ (A B : BT Nod) (w : World), size A + size B ≤ n → InT w A → InT w B → (blocks A ++ blocks B).Nodup →
    Calls Try.prog 23 #[A.ptr, B.ptr] w fun e w' => ∃ M : BT Nod, e = .returned M.ptr ∧ MergeOK A B w w' M := by
  induction n with
  | zero =>
    intro A B w hs _ hB _
    cases A with
    | node b o a l r => simp [size] at hs
    | nil =>
      obtain ⟨v, hv⟩ := ptr_some B
      have HB : Hid (InT w B ∧ B.ptr = .pointer v) := ⟨hB, hv⟩
      clear hB
      rw [hv]
      clear hv
      show Calls Try.prog 23 #[.pointer none, .pointer v] w _
      go_enter Try.func23, Try.ntmps23
      go_wp2_with fail
      go_returns
      exact ⟨B, by rw [HB.out.2]; rfl, merge_nil_left HB.out.1⟩
  | succ n ih =>
    intro A B w hs hA hB hn
    have IH : Hid (∀ (A B : BT Nod) (w : World), size A + size B ≤ n → InT w A → InT w B → (blocks A ++ blocks B).Nodup →
      Calls Try.prog 23 #[A.ptr, B.ptr] w fun e w' => ∃ M : BT Nod, e = .returned M.ptr ∧ MergeOK A B w w' M) := ih
    clear ih
    cases A with
    | nil =>
      obtain ⟨v, hv⟩ := ptr_some B
      have HB : Hid (InT w B ∧ B.ptr = .pointer v) := ⟨hB, hv⟩
      clear hB hA hs hn
      rw [hv]
      clear hv
      show Calls Try.prog 23 #[.pointer none, .pointer v] w _
      go_enter Try.func23, Try.ntmps23
      go_wp2_with fail
      go_returns
      exact ⟨B, by rw [HB.out.2]; rfl, merge_nil_left HB.out.1⟩
    | node b o a l r =>
      obtain rfl : o = 0 := hA.1
      cases B with
      | nil =>
        have HA : Hid (InT w (.node b 0 a l r)) := hA
        clear hA hB hs hn
        show Calls Try.prog 23 #[.pointer (some ⟨b, 0, none⟩), .pointer none] w _
        go_enter Try.func23, Try.ntmps23
        go_wp2_with fail
        go_returns
        exact ⟨.node b 0 a l r, rfl, merge_nil_right HA.out⟩
      | node c o' x y z =>
        obtain rfl : o' = 0 := hB.1
        show Calls Try.prog 23 #[.pointer (some ⟨b, 0, none⟩), .pointer (some ⟨c, 0, none⟩)] w _
        have H : Hid (size (.node b 0 a l r) + size (.node c 0 x y z) ≤ n + 1 ∧ InT w (.node b 0 a l r) ∧ InT w (.node c 0 x y z) ∧ (blocks (.node b 0 a l r) ++ blocks (.node c 0 x y z)).Nodup) := ⟨hs, hA, hB, hn⟩
        have p1 := (nobj_cells hA.2.1).2.2.2.1
        have p2 := (nobj_cells hB.2.1).2.2.2.1
        clear hs hA hB hn
        by_cases hgt : x.pr < a.pr
        · go_enter Try.func23, Try.ntmps23
          go_wp2_with fail
          go_quiet (fail)
          go_wp2_with fail
          refine (push_any b a l r (w.drewN nq) (inT_of H.out.2.1 fun _ _ => rfl) (nodup_app H.out.2.2.2).1).mono ?_
          rintro e w1 ⟨rfl, h1, t1⟩
          have T1 : Hid (Touch (blocks (.node b 0 a l r)) w w1 ∧ InT w1 (.node b 0 (pushed a) (raise a.al l) (raise a.al r)) ∧ x.pr < a.pr) := ⟨(Touch.drewN w nq).trans t1, h1, hgt⟩
          have k5 := (nobj_cells h1.2.1).2.2.2.2.2
          clear t1 h1 p1 p2 hgt
          go_wp2_with fail
          refine (IH.out (raise a.al r) (.node c 0 x y z) w1 ?_ ?_ ?_ ?_).mono ?_
          · have := H.out.1; simp only [size, raise_size] at this ⊢; omega
          · exact T1.out.2.1.2.2.2.2.2
          · exact inT_of H.out.2.2.1 fun k hk => T1.out.1.block k (fun h => (nodup_app H.out.2.2.2).2.2 k h hk)
          · rw [raise_blocks]; exact nodup_right H.out.2.2.2
          rintro e w2 ⟨M, rfl, h2⟩
          have hb2 : w2.heap[b]? = some (nobj (pushed a) (raise a.al l).ptr (raise a.al r).ptr) := (h2.touch.block b (by
            rw [raise_blocks, List.mem_append, not_or]
            exact ⟨(nodup_sub (nodup_app H.out.2.2.2).1).2.2.2, (nodup_app H.out.2.2.2).2.2 b (by simp [blocks])⟩)).trans T1.out.2.1.2.1
          obtain ⟨u, hu⟩ := ptr_some M
          have c5 := (nobj_cells hb2).2.2.2.2.2
          have f5 := nobj_free hb2 5
          have R := merge_first H.out.2.1.2.2.2.1 H.out.2.1.2.2.1 H.out.2.2.2 (Int.le_of_lt T1.out.2.2) T1.out.2.1 T1.out.1 h2
          rw [hu] at R
          have RR : Hid (MergeOK (.node b 0 a l r) (.node c 0 x y z) w (w2.setCell ⟨b, 5, none⟩ (.pointer u)) (.node b 0 (pushed a) (raise a.al l) M)) := R
          clear hb2 h2 R
          rw [hu]
          clear hu
          go_wp2_with fail
          go_returns
          exact ⟨_, rfl, RR.out⟩
        · go_enter Try.func23, Try.ntmps23
          go_wp2_with fail
          go_quiet (fail)
          go_wp2_with fail
          refine (push_any c x y z (w.drewN nq) (inT_of H.out.2.2.1 fun _ _ => rfl) (nodup_app H.out.2.2.2).2.1).mono ?_
          rintro e w1 ⟨rfl, h1, t1⟩
          have T1 : Hid (Touch (blocks (.node c 0 x y z)) w w1 ∧ InT w1 (.node c 0 (pushed x) (raise x.al y) (raise x.al z)) ∧ a.pr ≤ x.pr) := ⟨(Touch.drewN w nq).trans t1, h1, by omega⟩
          have k4 := (nobj_cells h1.2.1).2.2.2.2.1
          clear t1 h1 p1 p2 hgt
          go_wp2_with fail
          refine (IH.out (.node b 0 a l r) (raise x.al y) w1 ?_ ?_ ?_ ?_).mono ?_
          · have := H.out.1; simp only [size, raise_size] at this ⊢; omega
          · exact inT_of H.out.2.1 fun k hk => T1.out.1.block k (fun h => (nodup_app H.out.2.2.2).2.2 k hk h)
          · exact T1.out.2.1.2.2.2.2.1
          · rw [raise_blocks]; exact nodup_left H.out.2.2.2
          rintro e w2 ⟨M, rfl, h2⟩
          have hb2 : w2.heap[c]? = some (nobj (pushed x) (raise x.al y).ptr (raise x.al z).ptr) := (h2.touch.block c (by
            rw [raise_blocks, List.mem_append, not_or]
            exact ⟨fun h => (nodup_app H.out.2.2.2).2.2 c h (by simp [blocks]), (nodup_sub (nodup_app H.out.2.2.2).2.1).2.2.1⟩)).trans T1.out.2.1.2.1
          obtain ⟨u, hu⟩ := ptr_some M
          have c4 := (nobj_cells hb2).2.2.2.2.1
          have f4 := nobj_free hb2 4
          have R := merge_second H.out.2.2.1.2.2.2.1 H.out.2.2.1.2.2.1 H.out.2.2.2 T1.out.2.2 T1.out.2.1 T1.out.1 h2
          rw [hu] at R
          have RR : Hid (MergeOK (.node b 0 a l r) (.node c 0 x y z) w (w2.setCell ⟨c, 4, none⟩ (.pointer u)) (.node c 0 (pushed x) M (raise x.al z))) := R
          clear hb2 h2 R
          rw [hu]
          clear hu
          go_wp2_with fail
          go_returns
          exact ⟨_, rfl, RR.out⟩

/-! The shims. -/
theorem zzPush_any (b : Nat) (a : Nod) (l r : BT Nod) (w : World) (h : InT w (.node b 0 a l r)) (hn : (blocks (.node b 0 a l r)).Nodup) :
    Calls Try.prog 16 #[.pointer (some ⟨b, 0, none⟩)] w fun e w' => e = .returned (.tuple #[]) ∧ InT w' (.node b 0 (pushed a) (raise a.al l) (raise a.al r)) ∧ Touch (blocks (.node b 0 a l r)) w w' := by
  have H : Hid (InT w (.node b 0 a l r) ∧ (blocks (.node b 0 a l r)).Nodup) := ⟨h, hn⟩
  clear h hn
  go_enter Try.func16, Try.ntmps16
  go_wp2_with fail
  refine (push_any b a l r w H.out.1 H.out.2).mono ?_
  rintro e w1 ⟨rfl, h1, t1⟩
  have T1 : Hid (InT w1 (.node b 0 (pushed a) (raise a.al l) (raise a.al r)) ∧ Touch (blocks (.node b 0 a l r)) w w1) := ⟨h1, t1⟩
  clear h1 t1
  go_wp2_with fail
  go_returns
  exact ⟨rfl, T1.out⟩

theorem zzSplit_any (T : BT Nod) (k : ByteArray) (w : World) (h : InT w T) (hn : (blocks T).Nodup) (hs : Asc (keysOf T)) :
    Calls Try.prog 19 #[T.ptr, .string k] w fun e w' => ∃ P Q : BT Nod, e = .returned (.tuple #[P.ptr, Q.ptr]) ∧ SplitOK T k w w' P Q := by
  have H : Hid (InT w T ∧ (blocks T).Nodup ∧ Asc (keysOf T)) := ⟨h, hn, hs⟩
  clear h hn hs
  go_enter Try.func19, Try.ntmps19
  go_wp2_with fail
  refine (split_any (size T) T k w (Nat.le_refl _) H.out.1 H.out.2.1 H.out.2.2).mono ?_
  rintro e w1 ⟨P, Q, rfl, h1⟩
  have T1 : Hid (SplitOK T k w w1 P Q) := h1
  clear h1
  go_wp2_with fail
  go_returns
  exact ⟨P, Q, rfl, T1.out⟩

theorem zzMerge_any (A B : BT Nod) (w : World) (hA : InT w A) (hB : InT w B) (hn : (blocks A ++ blocks B).Nodup) :
    Calls Try.prog 13 #[A.ptr, B.ptr] w fun e w' => ∃ M : BT Nod, e = .returned M.ptr ∧ MergeOK A B w w' M := by
  have H : Hid (InT w A ∧ InT w B ∧ (blocks A ++ blocks B).Nodup) := ⟨hA, hB, hn⟩
  clear hA hB hn
  go_enter Try.func13, Try.ntmps13
  go_wp2_with fail
  refine (merge_any (size A + size B) A B w (Nat.le_refl _) H.out.1 H.out.2.1 H.out.2.2).mono ?_
  rintro e w1 ⟨M, rfl, h1⟩
  have T1 : Hid (MergeOK A B w w1 M) := h1
  clear h1
  go_wp2_with fail
  go_returns
  exact ⟨M, rfl, T1.out⟩

end Go.Proofs.Qxb6618059a
