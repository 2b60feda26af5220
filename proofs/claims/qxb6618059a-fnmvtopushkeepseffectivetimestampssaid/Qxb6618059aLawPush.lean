/-
  THE WALK OF FnMvtoPushKeepsEffectiveTimestamps.
-/
import Derived.Test.Qxb6618059aTies
namespace Go.Proofs.Qxb6618059a
open Go.RowKit Go.Deep

set_option maxRecDepth 100000 in
set_option maxHeartbeats 3200000 in
theorem law_push (n c n1 c1 n2 c2 n3 c3 : Nat) (a a1 a2 a3 : Option Addr) (E : Nat → Nod) (w : World) (hA : Args w n n1 n2 n3 a a1 a2 a3 E) :
    Calls Try.prog 4 #[.slice a n c, .slice a1 n1 c1, .slice a2 n2 c2, .slice a3 n3 c3] w fun e w' => e = .returned (.bool true) ∧ Below w.heap.size w w' := by
  have m0 := hA.l0
  have m1 := hA.l1
  have m2 := hA.l2
  have m3 := hA.l3
  unfold maxLen at m0 m1 m2 m3
  have H : Hid (Args w n n1 n2 n3 a a1 a2 a3 E) := hA
  clear hA
  go_enter Try.func4, Try.ntmps4
  go_wp2_with fail
  refine (bytesPush_any w.heap.size n c n1 c1 n2 c2 n3 c3 a a1 a2 a3 (fun i => (E i).key) w H.out.l0 H.out.k).mono ?_
  rintro e w' ⟨⟨bb, rfl⟩, hw⟩
  obtain rfl : w = w' := hw.symm
  clear hw
  cases bb with
  | false =>
    go_wp2_with fail
    go_returns
    exact ⟨rfl, Below.refl _ _⟩
  | true =>
    by_cases g0 : (4096 : Int) < n
    · go_wp2_with fail
      go_returns
      exact ⟨rfl, Below.refl _ _⟩
    by_cases g1 : (4096 : Int) < n1
    · go_wp2_with fail
      go_returns
      exact ⟨rfl, Below.refl _ _⟩
    by_cases g2 : (4096 : Int) < n2
    · go_wp2_with fail
      go_returns
      exact ⟨rfl, Below.refl _ _⟩
    by_cases g3 : (4096 : Int) < n3
    · go_wp2_with fail
      go_returns
      exact ⟨rfl, Below.refl _ _⟩
    go_wp2_with fail
    refine (addBytes_any w.heap.size n c a (fun i => (E i).key) _ w H.out.l0 H.out.k).mono ?_
    rintro e w' ⟨⟨t, rfl⟩, hw⟩
    obtain rfl : w = w' := hw.symm
    clear hw
    by_cases g4 : (1048576 : Int) < t
    · go_wp2_with fail
      go_returns
      exact ⟨rfl, Below.refl _ _⟩
    by_cases z0 : n = 0
    · have z0' : ((n : Int) == 0) = true := by simpa using z0
      clear z0
      go_wp2_with fail
      go_returns
      exact ⟨rfl, Below.refl _ _⟩
    have z0' : ((n : Int) == 0) = false := by simpa using z0
    by_cases z1 : n1 = n
    case neg =>
      have z1' : ((n1 : Int) != n) = true := by simp; omega
      go_wp2_with fail
      go_returns
      exact ⟨rfl, Below.refl _ _⟩
    obtain rfl : n = n1 := z1.symm
    by_cases z2 : n2 = n
    case neg =>
      have z2' : ((n2 : Int) != n) = true := by simp; omega
      go_wp2_with fail
      go_returns
      exact ⟨rfl, Below.refl _ _⟩
    obtain rfl : n = n2 := z2.symm
    by_cases z3 : n3 = n
    case neg =>
      have z3' : ((n3 : Int) != n) = true := by simp; omega
      go_wp2_with fail
      go_returns
      exact ⟨rfl, Below.refl _ _⟩
    obtain rfl : n = n3 := z3.symm
    clear z1 z2 z3
    go_wp2_with fail
    refine (increasing_any w.heap.size n c a (fun i => (E i).key) w H.out.l0 H.out.k).mono ?_
    rintro e w' ⟨⟨bi, rfl, hinc⟩, q, rfl⟩
    cases bi with
    | false =>
      clear hinc
      go_wp2_with fail
      go_returns
      exact ⟨rfl, below_drewN' _ _ _⟩
    | true =>
      have HI : Hid (∀ i, i + 1 < n → lt (E i).key (E (i + 1)).key = true) := hinc rfl
      clear hinc
      go_wp2_with fail
      refine (build_any w.heap.size n c c1 c2 c3 a a1 a2 a3 E H.out.l0 n 0 n 0 n (w.drewN q) rfl rfl (by omega) (by omega) (Nat.le_refl _) (Nat.le_refl _) (H.out.src (below_drewN' _ _ _))).mono ?_
      rintro e w1 ⟨T, rfl, hT0⟩
      have hT : BuildOK E 0 n w w1 T := hT0.drawn
      clear hT0
      obtain ⟨hsz, hkey⟩ := ent_at hT.ent
      have s1 : w.heap.size ≤ w1.heap.size := hT.bel.size
      obtain ⟨b, nd, l, r, rfl⟩ := is_node hT.inT (by rw [hsz]; exact z0)
      have HT : Hid (BuildOK E 0 n w w1 (.node b 0 nd l r) ∧ size (.node b 0 nd l r) = n ∧ ∀ i, i < n → keyAt (.node b 0 nd l r) i = (E i).key) := ⟨hT, hsz, hkey⟩
      clear hT hsz hkey
      go_wp2_with fail
      refine (flat_any (.node b 0 nd l r) n w1 HT.out.1.inT HT.out.1.hp (Nat.le_of_eq HT.out.2.1) (by omega)).mono ?_
      rintro e w2 ⟨ka, kc, ea, ec, rfl, hF⟩
      rw [HT.out.2.1]
      have s2 : w1.heap.size ≤ w2.heap.size := hF.bel.size
      have HF : Hid (FlatOK (.node b 0 nd l r) w1 w2 ka kc ea ec) := hF
      have B2 : Hid (Below w.heap.size w w2) := HT.out.1.bel.trans (hF.bel.mono s1)
      clear hF
      go_wp2_with fail
      refine (sameStr_yes w2.heap.size n kc c ka a (fun i => (E i).key) w2 H.out.l0 ?_ ((H.out.k.below B2.out).mono (by omega))).mono ?_
      · have h := HF.out.k
        rw [HT.out.2.1] at h
        exact h.congr fun i hi => by rw [HT.out.2.2 i hi]
      rintro e w' ⟨rfl, q2, rfl⟩
      go_wp2_with fail
      refine (zzPush_ptr b nd l r (w2.drewN q2) ?_ HT.out.1.nod).mono ?_
      · exact inT_of HT.out.1.inT fun x hx => HF.out.bel.block x (inT_lt HT.out.1.inT x hx)
      rintro e w3 ⟨rfl, hin3, ht3⟩
      have T3 : Hid (InT w3 (.node b 0 (pushed nd) (raise nd.al l) (raise nd.al r)) ∧ Touch (blocks (.node b 0 nd l r)) w2 w3) := ⟨hin3, (Touch.drewN w2 q2).trans ht3⟩
      have B3 : Hid (Below w.heap.size w w3) := B2.out.trans (T3.out.2.below HT.out.1.new)
      clear hin3 ht3
      go_wp2_with fail
      rw [show (BT.node b 0 nd l r).ptr = (BT.node b 0 (pushed nd) (raise nd.al l) (raise nd.al r)).ptr from rfl]
      refine (flat_any (.node b 0 (pushed nd) (raise nd.al l) (raise nd.al r)) n w3 T3.out.1 (hp_pushed HT.out.1.hp) (by rw [size_pushed, HT.out.2.1]; exact Nat.le_refl _) (by omega)).mono ?_
      rintro e w4 ⟨ka4, kc4, ea4, ec4, rfl, hF4⟩
      rw [size_pushed, HT.out.2.1]
      have hfl : flat 0 (.node b 0 (pushed nd) (raise nd.al l) (raise nd.al r)) = flat 0 (.node b 0 nd l r) := flat_pushed b 0 nd l r HT.out.1.inT.2.2.2.1 HT.out.1.inT.2.2.1
      have hc2 : w4.cell? ⟨b, 2, none⟩ = some (.int .u64 0) := by
        have h := (nobj_cells T3.out.1.2.1).2.2.1
        have hlt := inT_lt T3.out.1 b (by simp [blocks])
        rw [hF4.bel.cell (p := ⟨b, 2, none⟩) hlt]
        exact h
      have s4 : w3.heap.size ≤ w4.heap.size := hF4.bel.size
      have s3 : w3.heap.size = w2.heap.size := T3.out.2.size
      have hs4 : w2.heap.size ≤ w4.heap.size := by omega
      have B4 : Hid (Below w.heap.size w w4) := B3.out.trans (hF4.bel.mono (by omega))
      have hk4 : RowB w4.heap.size w4 ka4 n fun i => .string (E i).key := by
        have h := hF4.k
        rw [size_pushed, HT.out.2.1] at h
        refine h.congr fun i hi => ?_
        rw [← HT.out.2.2 i hi]
        unfold keyAt
        rw [hfl]
      have he4 : RowB w4.heap.size w4 ea4 n fun i => .int .u64 (effAt (.node b 0 nd l r) i) := by
        have h := hF4.e
        rw [size_pushed, HT.out.2.1] at h
        refine h.congr fun i hi => ?_
        unfold effAt
        rw [hfl]
      have he2 : RowB w4.heap.size w4 ea n fun i => .int .u64 (effAt (.node b 0 nd l r) i) := by
        have h := HF.out.e
        rw [HT.out.2.1] at h
        have h' := (h.touch T3.out.2 fun x hx hm => by have := HF.out.newe x hx; have := inT_lt HT.out.1.inT _ hm; omega)
        exact (h'.below (hF4.bel.mono (by omega))).mono hs4
      have G : Hid (RowB w4.heap.size w4 ka4 n (fun i => .string (E i).key) ∧ RowB w4.heap.size w4 ea4 n (fun i => .int .u64 (effAt (.node b 0 nd l r) i)) ∧ RowB w4.heap.size w4 ea n (fun i => .int .u64 (effAt (.node b 0 nd l r) i))) := ⟨hk4, he4, he2⟩
      clear hk4 he4 he2 hF4 hfl s3
      go_wp2_with fail
      refine (atLeast_ptr b (pushed nd) (raise nd.al l) (raise nd.al r) 0 w4 hc2).mono ?_
      rintro e w' ⟨rfl, hw⟩
      obtain rfl : w4 = w' := hw.symm
      clear hw
      go_wp2_with fail
      refine (sameStr_yes w4.heap.size n kc4 c ka4 a (fun i => (E i).key) w4 H.out.l0 G.out.1 ((H.out.k.below B4.out).mono (by omega))).mono ?_
      rintro e w' ⟨rfl, q4, rfl⟩
      go_wp2_with fail
      refine (sameU_yes w4.heap.size n ec4 ec ea4 ea (fun i => effAt (.node b 0 nd l r) i) (w4.drewN q4) H.out.l0 (G.out.2.1.below (below_drewN' _ _ _)) (G.out.2.2.below (below_drewN' _ _ _))).mono ?_
      rintro e w' ⟨rfl, q5, rfl⟩
      go_wp2_with fail
      go_returns
      exact ⟨rfl, B4.out.trans (below_drewN' _ _ _)⟩

end Go.Proofs.Qxb6618059a
