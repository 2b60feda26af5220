/-
  THE WALK OF FnMvtoMergeUndoesSplit.
-/
import Derived.Test.Qxb6618059aTies
namespace Go.Proofs.Qxb6618059a
open Go.RowKit Go.Deep

set_option maxRecDepth 100000 in
set_option maxHeartbeats 3200000 in
theorem law_undo (n c n1 c1 n2 c2 n3 c3 : Nat) (a a1 a2 a3 : Option Addr) (E : Nat → Nod) (k : ByteArray) (w : World) (hk : k.size ≤ maxLen) (hA : Args w n n1 n2 n3 a a1 a2 a3 E) :
    Calls Try.prog 6 #[.slice a n c, .slice a1 n1 c1, .slice a2 n2 c2, .slice a3 n3 c3, .string k] w fun e w' => e = .returned (.bool true) ∧ Below w.heap.size w w' := by
  have m0 := hA.l0
  have m1 := hA.l1
  have m2 := hA.l2
  have m3 := hA.l3
  unfold maxLen at m0 m1 m2 m3 hk
  have H : Hid (Args w n n1 n2 n3 a a1 a2 a3 E) := hA
  clear hA
  go_enter Try.func6, Try.ntmps6
  go_wp2_with fail
  refine (bytesMerge_any w.heap.size n c n1 c1 n2 c2 n3 c3 a a1 a2 a3 (fun i => (E i).key) k w H.out.l0 H.out.k).mono ?_
  rintro e w' ⟨⟨bb, rfl⟩, hw⟩
  obtain rfl : w = w' := hw.symm
  clear hw
  cases bb with
  | false =>
    go_wp2_with fail
    go_returns
    exact ⟨rfl, Below.refl _ _⟩
  | true =>
    by_cases g0 : (4096 : Int) < n
    · go_wp2_with fail
      go_returns
      exact ⟨rfl, Below.refl _ _⟩
    by_cases g1 : (4096 : Int) < n1
    · go_wp2_with fail
      go_returns
      exact ⟨rfl, Below.refl _ _⟩
    by_cases g2 : (4096 : Int) < n2
    · go_wp2_with fail
      go_returns
      exact ⟨rfl, Below.refl _ _⟩
    by_cases g3 : (4096 : Int) < n3
    · go_wp2_with fail
      go_returns
      exact ⟨rfl, Below.refl _ _⟩
    by_cases g5 : (1048576 : Int) < k.size
    · go_wp2_with fail
      go_returns
      exact ⟨rfl, Below.refl _ _⟩
    go_wp2_with fail
    refine (addBytes_any w.heap.size n c a (fun i => (E i).key) _ w H.out.l0 H.out.k).mono ?_
    rintro e w' ⟨⟨t, rfl⟩, hw⟩
    obtain rfl : w = w' := hw.symm
    clear hw
    by_cases g4 : (1048576 : Int) < t
    · go_wp2_with fail
      go_returns
      exact ⟨rfl, Below.refl _ _⟩
    by_cases z1 : n1 = n
    case neg =>
      have z1' : ((n1 : Int) != n) = true := by simp; omega
      go_wp2_with fail
      go_returns
      exact ⟨rfl, Below.refl _ _⟩
    obtain rfl : n = n1 := z1.symm
    by_cases z2 : n2 = n
    case neg =>
      have z2' : ((n2 : Int) != n) = true := by simp; omega
      go_wp2_with fail
      go_returns
      exact ⟨rfl, Below.refl _ _⟩
    obtain rfl : n = n2 := z2.symm
    by_cases z3 : n3 = n
    case neg =>
      have z3' : ((n3 : Int) != n) = true := by simp; omega
      go_wp2_with fail
      go_returns
      exact ⟨rfl, Below.refl _ _⟩
    obtain rfl : n = n3 := z3.symm
    clear z1 z2 z3
    go_wp2_with fail
    refine (increasing_any w.heap.size n c a (fun i => (E i).key) w H.out.l0 H.out.k).mono ?_
    rintro e w' ⟨⟨bi, rfl, hinc⟩, q, rfl⟩
    cases bi with
    | false =>
      clear hinc
      go_wp2_with fail
      go_returns
      exact ⟨rfl, below_drewN' _ _ _⟩
    | true =>
      have HI : Hid (∀ i, i + 1 < n → lt (E i).key (E (i + 1)).key = true) := hinc rfl
      clear hinc
      go_wp2_with fail
      refine (build_any w.heap.size n c c1 c2 c3 a a1 a2 a3 E H.out.l0 n 0 n 0 n (w.drewN q) rfl rfl (by omega) (by omega) (Nat.le_refl _) (Nat.le_refl _) (H.out.src (below_drewN' _ _ _))).mono ?_
      rintro e w1 ⟨T, rfl, hT0⟩
      have hT : BuildOK E 0 n w w1 T := hT0.drawn
      clear hT0
      obtain ⟨hsz, hkey⟩ := ent_at hT.ent
      have s1 : w.heap.size ≤ w1.heap.size := hT.bel.size
      have HT : Hid (BuildOK E 0 n w w1 T ∧ size T = n ∧ ∀ i, i < n → keyAt T i = (E i).key) := ⟨hT, hsz, hkey⟩
      clear hT hsz hkey
      go_wp2_with fail
      refine (flat_any T n w1 HT.out.1.inT HT.out.1.hp (Nat.le_of_eq HT.out.2.1) (by omega)).mono ?_
      rintro e w2 ⟨ka, kc, ea, ec, rfl, hF⟩
      rw [HT.out.2.1]
      have s2 : w1.heap.size ≤ w2.heap.size := hF.bel.size
      have HF : Hid (FlatOK T w1 w2 ka kc ea ec) := hF
      have B2 : Hid (Below w.heap.size w w2) := HT.out.1.bel.trans (hF.bel.mono s1)
      clear hF
      go_wp2_with fail
      refine (sameStr_yes w2.heap.size n kc c ka a (fun i => (E i).key) w2 H.out.l0 ?_ ((H.out.k.below B2.out).mono (by omega))).mono ?_
      · have h := HF.out.k
        rw [HT.out.2.1] at h
        exact h.congr fun i hi => by rw [HT.out.2.2 i hi]
      rintro e w' ⟨rfl, q2, rfl⟩
      go_wp2_with fail
      refine (zzSplit_any T k (w2.drewN q2) ?_ HT.out.1.nod (asc_built HT.out.1.ent HI.out)).mono ?_
      · exact inT_of HT.out.1.inT fun x hx => HF.out.bel.block x (inT_lt HT.out.1.inT x hx)
      rintro e w3 ⟨P, Q, rfl, hS⟩
      have t3 : Touch (blocks T) w2 w3 := (Touch.drewN w2 q2).trans hS.touch
      have S3 : Hid (SplitOK T k (w2.drewN q2) w3 P Q ∧ Touch (blocks T) w2 w3) := ⟨hS, t3⟩
      have s3 : w3.heap.size = w2.heap.size := t3.size
      clear hS t3
      go_wp2_with fail
      refine (zzMerge_any P Q w3 S3.out.1.inP S3.out.1.inQ (S3.out.1.perm.symm.nodup HT.out.1.nod)).mono ?_
      rintro e w4 ⟨M, rfl, hM⟩
      have t4 : Touch (blocks T) w2 w4 := S3.out.2.trans (hM.touch.mono fun x hx => S3.out.1.perm.mem_iff.1 hx)
      have hfl : flat 0 M = flat 0 T := hM.flat.trans S3.out.1.flat
      have M4 : Hid (MergeOK P Q w3 w4 M ∧ Touch (blocks T) w2 w4 ∧ flat 0 M = flat 0 T) := ⟨hM, t4, hfl⟩
      have B4 : Hid (Below w.heap.size w w4) := B2.out.trans (t4.below HT.out.1.new)
      have s4 : w4.heap.size = w2.heap.size := t4.size
      have hszM : Hid (size M = n) := by
        have h := congrArg List.length hfl
        rw [flat_size, flat_size, HT.out.2.1] at h
        exact h
      clear hM t4 hfl
      go_wp2_with fail
      refine (flat_any M n w4 M4.out.1.inM (M4.out.1.hp (S3.out.1.hp HT.out.1.hp).1 (S3.out.1.hp HT.out.1.hp).2.1).1 (Nat.le_of_eq hszM.out) (by omega)).mono ?_
      rintro e w5 ⟨km, kmc, em, emc, rfl, hFM⟩
      rw [hszM.out]
      have s5 : w4.heap.size ≤ w5.heap.size := hFM.bel.size
      have B5 : Hid (Below w.heap.size w w5) := B4.out.trans (hFM.bel.mono (by omega))
      have r1 : RowB w5.heap.size w5 km n fun i => .string (E i).key := by
        have h := hFM.k
        rw [hszM.out] at h
        refine h.congr fun i hi => ?_
        rw [← HT.out.2.2 i hi]
        unfold keyAt
        rw [M4.out.2.2]
      have r2 : RowB w5.heap.size w5 em n fun i => .int .u64 (effAt T i) := by
        have h := hFM.e
        rw [hszM.out] at h
        refine h.congr fun i hi => ?_
        unfold effAt
        rw [M4.out.2.2]
      have r3 : RowB w5.heap.size w5 ea n fun i => .int .u64 (effAt T i) := by
        have h := HF.out.e
        rw [HT.out.2.1] at h
        have h' := h.touch M4.out.2.1 fun x hx hm => by have := HF.out.newe x hx; have := inT_lt HT.out.1.inT _ hm; omega
        exact ((h'.mono (Nat.le_of_eq s4.symm)).below hFM.bel).mono s5
      have RR : Hid (RowB w5.heap.size w5 km n (fun i => .string (E i).key) ∧ RowB w5.heap.size w5 em n (fun i => .int .u64 (effAt T i)) ∧ RowB w5.heap.size w5 ea n (fun i => .int .u64 (effAt T i))) := ⟨r1, r2, r3⟩
      clear r1 r2 r3 hFM
      go_wp2_with fail
      refine (sameStr_yes w5.heap.size n kmc c km a (fun i => (E i).key) w5 H.out.l0 RR.out.1 ((H.out.k.below B5.out).mono (by omega))).mono ?_
      rintro e w' ⟨rfl, q5, rfl⟩
      go_wp2_with fail
      refine (sameU_yes w5.heap.size n emc ec em ea (fun i => effAt T i) (w5.drewN q5) H.out.l0 (RR.out.2.1.below (below_drewN' _ _ _)) (RR.out.2.2.below (below_drewN' _ _ _))).mono ?_
      rintro e w' ⟨rfl, q6, rfl⟩
      go_wp2_with fail
      go_returns
      exact ⟨rfl, B5.out.trans (below_drewN' _ _ _)⟩

end Go.Proofs.Qxb6618059a
