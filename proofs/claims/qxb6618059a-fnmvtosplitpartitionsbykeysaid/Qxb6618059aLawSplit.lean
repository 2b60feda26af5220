/-
  THE WALK OF FnMvtoSplitPartitionsByKey.
-/
import Derived.Test.Qxb6618059aTies
namespace Go.Proofs.Qxb6618059a
open Go.RowKit Go.Deep

set_option maxRecDepth 100000 in
set_option maxHeartbeats 3200000 in
theorem law_split (n c n1 c1 n2 c2 n3 c3 : Nat) (a a1 a2 a3 : Option Addr) (E : Nat → Nod) (k : ByteArray) (w : World) (hk : k.size ≤ maxLen) (hcap : n ≤ c) (hA : Args w n n1 n2 n3 a a1 a2 a3 E) :
    Calls Try.prog 5 #[.slice a n c, .slice a1 n1 c1, .slice a2 n2 c2, .slice a3 n3 c3, .string k] w fun e w' => e = .returned (.bool true) ∧ Below w.heap.size w w' := by
  have m0 := hA.l0
  have m1 := hA.l1
  have m2 := hA.l2
  have m3 := hA.l3
  unfold maxLen at m0 m1 m2 m3 hk
  have H : Hid (Args w n n1 n2 n3 a a1 a2 a3 E) := hA
  clear hA
  go_enter Try.func5, Try.ntmps5
  go_wp2_with fail
  refine (bytesSplit_any w.heap.size n c n1 c1 n2 c2 n3 c3 a a1 a2 a3 (fun i => (E i).key) k w H.out.l0 H.out.k).mono ?_
  rintro e w' ⟨⟨bb, rfl⟩, hw⟩
  obtain rfl : w = w' := hw.symm
  clear hw
  cases bb with
  | false =>
    go_wp2_with fail
    go_returns
    exact ⟨rfl, Below.refl _ _⟩
  | true =>
    by_cases g0 : (4096 : Int) < n
    · go_wp2_with fail
      go_returns
      exact ⟨rfl, Below.refl _ _⟩
    by_cases g1 : (4096 : Int) < n1
    · go_wp2_with fail
      go_returns
      exact ⟨rfl, Below.refl _ _⟩
    by_cases g2 : (4096 : Int) < n2
    · go_wp2_with fail
      go_returns
      exact ⟨rfl, Below.refl _ _⟩
    by_cases g3 : (4096 : Int) < n3
    · go_wp2_with fail
      go_returns
      exact ⟨rfl, Below.refl _ _⟩
    by_cases g5 : (1048576 : Int) < k.size
    · go_wp2_with fail
      go_returns
      exact ⟨rfl, Below.refl _ _⟩
    go_wp2_with fail
    refine (addBytes_any w.heap.size n c a (fun i => (E i).key) _ w H.out.l0 H.out.k).mono ?_
    rintro e w' ⟨⟨t, rfl⟩, hw⟩
    obtain rfl : w = w' := hw.symm
    clear hw
    by_cases g4 : (1048576 : Int) < t
    · go_wp2_with fail
      go_returns
      exact ⟨rfl, Below.refl _ _⟩
    by_cases z1 : n1 = n
    case neg =>
      have z1' : ((n1 : Int) != n) = true := by simp; omega
      go_wp2_with fail
      go_returns
      exact ⟨rfl, Below.refl _ _⟩
    obtain rfl : n = n1 := z1.symm
    by_cases z2 : n2 = n
    case neg =>
      have z2' : ((n2 : Int) != n) = true := by simp; omega
      go_wp2_with fail
      go_returns
      exact ⟨rfl, Below.refl _ _⟩
    obtain rfl : n = n2 := z2.symm
    by_cases z3 : n3 = n
    case neg =>
      have z3' : ((n3 : Int) != n) = true := by simp; omega
      go_wp2_with fail
      go_returns
      exact ⟨rfl, Below.refl _ _⟩
    obtain rfl : n = n3 := z3.symm
    clear z1 z2 z3
    go_wp2_with fail
    refine (increasing_any w.heap.size n c a (fun i => (E i).key) w H.out.l0 H.out.k).mono ?_
    rintro e w' ⟨⟨bi, rfl, hinc⟩, q, rfl⟩
    cases bi with
    | false =>
      clear hinc
      go_wp2_with fail
      go_returns
      exact ⟨rfl, below_drewN' _ _ _⟩
    | true =>
      have HI : Hid (∀ i, i + 1 < n → lt (E i).key (E (i + 1)).key = true) := hinc rfl
      clear hinc
      go_wp2_with fail
      refine (build_any w.heap.size n c c1 c2 c3 a a1 a2 a3 E H.out.l0 n 0 n 0 n (w.drewN q) rfl rfl (by omega) (by omega) (Nat.le_refl _) (Nat.le_refl _) (H.out.src (below_drewN' _ _ _))).mono ?_
      rintro e w1 ⟨T, rfl, hT0⟩
      have hT : BuildOK E 0 n w w1 T := hT0.drawn
      clear hT0
      obtain ⟨hsz, hkey⟩ := ent_at hT.ent
      have s1 : w.heap.size ≤ w1.heap.size := hT.bel.size
      have HT : Hid (BuildOK E 0 n w w1 T ∧ size T = n ∧ ∀ i, i < n → keyAt T i = (E i).key) := ⟨hT, hsz, hkey⟩
      clear hT hsz hkey
      go_wp2_with fail
      refine (flat_any T n w1 HT.out.1.inT HT.out.1.hp (Nat.le_of_eq HT.out.2.1) (by omega)).mono ?_
      rintro e w2 ⟨ka, kc, ea, ec, rfl, hF⟩
      rw [HT.out.2.1]
      have s2 : w1.heap.size ≤ w2.heap.size := hF.bel.size
      have HF : Hid (FlatOK T w1 w2 ka kc ea ec) := hF
      have B2 : Hid (Below w.heap.size w w2) := HT.out.1.bel.trans (hF.bel.mono s1)
      clear hF
      go_wp2_with fail
      refine (sameStr_yes w2.heap.size n kc c ka a (fun i => (E i).key) w2 H.out.l0 ?_ ((H.out.k.below B2.out).mono (by omega))).mono ?_
      · have h := HF.out.k
        rw [HT.out.2.1] at h
        exact h.congr fun i hi => by rw [HT.out.2.2 i hi]
      rintro e w' ⟨rfl, q2, rfl⟩
      go_wp2_with fail
      by_cases hpos : 0 < n
      · go_loop [16] (fun s => ∃ j : Nat, j ≤ n ∧ s = .int .i64 j ∧ Hid (∀ i, i < j → lt (E i).key k = true)) (fun s => n - (intOf s).toNat)
        case atStart => exact ⟨0, Nat.zero_le _, rfl, fun i hi => absurd hi (by omega)⟩
        case round =>
          obtain ⟨j, hj, rfl, hlow⟩ := hrel
          obtain ⟨b, off, rfl, _, hc⟩ := (H.out.k.below B2.out) (by omega)
          by_cases hlt : j < n
          · have gj := hc j hlt
            clear hc
            cases hl : lt (E j).key k with
            | true =>
              have hl' : Op.bytesLess (E j).key.toList k.toList = true := hl
              have R := low_step hlow.out hl
              clear hl
              go_wp2_with fail
              go_round
              case rel => exact ⟨j + 1, by omega, by go_num, R⟩
              case measure => simp [intOf]; omega
            | false =>
              have hl' : Op.bytesLess (E j).key.toList k.toList = false := hl
              have R : Hid ((∀ i, i < j → lt (E i).key k = true) ∧ (j < n → lt (E j).key k = false)) := ⟨hlow.out, fun _ => hl⟩
              clear hl
              go_wp2_with fail
              refine (zzSplit_any T k (w2.drewN q2) ?_ HT.out.1.nod (asc_built HT.out.1.ent HI.out)).mono ?_
              · exact inT_of HT.out.1.inT fun x hx => HF.out.bel.block x (inT_lt HT.out.1.inT x hx)
              rintro e w3 ⟨P, Q, rfl, hS⟩
              have hcnt := split_count HT.out.1.ent hS hj R.out.1 R.out.2
              have t3 : Touch (blocks T) w2 w3 := (Touch.drewN w2 q2).trans hS.touch
              have S3 : Hid (SplitOK T k (w2.drewN q2) w3 P Q ∧ Touch (blocks T) w2 w3) := ⟨hS, t3⟩
              have B3 : Hid (Below w.heap.size w w3) := B2.out.trans (t3.below HT.out.1.new)
              have s3 : w3.heap.size = w2.heap.size := t3.size
              have p1 : size P = j := hcnt.1
              have p2 : size Q = n - j := hcnt.2.1
              have HC : Hid ((∀ i, i < j → keyAt P i = (E i).key) ∧ (∀ i, i < j → effAt P i = effAt T i) ∧ (∀ i, i < n - j → keyAt Q i = (E (j + i)).key) ∧ (∀ i, i < n - j → effAt Q i = effAt T (j + i))) := hcnt.2.2
              have P1 : Hid (size P = j ∧ size Q = n - j) := ⟨p1, p2⟩
              clear hcnt hS t3 p1 p2
              go_wp2_with fail
              refine (flat_any P n w3 S3.out.1.inP (S3.out.1.hp HT.out.1.hp).1 (by have := P1.out; omega) (by omega)).mono ?_
              rintro e w4 ⟨kp, kpc, ep, epc, rfl, hFP⟩
              rw [P1.out.1]
              have s4 : w3.heap.size ≤ w4.heap.size := hFP.bel.size
              have F4 : Hid (FlatOK P w3 w4 kp kpc ep epc) := hFP
              have B4 : Hid (Below w.heap.size w w4) := B3.out.trans (hFP.bel.mono (by omega))
              clear hFP
              go_wp2_with fail
              refine (flat_any Q n w4 ?_ (S3.out.1.hp HT.out.1.hp).2.1 (by have := P1.out; omega) (by omega)).mono ?_
              · exact inT_of S3.out.1.inQ fun x hx => F4.out.bel.block x (inT_lt S3.out.1.inQ x hx)
              rintro e w5 ⟨kq, kqc, eq, eqc, rfl, hFQ⟩
              rw [P1.out.2]
              have s5 : w4.heap.size ≤ w5.heap.size := hFQ.bel.size
              have B5 : Hid (Below w.heap.size w w5) := B4.out.trans (hFQ.bel.mono (by omega))
              have r1 : RowB w5.heap.size w5 kp j fun i => .string (E i).key := by
                have h := F4.out.k
                rw [P1.out.1] at h
                exact ((h.below hFQ.bel).mono s5).congr fun i hi => by rw [HC.out.1 i hi]
              have r2 : RowB w5.heap.size w5 ep j fun i => .int .u64 (effAt T i) := by
                have h := F4.out.e
                rw [P1.out.1] at h
                exact ((h.below hFQ.bel).mono s5).congr fun i hi => by rw [HC.out.2.1 i hi]
              have r3 : RowB w5.heap.size w5 kq (n - j) fun i => .string (E (j + i)).key := by
                have h := hFQ.k
                rw [P1.out.2] at h
                exact h.congr fun i hi => by rw [HC.out.2.2.1 i hi]
              have r4 : RowB w5.heap.size w5 eq (n - j) fun i => .int .u64 (effAt T (j + i)) := by
                have h := hFQ.e
                rw [P1.out.2] at h
                exact h.congr fun i hi => by rw [HC.out.2.2.2 i hi]
              have r5 : RowB w5.heap.size w5 ea n fun i => .int .u64 (effAt T i) := by
                have h := HF.out.e
                rw [HT.out.2.1] at h
                have h' := h.touch S3.out.2 fun x hx hm => by have := HF.out.newe x hx; have := inT_lt HT.out.1.inT _ hm; omega
                exact (((h'.mono (Nat.le_of_eq s3.symm)).below F4.out.bel).mono s4 |>.below hFQ.bel).mono s5
              have r6 := (H.out.k.below B5.out).mono (show w.heap.size ≤ w5.heap.size by omega)
              obtain ⟨be, oe, rfl, _, _⟩ := r5 hpos
              have ce : n ≤ ec := by have := HF.out.cape; rw [HT.out.2.1] at this; exact this
              have RR : Hid (RowB w5.heap.size w5 kp j (fun i => .string (E i).key) ∧ RowB w5.heap.size w5 ep j (fun i => .int .u64 (effAt T i)) ∧ RowB w5.heap.size w5 kq (n - j) (fun i => .string (E (j + i)).key) ∧ RowB w5.heap.size w5 eq (n - j) (fun i => .int .u64 (effAt T (j + i))) ∧ RowB w5.heap.size w5 (some ⟨be, oe, none⟩) n (fun i => .int .u64 (effAt T i)) ∧ RowB w5.heap.size w5 (some ⟨b, off, none⟩) n (fun i => .string (E i).key)) := ⟨r1, r2, r3, r4, r5, r6⟩
              clear r1 r2 r3 r4 r5 r6 hFQ
              go_wp2_with fail
              refine (sameStr_yes w5.heap.size j kpc c kp (some ⟨b, off, none⟩) (fun i => (E i).key) w5 (by unfold maxLen; omega) RR.out.1 (RR.out.2.2.2.2.2.take hj)).mono ?_
              rintro e w' ⟨rfl, q5, rfl⟩
              go_wp2_with fail
              refine (sameU_yes w5.heap.size j epc ec ep (some ⟨be, oe, none⟩) (fun i => effAt T i) (w5.drewN q5) (by unfold maxLen; omega) (RR.out.2.1.below (below_drewN' _ _ _)) ((RR.out.2.2.2.2.1.take hj).below (below_drewN' _ _ _))).mono ?_
              rintro e w' ⟨rfl, q6, rfl⟩
              go_wp2_with fail
              refine (sameStr_yes w5.heap.size (n - j) kqc (c - j) kq _ (fun i => (E (j + i)).key) (w5.drewN (q5 + q6)) (by unfold maxLen; omega) (RR.out.2.2.1.below (below_drewN' _ _ _)) ?_).mono ?_
              · exact (RR.out.2.2.2.2.2.drop hj).below (below_drewN' _ _ _)
              rintro e w' ⟨rfl, q7, rfl⟩
              go_wp2_with fail
              refine (sameU_yes w5.heap.size (n - j) eqc (ec - j) eq _ (fun i => effAt T (j + i)) (w5.drewN (q5 + q6 + q7)) (by unfold maxLen; omega) (RR.out.2.2.2.1.below (below_drewN' _ _ _)) ?_).mono ?_
              · exact (RR.out.2.2.2.2.1.drop hj).below (below_drewN' _ _ _)
              rintro e w' ⟨rfl, q8, rfl⟩
              go_wp2_with fail
              go_returns
              exact ⟨rfl, B5.out.trans (below_drewN' _ _ _)⟩
          · have hjn : n ≤ j := by omega
            have R : Hid ((∀ i, i < j → lt (E i).key k = true) ∧ (j < n → lt (E j).key k = false)) := ⟨hlow.out, fun h => absurd h hlt⟩
            clear hc
            go_wp2_with fail
            refine (zzSplit_any T k (w2.drewN q2) ?_ HT.out.1.nod (asc_built HT.out.1.ent HI.out)).mono ?_
            · exact inT_of HT.out.1.inT fun x hx => HF.out.bel.block x (inT_lt HT.out.1.inT x hx)
            rintro e w3 ⟨P, Q, rfl, hS⟩
            have hcnt := split_count HT.out.1.ent hS hj R.out.1 R.out.2
            have t3 : Touch (blocks T) w2 w3 := (Touch.drewN w2 q2).trans hS.touch
            have S3 : Hid (SplitOK T k (w2.drewN q2) w3 P Q ∧ Touch (blocks T) w2 w3) := ⟨hS, t3⟩
            have B3 : Hid (Below w.heap.size w w3) := B2.out.trans (t3.below HT.out.1.new)
            have s3 : w3.heap.size = w2.heap.size := t3.size
            have p1 : size P = j := hcnt.1
            have p2 : size Q = n - j := hcnt.2.1
            have HC : Hid ((∀ i, i < j → keyAt P i = (E i).key) ∧ (∀ i, i < j → effAt P i = effAt T i) ∧ (∀ i, i < n - j → keyAt Q i = (E (j + i)).key) ∧ (∀ i, i < n - j → effAt Q i = effAt T (j + i))) := hcnt.2.2
            have P1 : Hid (size P = j ∧ size Q = n - j) := ⟨p1, p2⟩
            clear hcnt hS t3 p1 p2
            go_wp2_with fail
            refine (flat_any P n w3 S3.out.1.inP (S3.out.1.hp HT.out.1.hp).1 (by have := P1.out; omega) (by omega)).mono ?_
            rintro e w4 ⟨kp, kpc, ep, epc, rfl, hFP⟩
            rw [P1.out.1]
            have s4 : w3.heap.size ≤ w4.heap.size := hFP.bel.size
            have F4 : Hid (FlatOK P w3 w4 kp kpc ep epc) := hFP
            have B4 : Hid (Below w.heap.size w w4) := B3.out.trans (hFP.bel.mono (by omega))
            clear hFP
            go_wp2_with fail
            refine (flat_any Q n w4 ?_ (S3.out.1.hp HT.out.1.hp).2.1 (by have := P1.out; omega) (by omega)).mono ?_
            · exact inT_of S3.out.1.inQ fun x hx => F4.out.bel.block x (inT_lt S3.out.1.inQ x hx)
            rintro e w5 ⟨kq, kqc, eq, eqc, rfl, hFQ⟩
            rw [P1.out.2]
            have s5 : w4.heap.size ≤ w5.heap.size := hFQ.bel.size
            have B5 : Hid (Below w.heap.size w w5) := B4.out.trans (hFQ.bel.mono (by omega))
            have r1 : RowB w5.heap.size w5 kp j fun i => .string (E i).key := by
              have h := F4.out.k
              rw [P1.out.1] at h
              exact ((h.below hFQ.bel).mono s5).congr fun i hi => by rw [HC.out.1 i hi]
            have r2 : RowB w5.heap.size w5 ep j fun i => .int .u64 (effAt T i) := by
              have h := F4.out.e
              rw [P1.out.1] at h
              exact ((h.below hFQ.bel).mono s5).congr fun i hi => by rw [HC.out.2.1 i hi]
            have r3 : RowB w5.heap.size w5 kq (n - j) fun i => .string (E (j + i)).key := by
              have h := hFQ.k
              rw [P1.out.2] at h
              exact h.congr fun i hi => by rw [HC.out.2.2.1 i hi]
            have r4 : RowB w5.heap.size w5 eq (n - j) fun i => .int .u64 (effAt T (j + i)) := by
              have h := hFQ.e
              rw [P1.out.2] at h
              exact h.congr fun i hi => by rw [HC.out.2.2.2 i hi]
            have r5 : RowB w5.heap.size w5 ea n fun i => .int .u64 (effAt T i) := by
              have h := HF.out.e
              rw [HT.out.2.1] at h
              have h' := h.touch S3.out.2 fun x hx hm => by have := HF.out.newe x hx; have := inT_lt HT.out.1.inT _ hm; omega
              exact (((h'.mono (Nat.le_of_eq s3.symm)).below F4.out.bel).mono s4 |>.below hFQ.bel).mono s5
            have r6 := (H.out.k.below B5.out).mono (show w.heap.size ≤ w5.heap.size by omega)
            obtain ⟨be, oe, rfl, _, _⟩ := r5 hpos
            have ce : n ≤ ec := by have := HF.out.cape; rw [HT.out.2.1] at this; exact this
            have RR : Hid (RowB w5.heap.size w5 kp j (fun i => .string (E i).key) ∧ RowB w5.heap.size w5 ep j (fun i => .int .u64 (effAt T i)) ∧ RowB w5.heap.size w5 kq (n - j) (fun i => .string (E (j + i)).key) ∧ RowB w5.heap.size w5 eq (n - j) (fun i => .int .u64 (effAt T (j + i))) ∧ RowB w5.heap.size w5 (some ⟨be, oe, none⟩) n (fun i => .int .u64 (effAt T i)) ∧ RowB w5.heap.size w5 (some ⟨b, off, none⟩) n (fun i => .string (E i).key)) := ⟨r1, r2, r3, r4, r5, r6⟩
            clear r1 r2 r3 r4 r5 r6 hFQ
            go_wp2_with fail
            refine (sameStr_yes w5.heap.size j kpc c kp (some ⟨b, off, none⟩) (fun i => (E i).key) w5 (by unfold maxLen; omega) RR.out.1 (RR.out.2.2.2.2.2.take hj)).mono ?_
            rintro e w' ⟨rfl, q5, rfl⟩
            go_wp2_with fail
            refine (sameU_yes w5.heap.size j epc ec ep (some ⟨be, oe, none⟩) (fun i => effAt T i) (w5.drewN q5) (by unfold maxLen; omega) (RR.out.2.1.below (below_drewN' _ _ _)) ((RR.out.2.2.2.2.1.take hj).below (below_drewN' _ _ _))).mono ?_
            rintro e w' ⟨rfl, q6, rfl⟩
            go_wp2_with fail
            all_goals
              refine (sameStr_yes 0 0 _ _ _ _ (fun i => (E i).key) _ (Nat.zero_le _) (row_zero _ _ _ _ _ rfl) (row_zero _ _ _ _ _ rfl)).mono ?_
              rintro e w' ⟨rfl, q7, rfl⟩
              go_wp2_with fail
              all_goals
                refine (sameU_yes 0 0 _ _ _ _ (fun i => effAt T i) _ (Nat.zero_le _) (row_zero _ _ _ _ _ rfl) (row_zero _ _ _ _ _ rfl)).mono ?_
                rintro e w' ⟨rfl, q8, rfl⟩
                go_wp2_with fail
                go_returns
                exact ⟨rfl, B5.out.trans (below_drewN' _ _ _)⟩
      · have hn0 : n ≤ 0 := by omega
        go_loop [16] (fun s => ∃ j : Nat, j ≤ n ∧ s = .int .i64 j) (fun s => n - (intOf s).toNat)
        case atStart => exact ⟨0, Nat.zero_le _, rfl⟩
        case round =>
          obtain ⟨j, hj, rfl⟩ := hrel
          have R : Hid ((∀ i, i < j → lt (E i).key k = true) ∧ (j < n → lt (E j).key k = false)) := ⟨fun i hi => absurd hi (by omega), fun h => absurd h (by omega)⟩
          go_wp2_with fail
          refine (zzSplit_any T k (w2.drewN q2) ?_ HT.out.1.nod (asc_built HT.out.1.ent HI.out)).mono ?_
          · exact inT_of HT.out.1.inT fun x hx => HF.out.bel.block x (inT_lt HT.out.1.inT x hx)
          rintro e w3 ⟨P, Q, rfl, hS⟩
          have hcnt := split_count HT.out.1.ent hS hj R.out.1 R.out.2
          have t3 : Touch (blocks T) w2 w3 := (Touch.drewN w2 q2).trans hS.touch
          have S3 : Hid (SplitOK T k (w2.drewN q2) w3 P Q ∧ Touch (blocks T) w2 w3) := ⟨hS, t3⟩
          have B3 : Hid (Below w.heap.size w w3) := B2.out.trans (t3.below HT.out.1.new)
          have s3 : w3.heap.size = w2.heap.size := t3.size
          have p1 : size P = j := hcnt.1
          have p2 : size Q = n - j := hcnt.2.1
          have HC : Hid ((∀ i, i < j → keyAt P i = (E i).key) ∧ (∀ i, i < j → effAt P i = effAt T i) ∧ (∀ i, i < n - j → keyAt Q i = (E (j + i)).key) ∧ (∀ i, i < n - j → effAt Q i = effAt T (j + i))) := hcnt.2.2
          have P1 : Hid (size P = j ∧ size Q = n - j) := ⟨p1, p2⟩
          clear hcnt hS t3 p1 p2
          go_wp2_with fail
          refine (flat_any P n w3 S3.out.1.inP (S3.out.1.hp HT.out.1.hp).1 (by have := P1.out; omega) (by omega)).mono ?_
          rintro e w4 ⟨kp, kpc, ep, epc, rfl, hFP⟩
          rw [P1.out.1]
          have s4 : w3.heap.size ≤ w4.heap.size := hFP.bel.size
          have F4 : Hid (FlatOK P w3 w4 kp kpc ep epc) := hFP
          have B4 : Hid (Below w.heap.size w w4) := B3.out.trans (hFP.bel.mono (by omega))
          clear hFP
          go_wp2_with fail
          refine (flat_any Q n w4 ?_ (S3.out.1.hp HT.out.1.hp).2.1 (by have := P1.out; omega) (by omega)).mono ?_
          · exact inT_of S3.out.1.inQ fun x hx => F4.out.bel.block x (inT_lt S3.out.1.inQ x hx)
          rintro e w5 ⟨kq, kqc, eq, eqc, rfl, hFQ⟩
          rw [P1.out.2]
          have s5 : w4.heap.size ≤ w5.heap.size := hFQ.bel.size
          have B5 : Hid (Below w.heap.size w w5) := B4.out.trans (hFQ.bel.mono (by omega))
          have ce : n ≤ ec := by have := HF.out.cape; rw [HT.out.2.1] at this; exact this
          clear hFQ
          go_wp2_with fail
          refine (sameStr_yes 0 j _ _ _ _ (fun i => (E i).key) _ (by unfold maxLen; omega) (row_zero _ _ _ _ _ (by omega)) (row_zero _ _ _ _ _ (by omega))).mono ?_
          rintro e w' ⟨rfl, q5, rfl⟩
          go_wp2_with fail
          refine (sameU_yes 0 j _ _ _ _ (fun i => effAt T i) _ (by unfold maxLen; omega) (row_zero _ _ _ _ _ (by omega)) (row_zero _ _ _ _ _ (by omega))).mono ?_
          rintro e w' ⟨rfl, q6, rfl⟩
          go_wp2_with fail
          all_goals
            refine (sameStr_yes 0 (n - j) _ _ _ _ (fun i => (E i).key) _ (by unfold maxLen; omega) (row_zero _ _ _ _ _ (by omega)) (row_zero _ _ _ _ _ (by omega))).mono ?_
            rintro e w' ⟨rfl, q7, rfl⟩
            go_wp2_with fail
            all_goals
              refine (sameU_yes 0 (n - j) _ _ _ _ (fun i => effAt T i) _ (by unfold maxLen; omega) (row_zero _ _ _ _ _ (by omega)) (row_zero _ _ _ _ _ (by omega))).mono ?_
              rintro e w' ⟨rfl, q8, rfl⟩
              go_wp2_with fail
              go_returns
              exact ⟨rfl, B5.out.trans (below_drewN' _ _ _)⟩

end Go.Proofs.Qxb6618059a
