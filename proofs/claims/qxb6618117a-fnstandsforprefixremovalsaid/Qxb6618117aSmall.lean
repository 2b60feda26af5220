/-
  addB1, fitsB1, ascendingB1, hasPrefixB1, antichainB1, memberB1.
-/
import Derived.Test.Qxb6618117aLoops
namespace Go.Proofs.Qxb6618117a
open Go.RowKit

/-- Two results came back, an int and a bool. -/
def IntBool (e : Ending) : Prop := ∃ (t : Int) (b : Bool), e = .returned (.tuple #[.int .i64 t, .bool b])
theorem IntBool.of (t : Int) (b : Bool) : IntBool (.returned (.tuple #[.int .i64 t, .bool b])) := ⟨t, b, rfl⟩

set_option maxHeartbeats 800000 in
theorem add_any (B n c : Nat) (a : Option Addr) (S : Nat → ByteArray) (t : Int) (w : World) (hn : n ≤ maxLen) (h1 : RowB B w a n fun i => .string (S i)) :
    Calls Try.prog 13 #[.int .i64 t, .slice a n c] w fun e w' => IntBool e ∧ w' = w := by
  unfold maxLen at hn
  have H : Hid (RowB B w a n fun i => .string (S i)) := h1
  clear h1
  go_enter Try.func13, Try.ntmps13
  go_wp2
  go_loop [0, 6] (fun t i => ∃ (k : Nat) (t' : Int), k ≤ n ∧ i = .int .i64 k ∧ t = .int .i64 t') (fun _ i => n - (intOf i).toNat)
  case atStart => exact ⟨0, t, Nat.zero_le _, rfl, rfl⟩
  case round =>
    obtain ⟨k, t', hk, rfl, rfl⟩ := hrel
    by_cases hlt : k < n
    · obtain ⟨b, off, rfl, _, hc⟩ := H.out (by omega)
      have g1 := hc k hlt
      clear hc
      go_wp2
      any_goals (go_returns; exact ⟨IntBool.of _ _, rfl⟩)
      go_round
      case rel => exact ⟨k + 1, _, by omega, by go_num, rfl⟩
      case measure => simp [intOf]; omega
    · go_wp2
      go_returns
      exact ⟨IntBool.of _ _, rfl⟩

def AnyBool (e : Ending) : Prop := ∃ b : Bool, e = .returned (.bool b)
theorem AnyBool.of (b : Bool) : AnyBool (.returned (.bool b)) := ⟨b, rfl⟩

set_option maxHeartbeats 800000 in
theorem fits_any (B n1 c1 n2 c2 n3 c3 : Nat) (a1 a2 a3 : Option Addr) (S1 S2 S3 : Nat → ByteArray) (t nm x : ByteArray) (w : World) (h1 : n1 ≤ maxLen) (h2 : n2 ≤ maxLen) (h3 : n3 ≤ maxLen)
    (r1 : RowB B w a1 n1 fun i => .string (S1 i)) (r2 : RowB B w a2 n2 fun i => .string (S2 i)) (r3 : RowB B w a3 n3 fun i => .string (S3 i)) :
    Calls Try.prog 6 #[.string t, .slice a1 n1 c1, .slice a2 n2 c2, .slice a3 n3 c3, .string nm, .string x] w fun e w' => AnyBool e ∧ w' = w := by
  have H : Hid (RowB B w a1 n1 (fun i => .string (S1 i)) ∧ RowB B w a2 n2 (fun i => .string (S2 i)) ∧ RowB B w a3 n3 (fun i => .string (S3 i)) ∧ n1 ≤ maxLen ∧ n2 ≤ maxLen ∧ n3 ≤ maxLen) := ⟨r1, r2, r3, h1, h2, h3⟩
  clear r1 r2 r3 h1 h2 h3
  go_enter Try.func6, Try.ntmps6
  go_wp2_with fail
  any_goals (go_returns; exact ⟨AnyBool.of _, rfl⟩)
  refine (add_any B n1 c1 a1 S1 _ w H.out.2.2.2.1 H.out.1).mono ?_
  rintro e w' ⟨⟨t1, b1, rfl⟩, hw⟩
  obtain rfl : w = w' := hw.symm
  clear hw
  cases b1 with
  | false =>
    go_wp2_with fail
    go_returns
    exact ⟨AnyBool.of _, rfl⟩
  | true =>
    go_wp2_with fail
    refine (add_any B n2 c2 a2 S2 _ w H.out.2.2.2.2.1 H.out.2.1).mono ?_
    rintro e w' ⟨⟨t2, b2, rfl⟩, hw⟩
    obtain rfl : w = w' := hw.symm
    clear hw
    cases b2 with
    | false =>
      go_wp2_with fail
      go_returns
      exact ⟨AnyBool.of _, rfl⟩
    | true =>
      go_wp2_with fail
      refine (add_any B n3 c3 a3 S3 _ w H.out.2.2.2.2.2 H.out.2.2.1).mono ?_
      rintro e w' ⟨⟨t3, b3, rfl⟩, hw⟩
      obtain rfl : w = w' := hw.symm
      clear hw
      go_wp2_with fail
      go_returns
      exact ⟨AnyBool.of _, rfl⟩

/-- s begins with p. -/
def Pre (p s : ByteArray) : Prop := p.data.toList <+: s.data.toList
theorem pre_mk {p s : ByteArray} (he : ∀ i, i < p.size → s.data.toList[i]? = p.data.toList[i]?) : Pre p s := by
  unfold Pre
  refine List.prefix_iff_getElem?.2 fun i hi => ?_
  have hi' : i < p.size := by rw [Array.length_toList] at hi; exact hi
  rw [he i hi', List.getElem?_eq_getElem hi]
theorem pre_le {p s : ByteArray} (h : Pre p s) : ¬ s.size < p.size := by
  have := List.IsPrefix.length_le h
  simp only [Array.length_toList] at this
  show ¬ s.data.size < p.data.size
  omega
theorem byte_at (s : ByteArray) (k : Nat) (h : k < s.size) : s.data.toList[k]? = some s[k] := by
  have h' : k < s.data.toList.length := by rw [Array.length_toList]; exact h
  rw [List.getElem?_eq_getElem h']
  rfl
theorem pre_at {p s : ByteArray} (h : Pre p s) (i : Nat) (hi : i < p.size) : s.data.toList[i]? = p.data.toList[i]? := by
  have hi' : i < p.data.toList.length := by rw [Array.length_toList]; exact hi
  have := List.prefix_iff_getElem?.1 h i hi'
  rw [this, List.getElem?_eq_getElem hi']
theorem pre_no {p s : ByteArray} {k : Nat} (hk : k < p.size) (hs : k < s.size) (h : ((s[k].toNat : Int) != (p[k].toNat : Int)) = true) : ¬ Pre p s := fun hp => by
  have e := pre_at hp k hk
  rw [byte_at s k hs, byte_at p k hk] at e
  have : s[k] = p[k] := by simpa using e
  rw [this] at h
  simp at h
theorem pre_step {p s : ByteArray} {k : Nat} (hk : k < p.size) (hs : k < s.size) (h : ((s[k].toNat : Int) != (p[k].toNat : Int)) = false) (hp : ∀ i, i < k → s.data.toList[i]? = p.data.toList[i]?) :
    ∀ i, i < k + 1 → s.data.toList[i]? = p.data.toList[i]? := fun i hi => by
  by_cases e : i = k
  · subst e
    rw [byte_at s i hs, byte_at p i hk]
    have h1 : (s[i].toNat : Int) = p[i].toNat := by simpa using h
    have h2 : s[i] = p[i] := UInt8.toNat_inj.1 (by omega)
    rw [h2]
  · exact hp i (by omega)

/-- A bool was returned, and it says whether q. -/
def BoolIff (q : Prop) (e : Ending) : Prop := ∃ b : Bool, e = .returned (.bool b) ∧ (b = true ↔ q)
theorem BoolIff.no {q : Prop} (h : ¬ q) : BoolIff q (.returned (.bool false)) := ⟨false, rfl, ⟨fun h => (by cases h), fun hq => absurd hq h⟩⟩
theorem BoolIff.yes {q : Prop} (h : q) : BoolIff q (.returned (.bool true)) := ⟨true, rfl, ⟨fun _ => h, fun _ => rfl⟩⟩

set_option maxHeartbeats 800000 in
theorem hasPrefix_any (s p : ByteArray) (w : World) (hs : s.size ≤ maxLen) :
    Calls Try.prog 12 #[.string s, .string p] w fun e w' => BoolIff (Pre p s) e ∧ ∃ m, w' = w.drewN m := by
  unfold maxLen at hs
  by_cases hlen : s.size < p.size
  · have HL : Hid (¬ Pre p s) := fun h => pre_le h hlen
    go_enter Try.func12, Try.ntmps12
    go_wp2
    go_returns
    exact ⟨BoolIff.no HL.out, 0, rfl⟩
  · have HL : Hid (¬ s.size < p.size) := hlen
    go_enter Try.func12, Try.ntmps12
    go_wp2
    go_loopw [5] (fun i wr => ∃ k m : Nat, k ≤ p.size ∧ i = .int .i64 k ∧ Hid (∀ i, i < k → s.data.toList[i]? = p.data.toList[i]?) ∧ wr = w.drewN m) (fun i _ => p.size - (intOf i).toNat)
    case atStart => exact ⟨0, 0, Nat.zero_le _, rfl, fun i hi => absurd hi (by omega), rfl⟩
    case round =>
      obtain ⟨k, m, hk, rfl, hsame, rfl⟩ := hrel
      by_cases hlt : k < p.size
      · have hlt2 : k < s.size := by omega
        go_wp2
        go_quiet (fail)
        go_wp2
        · have hne : ((s[k].toNat : Int) != (p[k].toNat : Int)) = true := by assumption
          go_returns
          exact ⟨BoolIff.no (pre_no hlt hlt2 hne), m + nq, by simp⟩
        · have hne : ((s[k].toNat : Int) != (p[k].toNat : Int)) = false := by assumption
          go_roundw
          case rel => exact ⟨k + 1, m + nq, by omega, by go_num, pre_step hlt hlt2 hne hsame.out, rfl⟩
          case measure => simp [intOf]; omega
      · go_wp2
        go_returns
        exact ⟨BoolIff.yes (pre_mk fun i hi => hsame.out i (by omega)), m, rfl⟩

theorem str_eq {a b : ByteArray} (h : (a.toList == b.toList) = true) : a = b := by
  have e : a.toList = b.toList := by simpa using h
  rw [ByteArray.toList_eq, ByteArray.toList_eq] at e
  cases a; cases b
  exact congrArg ByteArray.mk (Array.toList_inj.1 e)
theorem str_ne {a b : ByteArray} (h : (a.toList == b.toList) = false) : a ≠ b := fun e => by
  rw [e] at h
  simp at h
theorem ne_step {S : Nat → ByteArray} {x : ByteArray} {k : Nat} (h : ∀ i, i < k → S i ≠ x) (hk : S k ≠ x) : ∀ i, i < k + 1 → S i ≠ x := fun i hi => by
  by_cases e : i = k
  · rw [e]; exact hk
  · exact h i (by omega)

set_option maxHeartbeats 400000 in
theorem member_any (B n c : Nat) (a : Option Addr) (S : Nat → ByteArray) (x : ByteArray) (w : World) (hn : n ≤ maxLen) (h1 : RowB B w a n fun i => .string (S i)) :
    Calls Try.prog 11 #[.slice a n c, .string x] w fun e w' => BoolIff (∃ i, i < n ∧ S i = x) e ∧ w' = w := by
  unfold maxLen at hn
  have H : Hid (RowB B w a n fun i => .string (S i)) := h1
  clear h1
  go_enter Try.func11, Try.ntmps11
  go_wp2
  go_loop [5] (fun i => ∃ k : Nat, k ≤ n ∧ i = .int .i64 k ∧ Hid (∀ i, i < k → S i ≠ x)) (fun i => n - (intOf i).toNat)
  case atStart => exact ⟨0, Nat.zero_le _, rfl, fun i hi => absurd hi (by omega)⟩
  case round =>
    obtain ⟨k, hk, rfl, hno⟩ := hrel
    by_cases hlt : k < n
    · obtain ⟨b, off, rfl, _, hc⟩ := H.out (by omega)
      have g1 := hc k hlt
      clear hc
      go_wp2
      · have he : ((S k).toList == x.toList) = true := by assumption
        go_returns
        exact ⟨BoolIff.yes ⟨k, hlt, str_eq he⟩, rfl⟩
      · have he : ((S k).toList == x.toList) = false := by assumption
        go_round
        case rel => exact ⟨k + 1, by omega, by go_num, ne_step hno.out (str_ne he)⟩
        case measure => simp [intOf]; omega
    · go_wp2
      go_returns
      exact ⟨BoolIff.no (fun ⟨i, h1, h2⟩ => hno.out i (by omega) h2), rfl⟩

theorem asc_step {S : Nat → ByteArray} {j : Nat} (h : ∀ i, i + 1 < j + 1 → lt (S i) (S (i + 1)) = true) (hj : lt (S j) (S (j + 1)) = true) : ∀ i, i + 1 < j + 1 + 1 → lt (S i) (S (i + 1)) = true := fun i hi => by
  by_cases e : i = j
  · rw [e]; exact hj
  · exact h i (by omega)

set_option maxHeartbeats 400000 in
theorem ascending_any (B n c : Nat) (a : Option Addr) (S : Nat → ByteArray) (w : World) (hn : n ≤ maxLen) (h1 : RowB B w a n fun i => .string (S i)) :
    Calls Try.prog 7 #[.slice a n c] w fun e w' => BoolIf (∀ i, i + 1 < n → lt (S i) (S (i + 1)) = true) e ∧ ∃ m, w' = w.drewN m := by
  unfold maxLen at hn
  have H : Hid (RowB B w a n fun i => .string (S i)) := h1
  clear h1
  go_enter Try.func7, Try.ntmps7
  go_wp2
  go_loopw [3] (fun i wr => ∃ j m : Nat, (j + 1 ≤ n ∨ j = 0) ∧ i = .int .i64 ((j : Int) + 1) ∧ Hid (∀ i, i + 1 < j + 1 → lt (S i) (S (i + 1)) = true) ∧ wr = w.drewN m) (fun i _ => n - (intOf i).toNat)
  case atStart => exact ⟨0, 0, Or.inr rfl, rfl, fun i hi => by omega, rfl⟩
  case round =>
    obtain ⟨j, m, hj, rfl, hs, rfl⟩ := hrel
    by_cases hlt : j + 1 < n
    · obtain ⟨b, off, rfl, _, hc⟩ := H.out (by omega)
      have g1 := hc j (by omega)
      have g2 := hc (j + 1) hlt
      clear hc
      go_wp2
      go_quiet (fail)
      go_wp2
      · go_returns
        exact ⟨BoolIf.no _, m + nq, by simp⟩
      · have hl : lt (S j) (S (j + 1)) = true := by
          have h : (!Op.bytesLess (S j).toList (S (j + 1)).toList) = false := by assumption
          unfold lt
          simpa using h
        go_roundw
        case rel => exact ⟨j + 1, m + nq, Or.inl (by omega), by go_num, asc_step hs hl, rfl⟩
        case measure => simp [intOf]; omega
    · go_wp2
      go_returns
      exact ⟨BoolIf.yes (fun i hi => hs i (by omega)), m, rfl⟩

end Go.Proofs.Qxb6618117a
