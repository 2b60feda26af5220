/-
  antichainB1; slices.BinarySearch over strings; strings.HasPrefix.
-/
import Derived.Test.Qxb6618117aSmall
import Derived.Lib.Strings
namespace Go.Proofs.Qxb6618117a
open Go.RowKit

def preB (p s : ByteArray) : Bool := p.data.toList.isPrefixOf s.data.toList
theorem preB_iff (p s : ByteArray) : preB p s = true ↔ Pre p s := List.isPrefixOf_iff_prefix

theorem hasPrefix_val (s p : ByteArray) (w : World) (hs : s.size ≤ maxLen) :
    Calls Try.prog 12 #[.string s, .string p] w fun e w' => e = .returned (.bool (preB p s)) ∧ ∃ m, w' = w.drewN m := by
  refine (hasPrefix_any s p w hs).mono ?_
  rintro e w' ⟨⟨b, rfl, hb⟩, hw⟩
  have : b = preB p s := by rw [Bool.eq_iff_iff, hb, preB_iff]
  exact ⟨by rw [this], hw⟩

theorem anti_step {S : Nat → ByteArray} {j : Nat} (h : ∀ i, i + 1 < j + 1 → preB (S i) (S (i + 1)) = false) (hj : preB (S j) (S (j + 1)) = false) : ∀ i, i + 1 < j + 1 + 1 → preB (S i) (S (i + 1)) = false := fun i hi => by
  by_cases e : i = j
  · rw [e]; exact hj
  · exact h i (by omega)

set_option maxHeartbeats 800000 in
theorem antichain_any (B n c : Nat) (a : Option Addr) (S : Nat → ByteArray) (w : World) (hn : n ≤ maxLen) (h1 : RowB B w a n fun i => .string (S i)) (hsz : ∀ i, (S i).size ≤ maxLen) :
    Calls Try.prog 8 #[.slice a n c] w fun e w' => BoolIf ((∀ i, i + 1 < n → lt (S i) (S (i + 1)) = true) ∧ ∀ i, i + 1 < n → preB (S i) (S (i + 1)) = false) e ∧ ∃ m, w' = w.drewN m := by
  have H : Hid (RowB B w a n (fun i => .string (S i)) ∧ n ≤ maxLen ∧ ∀ i, (S i).size ≤ maxLen) := ⟨h1, hn, hsz⟩
  unfold maxLen at hn
  clear h1 hsz
  go_enter Try.func8, Try.ntmps8
  go_wp2_with fail
  refine (ascending_any B n c a S w H.out.2.1 H.out.1).mono ?_
  rintro e w' ⟨⟨b, rfl, hb⟩, q, rfl⟩
  cases b with
  | false =>
    clear hb
    go_wp2_with fail
    go_returns
    exact ⟨BoolIf.no _, q, rfl⟩
  | true =>
    have HA : Hid (∀ i, i + 1 < n → lt (S i) (S (i + 1)) = true) := hb rfl
    clear hb
    go_wp2_with fail
    go_loopw [3] (fun i wr => ∃ j m : Nat, (j + 1 ≤ n ∨ j = 0) ∧ i = .int .i64 ((j : Int) + 1) ∧ Hid (∀ i, i + 1 < j + 1 → preB (S i) (S (i + 1)) = false) ∧ wr = w.drewN m) (fun i _ => n - (intOf i).toNat)
    case atStart => exact ⟨0, q, Or.inr rfl, rfl, fun i hi => by omega, rfl⟩
    case round =>
      obtain ⟨j, m, hj, rfl, hs, hwr⟩ := hrel
      have HW : Hid (wr = w.drewN m) := hwr
      clear hwr
      by_cases hlt : j + 1 < n
      · obtain ⟨b, off, rfl, _, hc⟩ := H.out.1 (by omega)
        have g1 : wr.cell? ⟨b, off + j, none⟩ = some (.string (S j)) := by rw [HW.out]; exact hc j (by omega)
        have g2 : wr.cell? ⟨b, off + (j + 1), none⟩ = some (.string (S (j + 1))) := by rw [HW.out]; exact hc (j + 1) hlt
        clear hc
        have i1 : (j : Int) + 1 < n := by omega
        have i2 : (0 : Int) ≤ (j : Int) + 1 := by omega
        have i3 : (j : Int) < n := by omega
        have i4 : IntKind.i64.wrap (j : Int) = (j : Int) := IntWalk.i64_in _ (by omega)
        go_wp2_with fail
        go_quiet ((go_at_call 12; exact Calls.quiet_of (hasPrefix_val _ _ _ (H.out.2.2 _))))
        cases hp : preB (S j) (S (j + 1)) with
        | true =>
          go_wp2_with fail
          go_returns
          exact ⟨BoolIf.no _, m + nq, by rw [HW.out]; simp⟩
        | false =>
          have R := anti_step hs.out hp
          clear hp
          go_wp2_with fail
          go_roundw
          case rel => exact ⟨j + 1, m + nq, Or.inl (by omega), by go_num, R, by rw [HW.out]; simp⟩
          case measure => simp [intOf]; omega
      · go_wp2_with fail
        go_returns
        exact ⟨BoolIf.yes ⟨HA.out, fun i hi => hs.out i (by omega)⟩, m, HW.out⟩

theorem less_trans : ∀ (a b c : List UInt8), Op.bytesLess a b = true → Op.bytesLess b c = true → Op.bytesLess a c = true
  | _, [], _, h, _ => by simp [Op.bytesLess] at h
  | _, _ :: _, [], _, h => by simp [Op.bytesLess] at h
  | [], _ :: _, _ :: _, _, _ => by simp [Op.bytesLess]
  | x :: a, y :: b, z :: c, h1, h2 => by
    simp only [Op.bytesLess, Bool.or_eq_true, decide_eq_true_eq, Bool.and_eq_true, beq_iff_eq] at h1 h2 ⊢
    rcases h1 with h1 | ⟨rfl, h1⟩
    · rcases h2 with h2 | ⟨rfl, h2⟩
      · left
        rw [UInt8.lt_iff_toNat_lt] at *
        omega
      · exact Or.inl h1
    · rcases h2 with h2 | ⟨rfl, h2⟩
      · exact Or.inl h2
      · exact Or.inr ⟨rfl, less_trans a b c h1 h2⟩

/-- What slices.BinarySearch answers of an ascending list. -/
def BsOK (S : Nat → ByteArray) (n : Nat) (x : ByteArray) (i : Nat) (f : Bool) : Prop :=
  i ≤ n ∧ (∀ t, t < i → lt (S t) x = true) ∧ (∀ t, i ≤ t → t < n → lt (S t) x = false) ∧ (f = true ↔ i < n ∧ S i = x)

def BsRet (S : Nat → ByteArray) (n : Nat) (x : ByteArray) (e : Ending) : Prop := ∃ (i : Nat) (f : Bool), e = .returned (.tuple #[.int .i64 i, .bool f]) ∧ BsOK S n x i f
theorem BsRet.of {S : Nat → ByteArray} {n : Nat} {x : ByteArray} {i : Nat} {f : Bool} (h : BsOK S n x i f) : BsRet S n x (.returned (.tuple #[.int .i64 i, .bool f])) := ⟨i, f, rfl, h⟩

theorem less_any (x y : ByteArray) (w : World) : Calls Try.prog 17 #[.string x, .string y] w fun e w' => e = .returned (.bool (Op.bytesLess x.toList y.toList)) ∧ w' = w := by
  go_enter Try.func17, Try.ntmps17
  go_wp2
  go_returns
  exact ⟨by simp, rfl⟩
theorem isNaN_any (x : ByteArray) (w : World) : Calls Try.prog 18 #[.string x] w fun e w' => e = .returned (.bool false) ∧ w' = w := by
  go_enter Try.func18, Try.ntmps18
  go_wp2
  go_returns
  exact ⟨by simp, rfl⟩
theorem lt_trans' {a b c : ByteArray} (h1 : lt a b = true) (h2 : lt b c = true) : lt a c = true := less_trans _ _ _ h1 h2

def AscN (S : Nat → ByteArray) (n : Nat) : Prop := ∀ i j, i < j → j < n → lt (S i) (S j) = true
theorem ascN_of {S : Nat → ByteArray} {n : Nat} (h : ∀ i, i + 1 < n → lt (S i) (S (i + 1)) = true) : AscN S n := fun i j hij hj => by
  induction j with
  | zero => omega
  | succ j ih =>
    by_cases e : i = j
    · rw [e]; exact h j hj
    · exact lt_trans' (ih (by omega) (by omega)) (h j hj)

theorem low_up {S : Nat → ByteArray} {n h : Nat} {x : ByteArray} (ha : AscN S n) (hh : h < n) (hl : lt (S h) x = true) : ∀ t, t < h + 1 → lt (S t) x = true := fun t ht => by
  by_cases e : t = h
  · rw [e]; exact hl
  · exact lt_trans' (ha t h (by omega) hh) hl
theorem high_down {S : Nat → ByteArray} {n h : Nat} {x : ByteArray} (ha : AscN S n) (hl : lt (S h) x = false) : ∀ t, h ≤ t → t < n → lt (S t) x = false := fun t h1 h2 => by
  by_cases e : h = t
  · rw [← e]; exact hl
  · cases hc : lt (S t) x with
    | false => rfl
    | true =>
      rw [lt_trans' (ha h t (by omega) h2) hc] at hl
      cases hl

set_option maxHeartbeats 1600000 in
theorem bs_any (B n c : Nat) (a : Option Addr) (S : Nat → ByteArray) (x : ByteArray) (w : World) (hn : n ≤ 4611686018427387903) (h1 : RowB B w a n fun i => .string (S i)) (ha : AscN S n) :
    Calls Try.prog 15 #[.slice a n c, .string x] w fun e w' => BsRet S n x e ∧ w' = w := by
  have H : Hid (RowB B w a n (fun i => .string (S i)) ∧ AscN S n) := ⟨h1, ha⟩
  clear h1 ha
  go_enter Try.func15, Try.ntmps15
  go_wp2_with fail
  go_loop [7, 8] (fun s7 s8 => ∃ lo hi : Nat, lo ≤ hi ∧ hi ≤ n ∧ s7 = .int .i64 lo ∧ s8 = .int .i64 hi ∧ Hid ((∀ t, t < lo → lt (S t) x = true) ∧ (∀ t, hi ≤ t → t < n → lt (S t) x = false))) (fun s7 s8 => (intOf s8).toNat - (intOf s7).toNat)
  case atStart => exact ⟨0, n, Nat.zero_le _, Nat.le_refl _, rfl, rfl, fun t ht => absurd ht (by omega), fun t h1 h2 => absurd h2 (by omega)⟩
  case round =>
    obtain ⟨lo, hi, h1, h2, rfl, rfl, hr⟩ := hrel
    by_cases hlt : lo < hi
    · obtain ⟨b, off, rfl, _, hc⟩ := H.out.1 (by omega)
      have g1 := hc ((lo + hi) / 2) (by omega)
      clear hc
      cases hl : lt (S ((lo + hi) / 2)) x with
      | true =>
        have R := low_up H.out.2 (show (lo + hi) / 2 < n by omega) hl
        have hl' : Op.bytesLess (S ((lo + hi) / 2)).toList x.toList = true := hl
        clear hl
        go_wp2_with (first | (go_at_call 17; refine (less_any _ _ _).mono ?_; rintro e w' ⟨rfl, rfl⟩))
        go_round
        case rel => exact ⟨(lo + hi) / 2 + 1, hi, by omega, h2, by go_num, rfl, R, hr.out.2⟩
        case measure => simp [intOf]; omega
      | false =>
        have R := high_down H.out.2 hl
        have hl' : Op.bytesLess (S ((lo + hi) / 2)).toList x.toList = false := hl
        clear hl
        go_wp2_with (first | (go_at_call 17; refine (less_any _ _ _).mono ?_; rintro e w' ⟨rfl, rfl⟩))
        go_round
        case rel => exact ⟨lo, (lo + hi) / 2, by omega, by omega, rfl, by go_num, hr.out.1, R⟩
        case measure => simp [intOf]; omega
    · obtain rfl : lo = hi := by omega
      by_cases hin : lo < n
      · obtain ⟨b, off, rfl, _, hc⟩ := H.out.1 (by omega)
        have g1 := hc lo hin
        clear hc
        by_cases he : S lo = x
        · have he' : ((S lo).toList == x.toList) = true := by rw [he]; simp
          have F : Hid (BsOK S n x lo true) := ⟨h2, hr.out.1, hr.out.2, ⟨fun _ => ⟨hin, he⟩, fun _ => rfl⟩⟩
          clear he
          go_wp2_with (first | (go_at_call 18; refine (isNaN_any _ _).mono ?_; rintro e w' ⟨rfl, rfl⟩))
          go_returns
          exact ⟨BsRet.of F.out, rfl⟩
        · have he' : ((S lo).toList == x.toList) = false := by
            cases hb : ((S lo).toList == x.toList) with
            | false => rfl
            | true => exact absurd (str_eq hb) he
          have F : Hid (BsOK S n x lo false) := ⟨h2, hr.out.1, hr.out.2, ⟨fun h => (by cases h), fun h => absurd h.2 he⟩⟩
          clear he
          go_wp2_with (first | (go_at_call 18; refine (isNaN_any _ _).mono ?_; rintro e w' ⟨rfl, rfl⟩))
          go_returns
          exact ⟨BsRet.of F.out, rfl⟩
      · have F : Hid (BsOK S n x lo false) := ⟨h2, hr.out.1, hr.out.2, ⟨fun h => (by cases h), fun h => absurd h.1 hin⟩⟩
        go_wp2_with fail
        go_returns
        exact ⟨BsRet.of F.out, rfl⟩

/-- strings.HasPrefix. -/
theorem hasPre_any (s p : ByteArray) (w : World) :
    Calls Try.prog 16 #[.string s, .string p] w fun e w' => e = .returned (.bool (preB p s)) ∧ w' = w := by
  by_cases hl : p.size ≤ s.size
  · have F : Hid (((s.extract 0 p.size).toList == p.toList) = preB p s) := by
      have h := Lib.hasPrefix_raw s p
      rw [decide_eq_true hl, Bool.true_and] at h
      exact h
    go_enter Try.func16, Try.ntmps16
    go_wp2
    go_returns
    exact ⟨by show Ending.returned (.bool ((s.extract 0 p.size).toList == p.toList)) = _; rw [F.out], rfl⟩
  · have F : Hid (preB p s = false) := by
      cases hb : preB p s with
      | false => rfl
      | true => exact absurd (pre_le ((preB_iff p s).1 hb)) (by omega)
    go_enter Try.func16, Try.ntmps16
    go_wp2
    go_returns
    exact ⟨by rw [F.out]; rfl, rfl⟩

end Go.Proofs.Qxb6618117a
