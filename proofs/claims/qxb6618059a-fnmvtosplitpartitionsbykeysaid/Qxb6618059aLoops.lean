/-
  THE SMALL LOOPS: zzMvtoB1SameStr, SameU, Increasing, AddBytes.
-/
import Derived.Test.Qxb6618059aOrder
import Derived.WalkLawsBesides
import Derived.Handy
import Derived.Deep.QuietTactic
import Derived.BigQuiet
import Derived.BigRegion
import Derived.Outline
namespace Go.Proofs.Qxb6618059a
open Go.RowKit Go.Deep

/-- THE n ELEMENTS BEHIND THE ADDRESS a (one cell each) ARE f 0, f 1 ..; their block lies below B. -/
def RowB (B : Nat) (w : World) (a : Option Addr) (n : Nat) (f : Nat → Value) : Prop :=
  0 < n → ∃ b off, a = some ⟨b, off, none⟩ ∧ b < B ∧ ∀ i, i < n → w.cell? ⟨b, off + i, none⟩ = some (f i)

theorem RowB.below {B : Nat} {w w' : World} {a : Option Addr} {n : Nat} {f : Nat → Value} (h : RowB B w a n f) (hb : Below B w w') : RowB B w' a n f := fun hn => by
  obtain ⟨b, off, h1, h2, h3⟩ := h hn
  exact ⟨b, off, h1, h2, fun i hi => (hb.cell (p := ⟨b, off + i, none⟩) h2).trans (h3 i hi)⟩
theorem RowB.mono {B B' : Nat} {w : World} {a : Option Addr} {n : Nat} {f : Nat → Value} (h : RowB B w a n f) (hb : B ≤ B') : RowB B' w a n f := fun hn => by
  obtain ⟨b, off, h1, h2, h3⟩ := h hn
  exact ⟨b, off, h1, Nat.lt_of_lt_of_le h2 hb, h3⟩

set_option maxHeartbeats 400000 in
theorem sameStr_yes (B n c c' : Nat) (a a' : Option Addr) (S : Nat → ByteArray) (w : World) (hn : n ≤ maxLen) (h1 : RowB B w a n fun i => .string (S i)) (h2 : RowB B w a' n fun i => .string (S i)) :
    Calls Try.prog 12 #[.slice a n c, .slice a' n c'] w fun e w' => e = .returned (.bool true) ∧ ∃ m, w' = w.drewN m := by
  unfold maxLen at hn
  have H : Hid (RowB B w a n (fun i => .string (S i)) ∧ RowB B w a' n fun i => .string (S i)) := ⟨h1, h2⟩
  clear h1 h2
  go_enter Try.func12, Try.ntmps12
  go_wp2
  go_loopw [5] (fun i wr => ∃ k m : Nat, k ≤ n ∧ i = .int .i64 k ∧ wr = w.drewN m) (fun i _ => n - (intOf i).toNat)
  case atStart => exact ⟨0, 0, Nat.zero_le _, rfl, rfl⟩
  case round =>
    obtain ⟨k, m, hk, rfl, rfl⟩ := hrel
    by_cases hlt : k < n
    · obtain ⟨b, off, rfl, _, hc⟩ := H.out.1 (by omega)
      obtain ⟨b', off', rfl, _, hc'⟩ := H.out.2 (by omega)
      have g1 := hc k hlt
      have g2 := hc' k hlt
      clear hc hc'
      go_wp2
      go_quiet (fail)
      go_wp2
      go_roundw
      case rel => exact ⟨k + 1, m + nq, by omega, by go_num, rfl⟩
      case measure => simp [intOf]; omega
    · go_wp2
      go_returns
      exact ⟨rfl, m, rfl⟩

set_option maxHeartbeats 400000 in
theorem sameU_yes (B n c c' : Nat) (a a' : Option Addr) (Z : Nat → Int) (w : World) (hn : n ≤ maxLen) (h1 : RowB B w a n fun i => .int .u64 (Z i)) (h2 : RowB B w a' n fun i => .int .u64 (Z i)) :
    Calls Try.prog 14 #[.slice a n c, .slice a' n c'] w fun e w' => e = .returned (.bool true) ∧ ∃ m, w' = w.drewN m := by
  unfold maxLen at hn
  have H : Hid (RowB B w a n (fun i => .int .u64 (Z i)) ∧ RowB B w a' n fun i => .int .u64 (Z i)) := ⟨h1, h2⟩
  clear h1 h2
  go_enter Try.func14, Try.ntmps14
  go_wp2
  go_loopw [5] (fun i wr => ∃ k m : Nat, k ≤ n ∧ i = .int .i64 k ∧ wr = w.drewN m) (fun i _ => n - (intOf i).toNat)
  case atStart => exact ⟨0, 0, Nat.zero_le _, rfl, rfl⟩
  case round =>
    obtain ⟨k, m, hk, rfl, rfl⟩ := hrel
    by_cases hlt : k < n
    · obtain ⟨b, off, rfl, _, hc⟩ := H.out.1 (by omega)
      obtain ⟨b', off', rfl, _, hc'⟩ := H.out.2 (by omega)
      have g1 := hc k hlt
      have g2 := hc' k hlt
      clear hc hc'
      go_wp2
      go_quiet (fail)
      go_wp2
      go_roundw
      case rel => exact ⟨k + 1, m + nq, by omega, by go_num, rfl⟩
      case measure => simp [intOf]; omega
    · go_wp2
      go_returns
      exact ⟨rfl, m, rfl⟩

theorem asc_step {S : Nat → ByteArray} {j : Nat} (h : ∀ i, i + 1 < j + 1 → lt (S i) (S (i + 1)) = true) (hj : lt (S j) (S (j + 1)) = true) : ∀ i, i + 1 < j + 1 + 1 → lt (S i) (S (i + 1)) = true := fun i hi => by
  by_cases e : i = j
  · rw [e]; exact hj
  · exact h i (by omega)

set_option maxHeartbeats 400000 in
theorem increasing_any (B n c : Nat) (a : Option Addr) (S : Nat → ByteArray) (w : World) (hn : n ≤ maxLen) (h1 : RowB B w a n fun i => .string (S i)) :
    Calls Try.prog 9 #[.slice a n c] w fun e w' => (∃ b : Bool, e = .returned (.bool b) ∧ (b = true → ∀ i, i + 1 < n → lt (S i) (S (i + 1)) = true)) ∧ ∃ m, w' = w.drewN m := by
  unfold maxLen at hn
  have H : Hid (RowB B w a n fun i => .string (S i)) := h1
  clear h1
  go_enter Try.func9, Try.ntmps9
  go_wp2
  go_loopw [3] (fun i wr => ∃ j m : Nat, (j + 1 ≤ n ∨ j = 0) ∧ i = .int .i64 ((j : Int) + 1) ∧ Hid (∀ i, i + 1 < j + 1 → lt (S i) (S (i + 1)) = true) ∧ wr = w.drewN m) (fun i _ => n - (intOf i).toNat)
  case atStart => exact ⟨0, 0, Or.inr rfl, rfl, fun i hi => by omega, rfl⟩
  case round =>
    obtain ⟨j, m, hj, rfl, hs, rfl⟩ := hrel
    by_cases hlt : j + 1 < n
    · obtain ⟨b, off, rfl, _, hc⟩ := H.out (by omega)
      have g1 := hc j (by omega)
      have g2 := hc (j + 1) hlt
      clear hc
      go_wp2
      go_quiet (fail)
      go_wp2
      · go_returns
        exact ⟨⟨false, rfl, fun h => by cases h⟩, m + nq, by simp⟩
      · have hl : lt (S j) (S (j + 1)) = true := by
          have h : (!Op.bytesLess (S j).toList (S (j + 1)).toList) = false := by assumption
          unfold lt
          simpa using h
        go_roundw
        case rel => exact ⟨j + 1, m + nq, Or.inl (by omega), by go_num, asc_step hs hl, rfl⟩
        case measure => simp [intOf]; omega
    · go_wp2
      go_returns
      exact ⟨⟨true, rfl, fun _ i hi => hs i (by omega)⟩, m, rfl⟩

set_option maxHeartbeats 400000 in
theorem addBytes_any (B n c : Nat) (a : Option Addr) (S : Nat → ByteArray) (t : Int) (w : World) (hn : n ≤ maxLen) (h1 : RowB B w a n fun i => .string (S i)) :
    Calls Try.prog 8 #[.slice a n c, .int .i64 t] w fun e w' => (∃ t : Int, e = .returned (.int .i64 t)) ∧ w' = w := by
  unfold maxLen at hn
  have H : Hid (RowB B w a n fun i => .string (S i)) := h1
  clear h1
  go_enter Try.func8, Try.ntmps8
  go_wp2
  go_loop [1, 5] (fun t i => ∃ (k : Nat) (t' : Int), k ≤ n ∧ i = .int .i64 k ∧ t = .int .i64 t') (fun _ i => n - (intOf i).toNat)
  case atStart => exact ⟨0, t, Nat.zero_le _, rfl, rfl⟩
  case round =>
    obtain ⟨k, t', hk, rfl, rfl⟩ := hrel
    by_cases hlt : k < n
    · obtain ⟨b, off, rfl, _, hc⟩ := H.out (by omega)
      have g1 := hc k hlt
      clear hc
      go_wp2
      · go_returns
        exact ⟨⟨_, rfl⟩, rfl⟩
      · go_round
        case rel => exact ⟨k + 1, _, by omega, by go_num, rfl⟩
        case measure => simp [intOf]; omega
    · go_wp2
      go_returns
      exact ⟨⟨_, rfl⟩, rfl⟩

/-- Some bool was returned. -/
def AnyBool (e : Ending) : Prop := ∃ b : Bool, e = .returned (.bool b)
theorem AnyBool.of (b : Bool) : AnyBool (.returned (.bool b)) := ⟨b, rfl⟩

set_option maxHeartbeats 800000 in
theorem bytesPush_any (B n c n1 c1 n2 c2 n3 c3 : Nat) (a a1 a2 a3 : Option Addr) (S : Nat → ByteArray) (w : World) (hn : n ≤ maxLen) (h1 : RowB B w a n fun i => .string (S i)) :
    Calls Try.prog 15 #[.slice a n c, .slice a1 n1 c1, .slice a2 n2 c2, .slice a3 n3 c3] w fun e w' => AnyBool e ∧ w' = w := by
  unfold maxLen at hn
  have H : Hid (RowB B w a n fun i => .string (S i)) := h1
  clear h1
  go_enter Try.func15, Try.ntmps15
  go_wp2
  any_goals (go_returns; exact ⟨AnyBool.of _, rfl⟩)
  go_loop [9, 10] (fun t i => ∃ (k : Nat) (t' : Int), k ≤ n ∧ i = .int .i64 k ∧ t = .int .i64 t') (fun _ i => n - (intOf i).toNat)
  case atStart => exact ⟨0, _, Nat.zero_le _, rfl, rfl⟩
  case round =>
    obtain ⟨k, t', hk, rfl, rfl⟩ := hrel
    by_cases hlt : k < n
    · obtain ⟨b, off, rfl, _, hc⟩ := H.out (by omega)
      have g1 := hc k hlt
      clear hc
      go_wp2
      any_goals (go_returns; exact ⟨AnyBool.of _, rfl⟩)
      go_round
      case rel => exact ⟨k + 1, _, by omega, by go_num, rfl⟩
      case measure => simp [intOf]; omega
    · go_wp2
      all_goals (go_returns; exact ⟨AnyBool.of _, rfl⟩)

set_option maxHeartbeats 800000 in
theorem bytesSplit_any (B n c n1 c1 n2 c2 n3 c3 : Nat) (a a1 a2 a3 : Option Addr) (S : Nat → ByteArray) (k : ByteArray) (w : World) (hn : n ≤ maxLen) (h1 : RowB B w a n fun i => .string (S i)) :
    Calls Try.prog 18 #[.slice a n c, .slice a1 n1 c1, .slice a2 n2 c2, .slice a3 n3 c3, .string k] w fun e w' => AnyBool e ∧ w' = w := by
  unfold maxLen at hn
  have H : Hid (RowB B w a n fun i => .string (S i)) := h1
  clear h1
  go_enter Try.func18, Try.ntmps18
  go_wp2
  any_goals (go_returns; exact ⟨AnyBool.of _, rfl⟩)
  go_loop [11, 12] (fun t i => ∃ (k : Nat) (t' : Int), k ≤ n ∧ i = .int .i64 k ∧ t = .int .i64 t') (fun _ i => n - (intOf i).toNat)
  case atStart => exact ⟨0, _, Nat.zero_le _, rfl, rfl⟩
  case round =>
    obtain ⟨k, t', hk, rfl, rfl⟩ := hrel
    by_cases hlt : k < n
    · obtain ⟨b, off, rfl, _, hc⟩ := H.out (by omega)
      have g1 := hc k hlt
      clear hc
      go_wp2
      any_goals (go_returns; exact ⟨AnyBool.of _, rfl⟩)
      go_round
      case rel => exact ⟨k + 1, _, by omega, by go_num, rfl⟩
      case measure => simp [intOf]; omega
    · go_wp2
      all_goals (go_returns; exact ⟨AnyBool.of _, rfl⟩)

set_option maxHeartbeats 800000 in
theorem bytesMerge_any (B n c n1 c1 n2 c2 n3 c3 : Nat) (a a1 a2 a3 : Option Addr) (S : Nat → ByteArray) (k : ByteArray) (w : World) (hn : n ≤ maxLen) (h1 : RowB B w a n fun i => .string (S i)) :
    Calls Try.prog 20 #[.slice a n c, .slice a1 n1 c1, .slice a2 n2 c2, .slice a3 n3 c3, .string k] w fun e w' => AnyBool e ∧ w' = w := by
  unfold maxLen at hn
  have H : Hid (RowB B w a n fun i => .string (S i)) := h1
  clear h1
  go_enter Try.func20, Try.ntmps20
  go_wp2
  any_goals (go_returns; exact ⟨AnyBool.of _, rfl⟩)
  go_loop [11, 12] (fun t i => ∃ (k : Nat) (t' : Int), k ≤ n ∧ i = .int .i64 k ∧ t = .int .i64 t') (fun _ i => n - (intOf i).toNat)
  case atStart => exact ⟨0, _, Nat.zero_le _, rfl, rfl⟩
  case round =>
    obtain ⟨k, t', hk, rfl, rfl⟩ := hrel
    by_cases hlt : k < n
    · obtain ⟨b, off, rfl, _, hc⟩ := H.out (by omega)
      have g1 := hc k hlt
      clear hc
      go_wp2
      any_goals (go_returns; exact ⟨AnyBool.of _, rfl⟩)
      go_round
      case rel => exact ⟨k + 1, _, by omega, by go_num, rfl⟩
      case measure => simp [intOf]; omega
    · go_wp2
      all_goals (go_returns; exact ⟨AnyBool.of _, rfl⟩)

end Go.Proofs.Qxb6618059a
