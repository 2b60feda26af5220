/-
  THE SMALL FUNCTIONS OF THE SEAT: the bounds, ascendingB1, hasPrefixB1, antichainB1, memberB1.
-/
import Derived.Test.Qxb6618117aRows
import Derived.WalkKit
import Derived.ProofKit
import Derived.WalkLawsBesides
import Derived.Handy
import Derived.Deep.QuietTactic
import Derived.BigQuiet
import Derived.BigRegion
import Derived.Outline
namespace Go.Proofs.Qxb6618117a
open Go.RowKit

/-- THE n ELEMENTS BEHIND THE ADDRESS a (one cell each) ARE f 0, f 1 ..; their block lies below B. -/
def RowB (B : Nat) (w : World) (a : Option Addr) (n : Nat) (f : Nat → Value) : Prop :=
  0 < n → ∃ b off, a = some ⟨b, off, none⟩ ∧ b < B ∧ ∀ i, i < n → w.cell? ⟨b, off + i, none⟩ = some (f i)

theorem RowB.below {B : Nat} {w w' : World} {a : Option Addr} {n : Nat} {f : Nat → Value} (h : RowB B w a n f) (hb : Below B w w') : RowB B w' a n f := fun hn => by
  obtain ⟨b, off, h1, h2, h3⟩ := h hn
  exact ⟨b, off, h1, h2, fun i hi => (hb.cell (p := ⟨b, off + i, none⟩) h2).trans (h3 i hi)⟩
theorem RowB.mono {B B' : Nat} {w : World} {a : Option Addr} {n : Nat} {f : Nat → Value} (h : RowB B w a n f) (hb : B ≤ B') : RowB B' w a n f := fun hn => by
  obtain ⟨b, off, h1, h2, h3⟩ := h hn
  exact ⟨b, off, h1, Nat.lt_of_lt_of_le h2 hb, h3⟩
theorem below_drewN' (w : World) (n B : Nat) : Below B w (w.drewN n) := ⟨rfl, rfl, rfl, Nat.le_refl _, fun _ _ => rfl⟩

def lt (a b : ByteArray) : Bool := Op.bytesLess a.toList b.toList

/-- A bool was returned; if it is true then p. -/
def BoolIf (p : Prop) (e : Ending) : Prop := ∃ b : Bool, e = .returned (.bool b) ∧ (b = true → p)
theorem BoolIf.no (p : Prop) : BoolIf p (.returned (.bool false)) := ⟨false, rfl, fun h => by cases h⟩
theorem BoolIf.yes {p : Prop} (h : p) : BoolIf p (.returned (.bool true)) := ⟨true, rfl, fun _ => h⟩

set_option maxHeartbeats 3200000 in
theorem bytesName_any (B n1 c1 n2 c2 n3 c3 : Nat) (a1 a2 a3 : Option Addr) (S1 S2 S3 : Nat → ByteArray) (t nm x : ByteArray) (w : World) (h1 : n1 ≤ maxLen) (h2 : n2 ≤ maxLen) (h3 : n3 ≤ maxLen)
    (r1 : RowB B w a1 n1 fun i => .string (S1 i)) (r2 : RowB B w a2 n2 fun i => .string (S2 i)) (r3 : RowB B w a3 n3 fun i => .string (S3 i)) :
    Calls Try.prog 5 #[.string t, .slice a1 n1 c1, .slice a2 n2 c2, .slice a3 n3 c3, .string nm, .string x] w fun e w' => BoolIf (n1 ≤ 1048576 ∧ n2 ≤ 1048576 ∧ n3 ≤ 1048576) e ∧ w' = w := by
  unfold maxLen at h1 h2 h3
  have H : Hid (RowB B w a1 n1 (fun i => .string (S1 i)) ∧ RowB B w a2 n2 (fun i => .string (S2 i)) ∧ RowB B w a3 n3 (fun i => .string (S3 i))) := ⟨r1, r2, r3⟩
  clear r1 r2 r3
  go_enter Try.func5, Try.ntmps5
  go_wp2
  any_goals (go_returns; exact ⟨BoolIf.no _, rfl⟩)
  go_loop [13, 14] (fun t i => ∃ (k : Nat) (t' : Int), k ≤ n1 ∧ i = .int .i64 k ∧ t = .int .i64 t') (fun _ i => n1 - (intOf i).toNat)
  case atStart => exact ⟨0, _, Nat.zero_le _, rfl, rfl⟩
  case round =>
    obtain ⟨k, t', hk, rfl, rfl⟩ := hrel
    by_cases hlt : k < n1
    · obtain ⟨b, off, rfl, _, hc⟩ := H.out.1 (by omega)
      have g1 := hc k hlt
      clear hc
      go_wp2
      any_goals (go_returns; exact ⟨BoolIf.no _, rfl⟩)
      go_round
      case rel => exact ⟨k + 1, _, by omega, by go_num, rfl⟩
      case measure => simp [intOf]; omega
    · go_wp2
      any_goals (go_returns; exact ⟨BoolIf.no _, rfl⟩)
      go_loop [13, 15] (fun t i => ∃ (k : Nat) (t' : Int), k ≤ n2 ∧ i = .int .i64 k ∧ t = .int .i64 t') (fun _ i => n2 - (intOf i).toNat)
      case atStart => exact ⟨0, _, Nat.zero_le _, rfl, rfl⟩
      case round =>
        obtain ⟨k, t', hk, rfl, rfl⟩ := hrel
        by_cases hlt : k < n2
        · obtain ⟨b, off, rfl, _, hc⟩ := H.out.2.1 (by omega)
          have g1 := hc k hlt
          clear hc
          go_wp2
          any_goals (go_returns; exact ⟨BoolIf.no _, rfl⟩)
          go_round
          case rel => exact ⟨k + 1, _, by omega, by go_num, rfl⟩
          case measure => simp [intOf]; omega
        · go_wp2
          any_goals (go_returns; exact ⟨BoolIf.no _, rfl⟩)
          go_loop [13, 16] (fun t i => ∃ (k : Nat) (t' : Int), k ≤ n3 ∧ i = .int .i64 k ∧ t = .int .i64 t') (fun _ i => n3 - (intOf i).toNat)
          case atStart => exact ⟨0, _, Nat.zero_le _, rfl, rfl⟩
          case round =>
            obtain ⟨k, t', hk, rfl, rfl⟩ := hrel
            by_cases hlt : k < n3
            · obtain ⟨b, off, rfl, _, hc⟩ := H.out.2.2 (by omega)
              have g1 := hc k hlt
              clear hc
              go_wp2
              any_goals (go_returns; exact ⟨BoolIf.no _, rfl⟩)
              go_round
              case rel => exact ⟨k + 1, _, by omega, by go_num, rfl⟩
              case measure => simp [intOf]; omega
            · go_wp2
              any_goals (go_returns; exact ⟨BoolIf.no _, rfl⟩)
              go_returns
              exact ⟨BoolIf.yes ⟨by omega, by omega, by omega⟩, rfl⟩

set_option maxHeartbeats 3200000 in
theorem bytesPre_any (B n1 c1 n2 c2 n3 c3 : Nat) (a1 a2 a3 : Option Addr) (S1 S2 S3 : Nat → ByteArray) (t nm : ByteArray) (kk : Int) (w : World) (h1 : n1 ≤ maxLen) (h2 : n2 ≤ maxLen) (h3 : n3 ≤ maxLen)
    (r1 : RowB B w a1 n1 fun i => .string (S1 i)) (r2 : RowB B w a2 n2 fun i => .string (S2 i)) (r3 : RowB B w a3 n3 fun i => .string (S3 i)) :
    Calls Try.prog 10 #[.string t, .slice a1 n1 c1, .slice a2 n2 c2, .slice a3 n3 c3, .string nm, .int .i64 kk] w fun e w' => BoolIf (n1 ≤ 1048576 ∧ n2 ≤ 1048576 ∧ n3 ≤ 1048576) e ∧ w' = w := by
  unfold maxLen at h1 h2 h3
  have H : Hid (RowB B w a1 n1 (fun i => .string (S1 i)) ∧ RowB B w a2 n2 (fun i => .string (S2 i)) ∧ RowB B w a3 n3 (fun i => .string (S3 i))) := ⟨r1, r2, r3⟩
  clear r1 r2 r3
  go_enter Try.func10, Try.ntmps10
  go_wp2
  any_goals (go_returns; exact ⟨BoolIf.no _, rfl⟩)
  go_loop [13, 14] (fun t i => ∃ (k : Nat) (t' : Int), k ≤ n1 ∧ i = .int .i64 k ∧ t = .int .i64 t') (fun _ i => n1 - (intOf i).toNat)
  case atStart => exact ⟨0, _, Nat.zero_le _, rfl, rfl⟩
  case round =>
    obtain ⟨k, t', hk, rfl, rfl⟩ := hrel
    by_cases hlt : k < n1
    · obtain ⟨b, off, rfl, _, hc⟩ := H.out.1 (by omega)
      have g1 := hc k hlt
      clear hc
      go_wp2
      any_goals (go_returns; exact ⟨BoolIf.no _, rfl⟩)
      go_round
      case rel => exact ⟨k + 1, _, by omega, by go_num, rfl⟩
      case measure => simp [intOf]; omega
    · go_wp2
      any_goals (go_returns; exact ⟨BoolIf.no _, rfl⟩)
      go_loop [13, 15] (fun t i => ∃ (k : Nat) (t' : Int), k ≤ n2 ∧ i = .int .i64 k ∧ t = .int .i64 t') (fun _ i => n2 - (intOf i).toNat)
      case atStart => exact ⟨0, _, Nat.zero_le _, rfl, rfl⟩
      case round =>
        obtain ⟨k, t', hk, rfl, rfl⟩ := hrel
        by_cases hlt : k < n2
        · obtain ⟨b, off, rfl, _, hc⟩ := H.out.2.1 (by omega)
          have g1 := hc k hlt
          clear hc
          go_wp2
          any_goals (go_returns; exact ⟨BoolIf.no _, rfl⟩)
          go_round
          case rel => exact ⟨k + 1, _, by omega, by go_num, rfl⟩
          case measure => simp [intOf]; omega
        · go_wp2
          any_goals (go_returns; exact ⟨BoolIf.no _, rfl⟩)
          go_loop [13, 16] (fun t i => ∃ (k : Nat) (t' : Int), k ≤ n3 ∧ i = .int .i64 k ∧ t = .int .i64 t') (fun _ i => n3 - (intOf i).toNat)
          case atStart => exact ⟨0, _, Nat.zero_le _, rfl, rfl⟩
          case round =>
            obtain ⟨k, t', hk, rfl, rfl⟩ := hrel
            by_cases hlt : k < n3
            · obtain ⟨b, off, rfl, _, hc⟩ := H.out.2.2 (by omega)
              have g1 := hc k hlt
              clear hc
              go_wp2
              any_goals (go_returns; exact ⟨BoolIf.no _, rfl⟩)
              go_round
              case rel => exact ⟨k + 1, _, by omega, by go_num, rfl⟩
              case measure => simp [intOf]; omega
            · go_wp2
              any_goals (go_returns; exact ⟨BoolIf.no _, rfl⟩)
              go_returns
              exact ⟨BoolIf.yes ⟨by omega, by omega, by omega⟩, rfl⟩

end Go.Proofs.Qxb6618117a
