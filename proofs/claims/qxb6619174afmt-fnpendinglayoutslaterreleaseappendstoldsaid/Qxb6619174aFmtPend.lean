/-
  UnknownLayout AND PendingLayouts BY THEIR CONTRACTS.
-/
import Derived.Test.Qxb6619174aFmtFacts
import Derived.WalkKit
import Derived.ProofKit
import Derived.WalkLawsBesides
import Derived.WalkSpells
import Derived.Handy
import Derived.Deep.QuietTactic
import Derived.BigQuiet
import Derived.BigRegion
import Derived.Outline
namespace Go.Proofs.Qxb6619174aFmt
open Go.RowKit Go.Extern.Stop Go.Stop Go.Extern

attribute [local go_sem] Tryf.call10 Tryf.guard Tryf.fmt0 Tryf.fmt0r Tryf.op3_100 Tryf.op3_100w Tryf.ptr34 Tryf.elem34

/-- THE n ELEMENTS BEHIND THE ADDRESS a (one cell each) ARE f 0, f 1 ..; their block lies below B. -/
def RowB (B : Nat) (w : World) (a : Option Addr) (n : Nat) (f : Nat → Value) : Prop :=
  0 < n → ∃ b off, a = some ⟨b, off, none⟩ ∧ b < B ∧ ∀ i, i < n → w.cell? ⟨b, off + i, none⟩ = some (f i)

theorem RowB.below {B : Nat} {w w' : World} {a : Option Addr} {n : Nat} {f : Nat → Value} (h : RowB B w a n f) (hb : Below B w w') : RowB B w' a n f := fun hn => by
  obtain ⟨b, off, h1, h2, h3⟩ := h hn
  exact ⟨b, off, h1, h2, fun i hi => (hb.cell (p := ⟨b, off + i, none⟩) h2).trans (h3 i hi)⟩
theorem RowB.mono {B B' : Nat} {w : World} {a : Option Addr} {n : Nat} {f : Nat → Value} (h : RowB B w a n f) (hb : B ≤ B') : RowB B' w a n f := fun hn => by
  obtain ⟨b, off, h1, h2, h3⟩ := h hn
  exact ⟨b, off, h1, Nat.lt_of_lt_of_le h2 hb, h3⟩
theorem RowB.drop {B n j b off : Nat} {w : World} {f : Nat → Value} (h : RowB B w (some ⟨b, off, none⟩) n f) (hj : j ≤ n) : RowB B w (some ⟨b, off + j, none⟩) (n - j) (fun i => f (j + i)) := fun h0 => by
  obtain ⟨b', off', h1, h2, h3⟩ := h (by omega)
  cases h1
  exact ⟨b, off + j, rfl, h2, fun i hi => by rw [Nat.add_assoc]; exact h3 (j + i) (by omega)⟩
theorem row_zero (B n : Nat) (w : World) (a : Option Addr) (f : Nat → Value) (h : n = 0) : RowB B w a n f := fun h0 => absurd h0 (by omega)
theorem below_drewN' (w : World) (n B : Nat) : Below B w (w.drewN n) := ⟨rfl, rfl, rfl, Nat.le_refl _, fun _ _ => rfl⟩

/-- An error that is not nil. -/
def IsErr (e : Ending) : Prop := ∃ a, e = .returned (.iface 34 (.pointer (some a)))

set_option maxHeartbeats 800000 in
theorem unknown_any (F : Interp) (v c : Int) (w : World) (hF : F.answers w.tape) :
    Calls Tryf.prog 8 #[.int .i64 v, .int .i64 c] w fun e w' => IsErr e ∧ Below w.heap.size w w' := by
  have hF' := answers_open hF
  go_enter Tryf.func8, Tryf.ntmps8
  go_wp2
  go_returns
  exact ⟨⟨_, rfl⟩, by go_grown⟩

/-- A version that is refused. -/
def Refused (e : Ending) : Prop := ∃ a, e = .returned (.tuple #[.slice none 0 0, .iface 34 (.pointer (some a))])

set_option maxHeartbeats 800000 in
theorem pend_no (F : Interp) (a : Option Addr) (n c : Nat) (v : Int) (w : World) (hF : F.answers w.tape) (hv : v < 0 ∨ (n : Int) < v) :
    Calls Tryf.prog 6 #[.slice a n c, .int .i64 v] w fun e w' => Refused e ∧ Below w.heap.size w w' := by
  have HF : Hid (F.answers w.tape) := hF
  clear hF
  rcases hv with hv | hv
  · go_enter Tryf.func6, Tryf.ntmps6
    go_wp2_with fail
    refine (unknown_any F _ _ w HF.out).mono ?_
    rintro e w1 ⟨⟨x, rfl⟩, bel⟩
    go_wp2_with fail
    go_returns
    exact ⟨⟨x, rfl⟩, bel⟩
  · have hv0 : ¬ v < 0 := by omega
    go_enter Tryf.func6, Tryf.ntmps6
    go_wp2_with fail
    refine (unknown_any F _ _ w HF.out).mono ?_
    rintro e w1 ⟨⟨x, rfl⟩, bel⟩
    go_wp2_with fail
    go_returns
    exact ⟨⟨x, rfl⟩, bel⟩

/-- A version that is taken: the steps from there on. -/
def Taken (B : Nat) (w : World) (m : Nat) (f : Nat → Value) (e : Ending) : Prop := ∃ a c, e = .returned (.tuple #[.slice a m c, .nilIface]) ∧ RowB B w a m f
theorem Taken.of {B : Nat} {w : World} {m : Nat} {f : Nat → Value} {a : Option Addr} {c : Nat} (h : RowB B w a m f) : Taken B w m f (.returned (.tuple #[.slice a m c, .nilIface])) := ⟨a, c, rfl, h⟩

set_option maxHeartbeats 800000 in
theorem pend_yes (B : Nat) (a : Option Addr) (n c k : Nat) (v : Int) (f : Nat → Value) (w : World) (hv : v = k) (hk : k ≤ n) (hn : n ≤ 1048576) (hc : n ≤ c) (h : RowB B w a n f) :
    Calls Tryf.prog 6 #[.slice a n c, .int .i64 v] w fun e w' => Taken B w (n - k) (fun i => f (k + i)) e ∧ w' = w := by
  subst hv
  have H : Hid (RowB B w a n f) := h
  clear h
  by_cases h0 : 0 < n
  · obtain ⟨b, off, rfl, _, _⟩ := H.out h0
    go_enter Tryf.func6, Tryf.ntmps6
    go_wp2_with fail
    · go_returns
      exact ⟨Taken.of (row_zero _ _ _ _ _ (by omega)), rfl⟩
    · go_returns
      exact ⟨Taken.of (H.out.drop hk), rfl⟩
  · go_enter Tryf.func6, Tryf.ntmps6
    go_wp2_with fail
    all_goals
      go_returns
      exact ⟨Taken.of (row_zero _ _ _ _ _ (by omega)), rfl⟩

/-- A bool was returned; if it is true then p. -/
def BoolIf (p : Prop) (e : Ending) : Prop := ∃ b : Bool, e = .returned (.bool b) ∧ (b = true → p)
theorem BoolIf.no (p : Prop) : BoolIf p (.returned (.bool false)) := ⟨false, rfl, fun h => by cases h⟩
theorem BoolIf.yes {p : Prop} (h : p) : BoolIf p (.returned (.bool true)) := ⟨true, rfl, fun _ => h⟩

set_option maxHeartbeats 800000 in
theorem bytesOne_any (B n c : Nat) (a : Option Addr) (S : Nat → ByteArray) (v : Int) (w : World) (hn : n ≤ maxLen) (h1 : RowB B w a n fun i => .string (S i)) :
    Calls Tryf.prog 5 #[.slice a n c, .int .i64 v] w fun e w' => BoolIf (n ≤ 1048576) e ∧ w' = w := by
  unfold maxLen at hn
  have H : Hid (RowB B w a n fun i => .string (S i)) := h1
  clear h1
  go_enter Tryf.func5, Tryf.ntmps5
  go_wp2
  any_goals (go_returns; exact ⟨BoolIf.no _, rfl⟩)
  go_loop [5, 6] (fun t i => ∃ (k : Nat) (t' : Int), k ≤ n ∧ i = .int .i64 k ∧ t = .int .i64 t') (fun _ i => n - (intOf i).toNat)
  case atStart => exact ⟨0, _, Nat.zero_le _, rfl, rfl⟩
  case round =>
    obtain ⟨k, t', hk, rfl, rfl⟩ := hrel
    by_cases hlt : k < n
    · obtain ⟨b, off, rfl, _, hc⟩ := H.out (by omega)
      have g1 := hc k hlt
      clear hc
      go_wp2
      any_goals (go_returns; exact ⟨BoolIf.no _, rfl⟩)
      go_round
      case rel => exact ⟨k + 1, _, by omega, by go_num, rfl⟩
      case measure => simp [intOf]; omega
    · go_wp2
      go_returns
      exact ⟨BoolIf.yes (by omega), rfl⟩

set_option maxHeartbeats 800000 in
theorem bytesLater_any (B n c m d : Nat) (a a2 : Option Addr) (S T : Nat → ByteArray) (v : Int) (w : World) (hn : n ≤ maxLen) (hm : m ≤ maxLen) (h1 : RowB B w a n fun i => .string (S i)) (h2 : RowB B w a2 m fun i => .string (T i)) :
    Calls Tryf.prog 7 #[.slice a n c, .slice a2 m d, .int .i64 v] w fun e w' => BoolIf (n ≤ 1048576 ∧ m ≤ 1048576) e ∧ w' = w := by
  unfold maxLen at hn hm
  have H : Hid (RowB B w a n (fun i => .string (S i)) ∧ RowB B w a2 m fun i => .string (T i)) := ⟨h1, h2⟩
  clear h1 h2
  go_enter Tryf.func7, Tryf.ntmps7
  go_wp2
  any_goals (go_returns; exact ⟨BoolIf.no _, rfl⟩)
  go_loop [7, 8] (fun t i => ∃ (k : Nat) (t' : Int), k ≤ n ∧ i = .int .i64 k ∧ t = .int .i64 t') (fun _ i => n - (intOf i).toNat)
  case atStart => exact ⟨0, _, Nat.zero_le _, rfl, rfl⟩
  case round =>
    obtain ⟨k, t', hk, rfl, rfl⟩ := hrel
    by_cases hlt : k < n
    · obtain ⟨b, off, rfl, _, hc⟩ := H.out.1 (by omega)
      have g1 := hc k hlt
      clear hc
      go_wp2
      any_goals (go_returns; exact ⟨BoolIf.no _, rfl⟩)
      go_round
      case rel => exact ⟨k + 1, _, by omega, by go_num, rfl⟩
      case measure => simp [intOf]; omega
    · go_wp2
      any_goals (go_returns; exact ⟨BoolIf.no _, rfl⟩)
      go_loop [7, 9] (fun t i => ∃ (k : Nat) (t' : Int), k ≤ m ∧ i = .int .i64 k ∧ t = .int .i64 t') (fun _ i => m - (intOf i).toNat)
      case atStart => exact ⟨0, _, Nat.zero_le _, rfl, rfl⟩
      case round =>
        obtain ⟨k, t', hk, rfl, rfl⟩ := hrel
        by_cases hlt : k < m
        · obtain ⟨b, off, rfl, _, hc⟩ := H.out.2 (by omega)
          have g1 := hc k hlt
          clear hc
          go_wp2
          any_goals (go_returns; exact ⟨BoolIf.no _, rfl⟩)
          go_round
          case rel => exact ⟨k + 1, _, by omega, by go_num, rfl⟩
          case measure => simp [intOf]; omega
        · go_wp2
          go_returns
          exact ⟨BoolIf.yes ⟨by omega, by omega⟩, rfl⟩

end Go.Proofs.Qxb6619174aFmt
