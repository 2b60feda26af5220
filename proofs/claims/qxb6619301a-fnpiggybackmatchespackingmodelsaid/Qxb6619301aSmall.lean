/-
  zzBytes AND mgcpB1TooBig BY THEIR CONTRACTS.
-/
import Derived.Test.Qxb6619301aPlain
import Derived.WalkKit
import Derived.ProofKit
import Derived.WalkLawsBesides
import Derived.WalkSpells
import Derived.Handy
import Derived.Deep.QuietTactic
import Derived.BigQuiet
import Derived.BigRegion
import Derived.Outline
namespace Go.Proofs.Qxb6619301a
open Go.RowKit

/-- THE n ELEMENTS BEHIND THE ADDRESS a (one cell each) ARE f 0, f 1 ..; their block lies below B. -/
def RowB (B : Nat) (w : World) (a : Option Addr) (n : Nat) (f : Nat → Value) : Prop :=
  0 < n → ∃ b off, a = some ⟨b, off, none⟩ ∧ b < B ∧ ∀ i, i < n → w.cell? ⟨b, off + i, none⟩ = some (f i)

theorem RowB.below {B : Nat} {w w' : World} {a : Option Addr} {n : Nat} {f : Nat → Value} (h : RowB B w a n f) (hb : Below B w w') : RowB B w' a n f := fun hn => by
  obtain ⟨b, off, h1, h2, h3⟩ := h hn
  exact ⟨b, off, h1, h2, fun i hi => (hb.cell (p := ⟨b, off + i, none⟩) h2).trans (h3 i hi)⟩
theorem RowB.mono {B B' : Nat} {w : World} {a : Option Addr} {n : Nat} {f : Nat → Value} (h : RowB B w a n f) (hb : B ≤ B') : RowB B' w a n f := fun hn => by
  obtain ⟨b, off, h1, h2, h3⟩ := h hn
  exact ⟨b, off, h1, Nat.lt_of_lt_of_le h2 hb, h3⟩
theorem below_drewN' (w : World) (n B : Nat) : Below B w (w.drewN n) := ⟨rfl, rfl, rfl, Nat.le_refl _, fun _ _ => rfl⟩

/-- The messages. -/
structure Msgs (B : Nat) (w : World) (a : Option Addr) (n : Nat) (A : Nat → Option Addr) (L C : Nat → Nat) (X : Nat → Nat → Int) : Prop where
  row : RowB B w a n fun i => .slice (A i) (L i) (C i)
  each : ∀ i, i < n → RowB B w (A i) (L i) fun r => .int .u8 (X i r)
  nil : ∀ i, i < n → A i = none → L i = 0 ∧ C i = 0
  len : ∀ i, i < n → L i ≤ maxLen
  cnt : n ≤ maxLen

theorem Msgs.below {B n : Nat} {w w' : World} {a : Option Addr} {A : Nat → Option Addr} {L C : Nat → Nat} {X : Nat → Nat → Int} (h : Msgs B w a n A L C X) (hb : Below B w w') : Msgs B w' a n A L C X :=
  ⟨h.row.below hb, fun i hi => (h.each i hi).below hb, h.nil, h.len, h.cnt⟩
theorem Msgs.mono {B B' n : Nat} {w : World} {a : Option Addr} {A : Nat → Option Addr} {L C : Nat → Nat} {X : Nat → Nat → Int} (h : Msgs B w a n A L C X) (hb : B ≤ B') : Msgs B' w a n A L C X :=
  ⟨h.row.mono hb, fun i hi => (h.each i hi).mono hb, h.nil, h.len, h.cnt⟩

/-- Some bool was returned. -/
def AnyBool (e : Ending) : Prop := ∃ b : Bool, e = .returned (.bool b)

set_option maxHeartbeats 800000 in
theorem bytes_any (B n c : Nat) (a : Option Addr) (A : Nat → Option Addr) (L C : Nat → Nat) (X : Nat → Nat → Int) (v : Int) (w : World) (h : Msgs B w a n A L C X) :
    Calls Try.prog 4 #[.slice a n c, .int .i64 v] w fun e w' => AnyBool e ∧ w' = w := by
  have hn := h.cnt
  unfold maxLen at hn
  have H : Hid (Msgs B w a n A L C X) := h
  clear h
  go_enter Try.func4, Try.ntmps4
  go_wp2
  any_goals (go_returns; exact ⟨⟨_, rfl⟩, rfl⟩)
  go_loop [5, 6] (fun t i => ∃ (k : Nat) (t' : Int), k ≤ n ∧ i = .int .i64 k ∧ t = .int .i64 t') (fun _ i => n - (intOf i).toNat)
  case atStart => exact ⟨0, _, Nat.zero_le _, rfl, rfl⟩
  case round =>
    obtain ⟨k, t', hk, rfl, rfl⟩ := hrel
    by_cases hlt : k < n
    · obtain ⟨b, off, rfl, _, hc⟩ := H.out.row (by omega)
      have g1 := hc k hlt
      clear hc
      go_wp2
      any_goals (go_returns; exact ⟨⟨_, rfl⟩, rfl⟩)
      go_round
      case rel => exact ⟨k + 1, _, by omega, by go_num, rfl⟩
      case measure => simp [intOf]; omega
    · go_wp2
      go_returns
      exact ⟨⟨_, rfl⟩, rfl⟩

/-- A bool was returned; if it is false then p. -/
def UnlessBool (p : Prop) (e : Ending) : Prop := ∃ b : Bool, e = .returned (.bool b) ∧ (b = false → p)
theorem UnlessBool.yes (p : Prop) : UnlessBool p (.returned (.bool true)) := ⟨true, rfl, fun h => by cases h⟩
theorem UnlessBool.no {p : Prop} (h : p) : UnlessBool p (.returned (.bool false)) := ⟨false, rfl, fun _ => h⟩

set_option maxHeartbeats 800000 in
theorem tooBig_any (B n c : Nat) (a : Option Addr) (A : Nat → Option Addr) (L C : Nat → Nat) (X : Nat → Nat → Int) (w : World) (h : Msgs B w a n A L C X) :
    Calls Try.prog 5 #[.slice a n c] w fun e w' => UnlessBool (n ≤ 65536 ∧ psum L n ≤ 1048576) e ∧ w' = w := by
  have hn := h.cnt
  unfold maxLen at hn
  have H : Hid (Msgs B w a n A L C X) := h
  clear h
  by_cases hbig : 65536 < n
  · go_enter Try.func5, Try.ntmps5
    go_wp2
    go_returns
    exact ⟨UnlessBool.yes _, rfl⟩
  go_enter Try.func5, Try.ntmps5
  go_wp2
  go_loop [3, 4] (fun t i => ∃ (k u : Nat), k ≤ n ∧ i = .int .i64 k ∧ t = .int .i64 u ∧ u ≤ 1048576 ∧ Hid (psum L k ≤ u)) (fun _ i => n - (intOf i).toNat)
  case atStart => exact ⟨0, 0, Nat.zero_le _, rfl, rfl, by omega, Nat.le_refl _⟩
  case round =>
    obtain ⟨k, u, hk, rfl, rfl, hu, HP⟩ := hrel
    by_cases hlt : k < n
    · obtain ⟨b, off, rfl, _, hc⟩ := H.out.row (by omega)
      have g1 := hc k hlt
      clear hc
      by_cases hL : 1048576 < L k
      · go_wp2
        go_returns
        exact ⟨UnlessBool.yes _, rfl⟩
      by_cases hU : 1048576 < u + (24 + L k)
      · have hU' : (1048576 : Int) < (u : Int) + (24 + (L k : Int)) := by omega
        go_wp2
        go_returns
        exact ⟨UnlessBool.yes _, rfl⟩
      · have hU' : ¬ (1048576 : Int) < (u : Int) + (24 + (L k : Int)) := by omega
        go_wp2
        go_round
        case rel => exact ⟨k + 1, u + (24 + L k), by omega, by go_num, by go_num, by omega, by have := HP.out; show psum L k + L k ≤ _; omega⟩
        case measure => simp [intOf]; omega
    · obtain rfl : n = k := by omega
      go_wp2
      go_returns
      exact ⟨UnlessBool.no ⟨by omega, Nat.le_trans HP.out hu⟩, rfl⟩

end Go.Proofs.Qxb6619301a
