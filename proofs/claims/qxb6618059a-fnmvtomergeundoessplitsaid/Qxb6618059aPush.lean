/-
  THE WALK OF push, AND OF THE FIELD READERS.
-/
import Derived.Test.Qxb6618059aTrees
import Derived.WalkLawsBesides
import Derived.Handy
import Derived.Deep.QuietTactic
import Derived.BigQuiet
import Derived.BigRegion
import Derived.Outline
namespace Go.Proofs.Qxb6618059a
open Go.RowKit Go.Deep

theorem get_atLeast (b : Nat) (x : Int) (w : World) (h : w.cell? ⟨b, 2, none⟩ = some (.int .u64 x)) :
    Calls Try.prog 17 #[.pointer (some ⟨b, 0, none⟩)] w fun e w' => e = .returned (.int .u64 x) ∧ w' = w := by
  go_enter Try.func17, Try.ntmps17
  go_wp2
  go_returns
  exact ⟨rfl, rfl⟩
theorem get_left (b : Nat) (x : Value) (w : World) (h : w.cell? ⟨b, 4, none⟩ = some x) :
    Calls Try.prog 26 #[.pointer (some ⟨b, 0, none⟩)] w fun e w' => e = .returned x ∧ w' = w := by
  go_enter Try.func26, Try.ntmps26
  go_wp2
  go_returns
  exact ⟨rfl, rfl⟩
theorem get_right (b : Nat) (x : Value) (w : World) (h : w.cell? ⟨b, 5, none⟩ = some x) :
    Calls Try.prog 27 #[.pointer (some ⟨b, 0, none⟩)] w fun e w' => e = .returned x ∧ w' = w := by
  go_enter Try.func27, Try.ntmps27
  go_wp2
  go_returns
  exact ⟨rfl, rfl⟩
theorem get_pr (b : Nat) (x : Int) (w : World) (h : w.cell? ⟨b, 3, none⟩ = some (.int .u64 x)) :
    Calls Try.prog 28 #[.pointer (some ⟨b, 0, none⟩)] w fun e w' => e = .returned (.int .u64 x) ∧ w' = w := by
  go_enter Try.func28, Try.ntmps28
  go_wp2
  go_returns
  exact ⟨rfl, rfl⟩
theorem get_ts (b : Nat) (x : Int) (w : World) (h : w.cell? ⟨b, 1, none⟩ = some (.int .u64 x)) :
    Calls Try.prog 29 #[.pointer (some ⟨b, 0, none⟩)] w fun e w' => e = .returned (.int .u64 x) ∧ w' = w := by
  go_enter Try.func29, Try.ntmps29
  go_wp2
  go_returns
  exact ⟨rfl, rfl⟩
theorem get_key (b : Nat) (x : ByteArray) (w : World) (h : w.cell? ⟨b, 0, none⟩ = some (.string x)) :
    Calls Try.prog 30 #[.pointer (some ⟨b, 0, none⟩)] w fun e w' => e = .returned (.string x) ∧ w' = w := by
  go_enter Try.func30, Try.ntmps30
  go_wp2
  go_returns
  exact ⟨rfl, rfl⟩
theorem make_node (k : ByteArray) (ts al pr : Int) (l r : Option Addr) (w : World) :
    Calls Try.prog 21 #[.string k, .int .u64 ts, .int .u64 al, .int .u64 pr, .pointer l, .pointer r] w fun e w' => e = .returned (.pointer (some ⟨w.heap.size, 0, none⟩)) ∧ w' = w.alloc (nobj ⟨k, ts, al, pr⟩ (.pointer l) (.pointer r)) := by
  go_enter Try.func21, Try.ntmps21
  go_wp2
  go_returns
  exact ⟨rfl, rfl⟩

theorem push_zero (b : Nat) (w : World) (h2 : w.cell? ⟨b, 2, none⟩ = some (.int .u64 0)) :
    Calls Try.prog 24 #[.pointer (some ⟨b, 0, none⟩)] w fun e w' => e = .returned (.tuple #[]) ∧ w' = w := by
  go_enter Try.func24, Try.ntmps24
  go_wp2
  go_returns
  exact ⟨rfl, rfl⟩

set_option maxHeartbeats 400000 in
theorem push_nn (b : Nat) (a : Nod) (w : World) (hal : (a.al == 0) = false) (hb : w.heap[b]? = some (nobj a (.pointer none) (.pointer none))) :
    Calls Try.prog 24 #[.pointer (some ⟨b, 0, none⟩)] w fun e w' => e = .returned (.tuple #[]) ∧ w'.heap[b]? = some (nobj (pushed a) (.pointer none) (.pointer none)) ∧ Touch [b] w w' := by
  obtain ⟨key, ts, al, pr⟩ := a
  obtain ⟨_, h1, h2, _, h4, h5⟩ := nobj_cells hb
  have f1 := nobj_free hb 1
  have f2 := nobj_free hb 2
  have HB : Hid (w.heap[b]? = some (nobj ⟨key, ts, al, pr⟩ (.pointer none) (.pointer none))) := hb
  clear hb
  dsimp only at hal h1 h2
  go_enter Try.func24, Try.ntmps24
  go_wp2
  go_region
  all_goals go_wp2
  all_goals go_returns
  all_goals
    refine ⟨rfl, ?_, (((Touch.refl _ _).setCell (by simp) _).setCell (by simp) _).drew⟩
    unfold pushed
    dsimp only
    first | rw [show max ts al = ts by omega] | rw [show max ts al = al by omega]
    exact nobj_al (nobj_ts HB.out _) 0

set_option maxHeartbeats 400000 in
theorem push_ln (b c : Nat) (a x : Nod) (xl xr : Value) (w : World) (hal : (a.al == 0) = false) (hcb : c ≠ b) (hb : w.heap[b]? = some (nobj a (.pointer (some ⟨c, 0, none⟩)) (.pointer none)))
    (hc : w.heap[c]? = some (nobj x xl xr)) :
    Calls Try.prog 24 #[.pointer (some ⟨b, 0, none⟩)] w fun e w' => e = .returned (.tuple #[]) ∧ w'.heap[b]? = some (nobj (pushed a) (.pointer (some ⟨c, 0, none⟩)) (.pointer none)) ∧
      w'.heap[c]? = some (nobj { x with al := max x.al a.al } xl xr) ∧ Touch [b, c] w w' := by
  obtain ⟨key, ts, al, pr⟩ := a
  obtain ⟨xkey, xts, xal, xpr⟩ := x
  obtain ⟨_, h1, h2, _, h4, h5⟩ := nobj_cells hb
  obtain ⟨_, _, h2', _, _, _⟩ := nobj_cells hc
  have f1 := nobj_free hb 1
  have f2 := nobj_free hb 2
  have f2' := nobj_free hc 2
  have hbc : b ≠ c := fun e => hcb e.symm
  have HB : Hid (w.heap[b]? = some (nobj ⟨key, ts, al, pr⟩ (.pointer (some ⟨c, 0, none⟩)) (.pointer none))) := hb
  have HC : Hid (w.heap[c]? = some (nobj ⟨xkey, xts, xal, xpr⟩ xl xr)) := hc
  clear hb hc
  dsimp only at hal h1 h2 h2'
  go_enter Try.func24, Try.ntmps24
  go_wp2
  go_region
  all_goals go_wp2
  all_goals go_region
  all_goals go_wp2
  all_goals go_returns
  all_goals
    refine ⟨rfl, ?_, ?_, ((((Touch.refl _ _).setCell (by simp) _).setCell (by simp) _).setCell (by simp) _).drew.drew⟩
    · unfold pushed
      dsimp only
      first | rw [show max ts al = ts by omega] | rw [show max ts al = al by omega]
      exact nobj_al ((heap_set_ne hbc _).trans (nobj_ts HB.out _)) 0
    · first | rw [show max xal al = xal by omega] | rw [show max xal al = al by omega]
      exact (heap_set_ne hcb _).trans (nobj_al ((heap_set_ne hcb _).trans HC.out) _)

set_option maxHeartbeats 400000 in
theorem push_rn (b c : Nat) (a x : Nod) (xl xr : Value) (w : World) (hal : (a.al == 0) = false) (hcb : c ≠ b) (hb : w.heap[b]? = some (nobj a (.pointer none) (.pointer (some ⟨c, 0, none⟩))))
    (hc : w.heap[c]? = some (nobj x xl xr)) :
    Calls Try.prog 24 #[.pointer (some ⟨b, 0, none⟩)] w fun e w' => e = .returned (.tuple #[]) ∧ w'.heap[b]? = some (nobj (pushed a) (.pointer none) (.pointer (some ⟨c, 0, none⟩))) ∧
      w'.heap[c]? = some (nobj { x with al := max x.al a.al } xl xr) ∧ Touch [b, c] w w' := by
  obtain ⟨key, ts, al, pr⟩ := a
  obtain ⟨xkey, xts, xal, xpr⟩ := x
  obtain ⟨_, h1, h2, _, h4, h5⟩ := nobj_cells hb
  obtain ⟨_, _, h2', _, _, _⟩ := nobj_cells hc
  have f1 := nobj_free hb 1
  have f2 := nobj_free hb 2
  have f2' := nobj_free hc 2
  have hbc : b ≠ c := fun e => hcb e.symm
  have HB : Hid (w.heap[b]? = some (nobj ⟨key, ts, al, pr⟩ (.pointer none) (.pointer (some ⟨c, 0, none⟩)))) := hb
  have HC : Hid (w.heap[c]? = some (nobj ⟨xkey, xts, xal, xpr⟩ xl xr)) := hc
  clear hb hc
  dsimp only at hal h1 h2 h2'
  go_enter Try.func24, Try.ntmps24
  go_wp2
  go_region
  all_goals go_wp2
  all_goals go_region
  all_goals go_wp2
  all_goals go_returns
  all_goals
    refine ⟨rfl, ?_, ?_, ((((Touch.refl _ _).setCell (by simp) _).setCell (by simp) _).setCell (by simp) _).drew.drew⟩
    · unfold pushed
      dsimp only
      first | rw [show max ts al = ts by omega] | rw [show max ts al = al by omega]
      exact nobj_al ((heap_set_ne hbc _).trans (nobj_ts HB.out _)) 0
    · first | rw [show max xal al = xal by omega] | rw [show max xal al = al by omega]
      exact (heap_set_ne hcb _).trans (nobj_al ((heap_set_ne hcb _).trans HC.out) _)

set_option maxHeartbeats 3200000 in
theorem push_lr (b c d : Nat) (a x y : Nod) (xl xr yl yr : Value) (w : World) (hal : (a.al == 0) = false) (hcb : c ≠ b) (hdb : d ≠ b) (hcd : c ≠ d)
    (hb : w.heap[b]? = some (nobj a (.pointer (some ⟨c, 0, none⟩)) (.pointer (some ⟨d, 0, none⟩))))
    (hc : w.heap[c]? = some (nobj x xl xr)) (hd : w.heap[d]? = some (nobj y yl yr)) :
    Calls Try.prog 24 #[.pointer (some ⟨b, 0, none⟩)] w fun e w' => e = .returned (.tuple #[]) ∧ w'.heap[b]? = some (nobj (pushed a) (.pointer (some ⟨c, 0, none⟩)) (.pointer (some ⟨d, 0, none⟩))) ∧
      w'.heap[c]? = some (nobj { x with al := max x.al a.al } xl xr) ∧ w'.heap[d]? = some (nobj { y with al := max y.al a.al } yl yr) ∧ Touch [b, c, d] w w' := by
  obtain ⟨key, ts, al, pr⟩ := a
  obtain ⟨xkey, xts, xal, xpr⟩ := x
  obtain ⟨ykey, yts, yal, ypr⟩ := y
  obtain ⟨_, h1, h2, _, h4, h5⟩ := nobj_cells hb
  obtain ⟨_, _, h2', _, _, _⟩ := nobj_cells hc
  obtain ⟨_, _, h2'', _, _, _⟩ := nobj_cells hd
  have f1 := nobj_free hb 1
  have f2 := nobj_free hb 2
  have f2' := nobj_free hc 2
  have f2'' := nobj_free hd 2
  have hbc : b ≠ c := fun e => hcb e.symm
  have hbd : b ≠ d := fun e => hdb e.symm
  have hdc : d ≠ c := fun e => hcd e.symm
  have HB : Hid (w.heap[b]? = some (nobj ⟨key, ts, al, pr⟩ (.pointer (some ⟨c, 0, none⟩)) (.pointer (some ⟨d, 0, none⟩)))) := hb
  have HC : Hid (w.heap[c]? = some (nobj ⟨xkey, xts, xal, xpr⟩ xl xr)) := hc
  have HD : Hid (w.heap[d]? = some (nobj ⟨ykey, yts, yal, ypr⟩ yl yr)) := hd
  clear hb hc hd
  dsimp only at hal h1 h2 h2' h2''
  go_enter Try.func24, Try.ntmps24
  go_wp2
  go_region
  all_goals go_wp2
  all_goals go_region
  all_goals go_wp2
  all_goals go_region
  all_goals go_wp2
  all_goals go_returns
  all_goals
    refine ⟨rfl, ?_, ?_, ?_, (((((Touch.refl _ _).setCell (by simp) _).setCell (by simp) _).setCell (by simp) _).setCell (by simp) _).drew.drew.drew⟩
    · unfold pushed
      dsimp only
      first | rw [show max ts al = ts by omega] | rw [show max ts al = al by omega]
      exact nobj_al ((heap_set_ne hbd _).trans ((heap_set_ne hbc _).trans (nobj_ts HB.out _))) 0
    · first | rw [show max xal al = xal by omega] | rw [show max xal al = al by omega]
      exact (heap_set_ne hcb _).trans ((heap_set_ne hcd _).trans (nobj_al ((heap_set_ne hcb _).trans HC.out) _))
    · first | rw [show max yal al = yal by omega] | rw [show max yal al = al by omega]
      exact (heap_set_ne hdb _).trans (nobj_al ((heap_set_ne hdc _).trans ((heap_set_ne hdb _).trans HD.out)) _)

end Go.Proofs.Qxb6618059a
