/-
  zzMvtoB1Flat BY ITS CONTRACT.
-/
import Derived.Test.Qxb6618059aWalk
import Derived.Test.Qxb6618059aLoops
namespace Go.Proofs.Qxb6618059a
open Go.RowKit Go.Deep

def keyAt (T : BT Nod) (i : Nat) : ByteArray := ((flat 0 T).map (·.1)).getD i ByteArray.empty
def effAt (T : BT Nod) (i : Nat) : Int := ((flat 0 T).map (·.2)).getD i 0

theorem row_of_owns {w : World} {base : Nat} {e : TypeId} {v : Value} {n : Nat} {xs : List Value} (h : w.ownsRow base e 1 v n xs) (f : Nat → Value) (hf : ∀ i, i < n → xs[i]? = some (f i)) :
    ∃ a c, v = .slice a n c ∧ RowB w.heap.size w a n f ∧ (∀ x, a = some x → base ≤ x.block) ∧ n ≤ c := by
  rcases h.2 with ⟨rfl, rfl⟩ | ⟨g, cap, cur, rfl, hb, hg, h1, h2, h3, h4⟩
  · exact ⟨none, 0, rfl, fun h => absurd h (by omega), fun x hx => by (cases hx), Nat.le_refl _⟩
  · refine ⟨_, cap, rfl, ?_, fun x hx => by (cases hx; exact hb), h1⟩
    refine fun _ => ⟨g, 0, rfl, (Array.getElem?_eq_some_iff.1 hg).1, fun i hi => ?_⟩
    have hc := h.cells (g := g) rfl i (f i) (hf i hi)
    have hadd : (⟨g, 0, none⟩ : Addr).add i = ⟨g, 0 + i, none⟩ := by unfold Addr.add; split <;> simp_all
    rw [hadd] at hc
    exact hc

/-- What zzMvtoB1Flat leaves: two lists in new memory. -/
structure FlatOK (T : BT Nod) (w w' : World) (ka : Option Addr) (kc : Nat) (ea : Option Addr) (ec : Nat) : Prop where
  k : RowB w'.heap.size w' ka (size T) (fun i => .string (keyAt T i))
  e : RowB w'.heap.size w' ea (size T) (fun i => .int .u64 (effAt T i))
  newk : ∀ x, ka = some x → w.heap.size ≤ x.block
  newe : ∀ x, ea = some x → w.heap.size ≤ x.block
  capk : size T ≤ kc
  cape : size T ≤ ec
  bel : Below w.heap.size w w'

set_option maxRecDepth 100000 in
set_option maxHeartbeats 800000 in
theorem flat_any (T : BT Nod) (limit : Nat) (w : World) (hin : InT w T) (hh : hp T) (hs : size T ≤ limit) (hl : limit ≤ 1048576) :
    Calls Try.prog 11 #[T.ptr, .int .i64 limit] w fun e w' => ∃ ka kc ea ec, e = .returned (.tuple #[.slice ka (size T) kc, .slice ea (size T) ec, .bool true]) ∧
      FlatOK T w w' ka kc ea ec := by
  have H : Hid (InT w T ∧ hp T ∧ size T ≤ limit) := ⟨hin, hh, hs⟩
  clear hin hh hs
  go_enter Try.func11, Try.ntmps11
  go_wp2_with fail
  have st0 : WSt w.heap.size (w.alloc (.cells #[.slice none 0 0, .slice none 0 0, .bool true, .bool false] 43)) [] [] (.slice none 0 0) (.slice none 0 0) :=
    ⟨heap_alloc_new w _, World.ownsRow_nil _ _ _ _, World.ownsRow_nil _ _ _ _, Or.inl rfl⟩
  have hin0 : InT (w.alloc (.cells #[.slice none 0 0, .slice none 0 0, .bool true, .bool false] 43)) T := inT_of H.out.1 fun x hx => Below.heap_alloc w _ x (inT_lt H.out.1 x hx)
  refine (walk_any w.heap.size limit hl T 0 0 0 _ [] [] _ _ rfl hin0 (inT_lt H.out.1) H.out.2.1 (by have := H.out.2.2; simp; omega) (by have := H.out.2.2; omega) st0 rfl).mono ?_
  rintro e w1 ⟨rfl, kv, ev, st1, bel⟩
  obtain ⟨c0, c1, c2, c3, f0, f1⟩ := st1.cells
  have bel1 : Below w.heap.size w w1 := ((Below.refl _ w).alloc (Nat.le_refl _) _).trans bel
  have l1 : (([] : List ByteArray) ++ (flat 0 T).map (·.1)).length = size T := by simp [flat_size]
  have l2 : (([] : List Int) ++ (flat 0 T).map (·.2)).length = size T := by simp [flat_size]
  have ko := st1.kown
  have eo := st1.eown
  rw [l1] at ko
  rw [l2] at eo
  obtain ⟨ka, kc, rfl, kr, kn, kk⟩ := row_of_owns ko (fun i => .string (keyAt T i)) (fun i hi => by
    have hi' : i < ((flat 0 T).map (·.1)).length := by simpa [flat_size] using hi
    simp only [List.nil_append, keyAt, List.getElem?_map (f := Value.string), List.getElem?_eq_getElem hi', Option.map_some, List.getD_eq_getElem?_getD, Option.getD_some])
  obtain ⟨ea, ec, rfl, er, en, ek⟩ := row_of_owns eo (fun i => .int .u64 (effAt T i)) (fun i hi => by
    have hi' : i < ((flat 0 T).map (·.2)).length := by simpa [flat_size] using hi
    simp only [List.nil_append, effAt, List.getElem?_map (f := Value.int .u64), List.getElem?_eq_getElem hi', Option.map_some, List.getD_eq_getElem?_getD, Option.getD_some])
  have H1 : Hid (∀ n, FlatOK T w (w1.drewN n) ka kc ea ec) := fun n =>
    ⟨kr, er, fun x hx => Nat.le_of_succ_le (kn x hx), fun x hx => Nat.le_of_succ_le (en x hx), kk, ek, bel1.trans ⟨rfl, rfl, rfl, Nat.le_refl _, fun _ _ => rfl⟩⟩
  clear kr er bel1 ko eo l1 l2 st1 bel st0 hin0 kn en kk ek
  go_wp2_with fail
  go_quiet (fail)
  go_wp2_with fail
  go_returns
  exact ⟨ka, kc, ea, ec, rfl, H1.out nq⟩
end Go.Proofs.Qxb6618059a
