/-
  'eqBytes' at two slices of the same bytes; 'tagBytes'.
-/
import Derived.Test.YoefwwClone
import Derived.Deep.QuietTactic
import Derived.BigQuiet
namespace Go.Proofs.Yoefww
open Go.RowKit Go.Maps

theorem grown_drewN (w : World) (m : Nat) (row : Option Nat) : w.grownBy (w.drewN m) row := ⟨rfl, rfl, rfl, Nat.le_refl _, fun _ _ _ => rfl⟩

/-- A slice that lay in w0 reads as it did while nothing below w0's size turns. -/
theorem IsSl.below {w w' : World} {a : Option Addr} {n c : Nat} {f : Nat → Value} (h : IsSl w a n c f) (hb : Below w.heap.size w w') : IsSl w' a n c f := by
  rcases h with h | ⟨x, rfl, hc, hx⟩
  · exact .inl h
  · refine .inr ⟨x, rfl, hc, fun i hi => (hb.cell ?_).trans (hx i hi)⟩
    exact cell_lt (hx i hi)

theorem below_row {w w' : World} {B : Nat} {a : World} {m : Nat} (h : Below B a w) (hg : w.grownBy w' (some m)) (hB : B ≤ w.heap.size) (hm : B ≤ m) : Below B a w' := h.grown hg hB (fun k hk => by cases hk; exact hm)
theorem below_none {w w' : World} {B : Nat} {a : World} (h : Below B a w) (hg : w.grownBy w' none) (hB : B ≤ w.heap.size) : Below B a w' := h.grown hg hB (fun k hk => by cases hk)

set_option maxHeartbeats 1000000 in
/-- 'eqBytes(a, b)' where the two hold the same bytes: true; nothing turns but the count of draws. -/
theorem eqBytes_same (w : World) (a a' : Option Addr) (n c c' : Nat) (f : Nat → Int) (hn : n ≤ 1048576) (h : IsSl w a n c (fun i => .int .u8 (f i))) (h' : IsSl w a' n c' (fun i => .int .u8 (f i))) :
    Calls Efwg.prog 29 #[.slice a n c, .slice a' n c'] w fun e w' => e = .returned (.bool true) ∧ w.grownBy w' none := by
  go_enter Efwg.func29, Efwg.ntmps29
  go_wp2
  go_loopw [5] (fun i wr => ∃ k : Nat, k ≤ n ∧ i = .int .i64 k ∧ w.grownBy wr none) (fun i _ => n - (intOf i).toNat)
  case atStart => exact ⟨0, Nat.zero_le _, rfl, World.grownBy.refl _ _⟩
  case round =>
    obtain ⟨k, hk, rfl, hg⟩ := hrel
    by_cases hlt : k < n
    · obtain ⟨b, o, rfl, _, hx⟩ := h.at (by omega)
      obtain ⟨b', o', rfl, _, hy⟩ := h'.at (by omega)
      have hxk := cell_grown hg (hx k hlt) (by simp)
      have hyk := cell_grown hg (hy k hlt) (by simp)
      have hlti : (k : Int) < (n : Int) := by omega
      have hk0 : (0 : Int) ≤ (k : Int) := by omega
      clear hx hy h h'
      go_wp2
      go_quiet (fail)
      go_wp2
      go_roundw
      case rel => exact ⟨k + 1, by omega, by go_num, hg.trans (grown_drewN _ _ _)⟩
      case measure => simp [intOf]; omega
    · go_wp2
      go_ret
      exact ⟨rfl, hg⟩

set_option maxHeartbeats 400000 in
theorem tagBytes_any (w : World) (i : Int) (h0 : 0 ≤ i) (hi : i < 65536) :
    Calls Efwg.prog 16 #[.int .i64 i] w fun e w' => e = .returned (.slice (some ⟨w.heap.size, 0, none⟩) 3 3) ∧ w' = w.alloc (.cells #[.int .u8 (i % 256), .int .u8 (i / 256), .int .u8 90] 5) := by
  go_enter Efwg.func16, Efwg.ntmps16
  go_wp2
  go_ret
  exact ⟨rfl, rfl⟩

/-- The three bytes of the tag i. -/
def tagF (i : Int) (j : Nat) : Int := if j = 0 then i % 256 else if j = 1 then i / 256 else 90

theorem tagBytes_ex (w : World) (i : Int) (h0 : 0 ≤ i) (hi : i < 65536) :
    Calls Efwg.prog 16 #[.int .i64 i] w fun e w' => ∃ a, e = .returned (.slice (some a) 3 3) ∧ IsSl w' (some a) 3 3 (fun j => .int .u8 (tagF i j)) ∧ w.grownBy w' none ∧ w.heap.size ≤ a.block := by
  refine (tagBytes_any w i h0 hi).mono fun e w' ⟨he, hw⟩ => ⟨_, he, ?_, hw ▸ World.grownBy_alloc _ _ _, Nat.le_refl _⟩
  refine .inr ⟨_, rfl, Nat.le_refl _, fun j hj => ?_⟩
  rw [hw]
  have e1 : (⟨w.heap.size, 0, none⟩ : Addr).add j = ⟨w.heap.size, j, none⟩ := by
    unfold Addr.add
    split
    · rename_i e; subst e; rfl
    · simp
  rw [e1, World.cell?_alloc_new]
  match j, hj with
  | 0, _ => rfl
  | 1, _ => rfl
  | 2, _ => rfl

end Go.Proofs.Yoefww
