/-
  'findKey(keys, s)': the first place at which s stands, or -1.
-/
import Derived.Test.YoefwwNames
namespace Go.Proofs.Yoefww
open Go.RowKit Go.Maps

theorem toList_ne {s t : ByteArray} (h : s ≠ t) : (s.toList == t.toList) = false := by
  rw [beq_eq_false_iff_ne]
  intro e
  apply h
  rw [ByteArray.toList_eq, ByteArray.toList_eq] at e
  exact WideShapes.bytes_inj e

set_option maxHeartbeats 400000 in
theorem findKey_no (w : World) (a : Option Addr) (n c : Nat) (f : Nat → ByteArray) (s : ByteArray) (hn : n ≤ 1048576) (h : IsSl w a n c (fun i => .string (f i))) (hf : ∀ i, i < n → f i ≠ s) :
    Calls Efwg.prog 14 #[.slice a n c, .string s] w fun e w' => e = .returned (.int .i64 (-1)) ∧ w' = w := by
  go_enter Efwg.func14, Efwg.ntmps14
  go_wp2
  go_loop [5] (fun i => ∃ k : Nat, k ≤ n ∧ i = .int .i64 k) (fun i => n - (intOf i).toNat)
  case atStart => exact ⟨0, Nat.zero_le _, rfl⟩
  case round =>
    obtain ⟨k, hk, rfl⟩ := hrel
    by_cases hlt : k < n
    · obtain ⟨b, o, rfl, _, hx⟩ := h.at (by omega)
      have hxk := hx k hlt
      have hne := toList_ne (hf k hlt)
      clear hx h hf
      go_wp2
      go_round
      case rel => exact ⟨k + 1, by omega, by go_num⟩
      case measure => simp [intOf]; omega
    · go_wp2
      go_ret
      exact ⟨rfl, rfl⟩

set_option maxHeartbeats 400000 in
theorem findKey_at (w : World) (a : Option Addr) (n c : Nat) (f : Nat → ByteArray) (s : ByteArray) (hn : n ≤ 1048576) (h : IsSl w a n c (fun i => .string (f i))) (j : Nat) (hj : j < n) (hfj : f j = s) (hf : ∀ i, i < j → f i ≠ s) :
    Calls Efwg.prog 14 #[.slice a n c, .string s] w fun e w' => e = .returned (.int .i64 j) ∧ w' = w := by
  obtain ⟨b, o, rfl, _, hx⟩ := h.at (by omega)
  clear h
  have Hj : Hid (f j = s) := hfj
  clear hfj
  go_enter Efwg.func14, Efwg.ntmps14
  go_wp2
  go_loop [5] (fun i => ∃ k : Nat, k ≤ j ∧ i = .int .i64 k) (fun i => n - (intOf i).toNat)
  case atStart => exact ⟨0, Nat.zero_le _, rfl⟩
  case round =>
    obtain ⟨k, hk, rfl⟩ := hrel
    have hlt : k < n := by omega
    have hxk := hx k hlt
    by_cases hkj : k < j
    · have hne := toList_ne (hf k hkj)
      clear hx hf
      go_wp2
      go_round
      case rel => exact ⟨k + 1, by omega, by go_num⟩
      case measure => simp [intOf]; omega
    · obtain rfl : k = j := by omega
      rw [Hj.out] at hxk
      clear hx hf
      go_wp2
      go_ret
      exact ⟨rfl, rfl⟩

/-- s stands nowhere in the list, or it has a first place. -/
theorem first_place (l : List ByteArray) (s : ByteArray) : (s ∉ l ∧ ∀ i, i < l.length → l.getD i ByteArray.empty ≠ s) ∨ (s ∈ l ∧ ∃ j, j < l.length ∧ l.getD j ByteArray.empty = s ∧ ∀ i, i < j → l.getD i ByteArray.empty ≠ s) := by
  induction l with
  | nil => exact .inl ⟨by simp, by simp⟩
  | cons x r ih =>
    by_cases hx : x = s
    · subst hx
      exact .inr ⟨by simp, 0, by simp, rfl, fun i hi => by omega⟩
    · rcases ih with ⟨h1, h2⟩ | ⟨h1, j, h2, h3, h4⟩
      · refine .inl ⟨by simp [h1, Ne.symm hx], fun i hi => ?_⟩
        cases i with
        | zero => exact hx
        | succ i => exact h2 i (by simpa using hi)
      · refine .inr ⟨by simp [h1], j + 1, by simpa using h2, h3, fun i hi => ?_⟩
        cases i with
        | zero => exact hx
        | succ i => exact h4 i (by omega)

end Go.Proofs.Yoefww
