/-
  FUNCTIONS THAT READ A SLICE OF STRINGS: namesBytes, the three bounds on total length, findKey.
-/
import Derived.Test.YoefwwClone
namespace Go.Proofs.Yoefww
open Go.RowKit Go.Maps

set_option maxHeartbeats 400000 in
/-- 'namesBytes(names)': some number; nothing turns. -/
theorem namesBytes_any (w : World) (a : Option Addr) (n c : Nat) (f : Nat → ByteArray) (hn : n ≤ 1048576) (h : IsSl w a n c (fun i => .string (f i))) :
    Calls Efwg.prog 10 #[.slice a n c] w fun e w' => ∃ z : Int, e = .returned (.int .i64 z) ∧ w' = w := by
  go_enter Efwg.func10, Efwg.ntmps10
  go_wp2
  go_loop [3, 4] (fun t i => ∃ (k : Nat) (z : Int), k ≤ n ∧ i = .int .i64 k ∧ t = .int .i64 z) (fun _ i => n - (intOf i).toNat)
  case atStart => exact ⟨0, _, Nat.zero_le _, rfl, rfl⟩
  case round =>
    obtain ⟨k, z, hk, rfl, rfl⟩ := hrel
    by_cases hlt : k < n
    · obtain ⟨b, o, rfl, _, hx⟩ := h.at (by omega)
      have hxk := hx k hlt
      clear hx h
      go_wp2
      go_round
      case rel => exact ⟨k + 1, _, by omega, by go_num, rfl⟩
      case measure => simp [intOf]; omega
    · go_wp2
      go_ret
      exact ⟨⟨_, rfl⟩, rfl⟩

/-- It answers a bool; if it is true, q. -/
def SaidB (q : Prop) (e : Ending) : Prop := ∃ b : Bool, e = .returned (.bool b) ∧ (b = true → q)
theorem saidB_no {q : Prop} : SaidB q (.returned (.bool false)) := ⟨false, rfl, fun h => by cases h⟩
theorem saidB_yes {q : Prop} (h : q) : SaidB q (.returned (.bool true)) := ⟨true, rfl, fun _ => h⟩

set_option maxHeartbeats 1000000 in
theorem zz22_any (w : World) (a : Option Addr) (n c : Nat) (f : Nat → ByteArray) (hn : n ≤ maxLen) (hf : ∀ i, i < n → (f i).size ≤ maxLen) (h : IsSl w a n c (fun i => .string (f i))) :
    Calls Efwg.prog 22 #[.slice a n c] w fun e w' => SaidB (n ≤ 1048576) e ∧ w' = w := by
  unfold maxLen at hn 
  by_cases hbig : n ≤ 1048576
  · go_enter Efwg.func22, Efwg.ntmps22
    go_wp2
    go_loop [3, 4] (fun t i => ∃ (k : Nat) (z : Int), k ≤ n ∧ i = .int .i64 k ∧ t = .int .i64 z) (fun _ i => n - (intOf i).toNat)
    case atStart => exact ⟨0, _, Nat.zero_le _, rfl, rfl⟩
    case round =>
      obtain ⟨k, z, hk, rfl, rfl⟩ := hrel
      by_cases hlt : k < n
      · obtain ⟨b, o, rfl, _, hx⟩ := h.at (by omega)
        have hxk := hx k hlt
        have hfk := hf k hlt
        unfold maxLen at hfk
        clear hx h hf
        go_wp2
        · go_ret
          exact ⟨saidB_no, rfl⟩
        · go_ret
          exact ⟨saidB_no, rfl⟩
        · go_round
          case rel => exact ⟨k + 1, _, by omega, by go_num, rfl⟩
          case measure => simp [intOf]; omega
      · go_wp2
        all_goals
          go_ret
          first | exact ⟨saidB_no, rfl⟩ | exact ⟨saidB_yes (by omega), rfl⟩
  · go_enter Efwg.func22, Efwg.ntmps22
    go_wp2
    go_ret
    exact ⟨saidB_no, rfl⟩

set_option maxHeartbeats 1000000 in
theorem zz31_any (w : World) (s : ByteArray) (a : Option Addr) (n c : Nat) (f : Nat → ByteArray) (hn : n ≤ maxLen) (hf : ∀ i, i < n → (f i).size ≤ maxLen) (h : IsSl w a n c (fun i => .string (f i))) :
    Calls Efwg.prog 31 #[.slice a n c, .string s] w fun e w' => SaidB (n ≤ 1048576) e ∧ w' = w := by
  unfold maxLen at hn
  by_cases hbig : n ≤ 1048576
  · go_enter Efwg.func31, Efwg.ntmps31
    go_wp2
    go_loop [5, 6] (fun t i => ∃ (k : Nat) (z : Int), k ≤ n ∧ i = .int .i64 k ∧ t = .int .i64 z) (fun _ i => n - (intOf i).toNat)
    case atStart => exact ⟨0, _, Nat.zero_le _, rfl, rfl⟩
    case round =>
      obtain ⟨k, z, hk, rfl, rfl⟩ := hrel
      by_cases hlt : k < n
      · obtain ⟨b, o, rfl, _, hx⟩ := h.at (by omega)
        have hxk := hx k hlt
        have hfk := hf k hlt
        unfold maxLen at hfk
        clear hx h hf
        go_wp2
        · go_ret
          exact ⟨saidB_no, rfl⟩
        · go_ret
          exact ⟨saidB_no, rfl⟩
        · go_round
          case rel => exact ⟨k + 1, _, by omega, by go_num, rfl⟩
          case measure => simp [intOf]; omega
      · go_wp2
        all_goals
          go_ret
          first | exact ⟨saidB_no, rfl⟩ | exact ⟨saidB_yes (by omega), rfl⟩
  · go_enter Efwg.func31, Efwg.ntmps31
    go_wp2
    go_ret
    exact ⟨saidB_no, rfl⟩

set_option maxHeartbeats 1000000 in
theorem zz9_any (w : World) (a' : Option Addr) (n' c' : Nat) (hn' : n' ≤ maxLen) (a : Option Addr) (n c : Nat) (f : Nat → ByteArray) (hn : n ≤ maxLen) (hf : ∀ i, i < n → (f i).size ≤ maxLen) (h : IsSl w a n c (fun i => .string (f i))) :
    Calls Efwg.prog 9 #[.slice a n c, .slice a' n' c'] w fun e w' => SaidB (n ≤ 1048576 ∧ n' ≤ 1048576) e ∧ w' = w := by
  unfold maxLen at hn hn'
  by_cases hbig : n ≤ 1048576
  · go_enter Efwg.func9, Efwg.ntmps9
    go_wp2
    go_loop [5, 6] (fun t i => ∃ (k : Nat) (z : Int), k ≤ n ∧ i = .int .i64 k ∧ t = .int .i64 z) (fun _ i => n - (intOf i).toNat)
    case atStart => exact ⟨0, _, Nat.zero_le _, rfl, rfl⟩
    case round =>
      obtain ⟨k, z, hk, rfl, rfl⟩ := hrel
      by_cases hlt : k < n
      · obtain ⟨b, o, rfl, _, hx⟩ := h.at (by omega)
        have hxk := hx k hlt
        have hfk := hf k hlt
        unfold maxLen at hfk
        clear hx h hf
        go_wp2
        · go_ret
          exact ⟨saidB_no, rfl⟩
        · go_ret
          exact ⟨saidB_no, rfl⟩
        · go_round
          case rel => exact ⟨k + 1, _, by omega, by go_num, rfl⟩
          case measure => simp [intOf]; omega
      · go_wp2
        all_goals
          go_ret
          first | exact ⟨saidB_no, rfl⟩ | exact ⟨saidB_yes (by omega), rfl⟩
  · go_enter Efwg.func9, Efwg.ntmps9
    go_wp2
    go_ret
    exact ⟨saidB_no, rfl⟩

end Go.Proofs.Yoefww
