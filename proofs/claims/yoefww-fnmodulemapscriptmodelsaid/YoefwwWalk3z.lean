/-
  The walk of 'FnModuleMapScriptModel' at no names: the script's loop is left at its first round.
-/
import Derived.Test.YoefwwWalk3
namespace Go.Proofs.Yoefww
open Go.RowKit Go.Maps

set_option maxRecDepth 100000 in
set_option maxHeartbeats 2000000 in
theorem walk3_zero (w : World) (a : Option Addr) (c : Nat) (f : Nat → ByteArray) (h : IsSl w a 0 c (fun i => .string (f i)))
    (a' : Option Addr) (n' c' : Nat) (f' : Nat → Int) (hn' : n' ≤ maxLen) (h' : IsSl w a' n' c' (fun i => .int .u32 (f' i))) :
    Calls Efwg.prog 3 #[.slice a 0 c, .slice a' n' c'] w fun e w' => e = .returned (.bool true) ∧ Below w.heap.size w w' := by
  have hsz0 : Maps.size (DataW.map [] : DataW Value) = 0 := rfl
  go_enter Efwg.func3, Efwg.ntmps3
  go_wp2_with fail
  refine (zz9_any _ a' n' c' hn' a 0 c f (Nat.zero_le _) (fun i hi => by omega) h).mono ?_
  rintro e w0 ⟨⟨b, rfl, hb⟩, rfl⟩
  cases b with
  | false =>
    go_wp2_with fail
    go_ret
    exact ⟨rfl, Below.refl _ _⟩
  | true =>
    obtain ⟨hb1, hb2⟩ := hb rfl
    clear hb hn'
    by_cases hbig' : n' ≤ 4096
    · have hd' : decide ((4096 : Int) < (n' : Int)) = false := decide_eq_false (by omega)
      go_wp2_with fail
      refine (namesBytes_any _ a 0 c f (Nat.zero_le _) h).mono ?_
      rintro e w1 ⟨z, rfl, rfl⟩
      by_cases hzz : (1048576 : Int) < wrap64 (z + 4 * (n' : Int))
      · go_wp2_with fail
        go_ret
        exact ⟨rfl, Below.refl _ _⟩
      · have hd2 : decide ((1048576 : Int) < wrap64 (z + 4 * (n' : Int))) = false := decide_eq_false hzz
        go_wp2_with fail
        refine (cloneStrings_any _ a 0 c f (Nat.zero_le _) h).mono ?_
        rintro e w2 ⟨a1, rfl, hs1, -, hg1, -⟩
        have h'1 := h'.grown hg1 (by simp)
        clear h h'
        go_wp2_with fail
        refine (cloneUint32s_any _ a' n' c' f' hb2 h'1).mono ?_
        rintro e w3 ⟨a2, rfl, hs2, -, hg2, -⟩
        have hbel : Below w1.heap.size w1 w3 := below_none (below_none (Below.refl _ _) hg1 (Nat.le_refl _)) hg2 hg1.size
        clear hs1 h'1 hs2 hg1 hg2
        go_wp2_with fail
        refine (new_ex _).mono ?_
        rintro e w4 ⟨p, mb, rfl, hm4, hg4, hp, hmb⟩
        have hfin : Below w1.heap.size w1 w4 := below_none hbel hg4 hbel.size
        clear hg4 hbel
        by_cases hn0 : n' = 0
        · subst hn0
          go_wp2_with fail
          refine wp_loop_rounds 1 ?_
          rw [rounds_succ]
          go_wp2_with fail
          refine wp_loop_rounds 1 ?_
          rw [rounds_succ]
          go_wp2_with fail
          refine (len_any hm4).mono ?_
          rintro e w5 ⟨rfl, rfl⟩
          go_wp2_with fail
          refine wp_loop_rounds 1 ?_
          rw [rounds_succ]
          go_wp2_with fail
          go_ret
          exact ⟨rfl, hfin⟩
        · have hn1 : (0 : Int) < (n' : Int) := by omega
          go_wp2_with fail
          refine wp_loop_rounds 1 ?_
          rw [rounds_succ]
          go_wp2_with fail
          refine wp_loop_rounds 1 ?_
          rw [rounds_succ]
          go_wp2_with fail
          refine (len_any hm4).mono ?_
          rintro e w5 ⟨rfl, rfl⟩
          go_wp2_with fail
          refine wp_loop_rounds 1 ?_
          rw [rounds_succ]
          go_wp2_with fail
          go_ret
          exact ⟨rfl, hfin⟩
    · have hd' : decide ((4096 : Int) < (n' : Int)) = true := decide_eq_true (by omega)
      go_wp2_with fail
      go_ret
      exact ⟨rfl, Below.refl _ _⟩

/-- Every script. -/
theorem walk3 (w : World) (a : Option Addr) (n c : Nat) (f : Nat → ByteArray) (hn : n ≤ maxLen) (hf : ∀ i, i < n → (f i).size ≤ maxLen) (h : IsSl w a n c (fun i => .string (f i)))
    (a' : Option Addr) (n' c' : Nat) (f' : Nat → Int) (hn' : n' ≤ maxLen) (hf' : ∀ i, i < n' → 0 ≤ f' i ∧ f' i ≤ 4294967295) (h' : IsSl w a' n' c' (fun i => .int .u32 (f' i))) :
    Calls Efwg.prog 3 #[.slice a n c, .slice a' n' c'] w fun e w' => e = .returned (.bool true) ∧ Below w.heap.size w w' := by
  rcases Nat.eq_zero_or_pos n with rfl | hpos
  · exact walk3_zero w a c f h a' n' c' f' hn' h'
  · exact walk3_pos w a n c f hn hf h a' n' c' f' hn' hf' h' hpos

end Go.Proofs.Yoefww
