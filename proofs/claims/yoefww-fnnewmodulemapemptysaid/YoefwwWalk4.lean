/-
  The walk of 'FnNewModuleMapEmpty'.
-/
import Derived.Test.YoefwwNames
import Derived.Test.YoefwwCopy
namespace Go.Proofs.Yoefww
open Go.RowKit Go.Maps

set_option maxHeartbeats 1000000 in
theorem walk4 (w : World) (a : Option Addr) (n c : Nat) (f : Nat → ByteArray) (hn : n ≤ maxLen) (hf : ∀ i, i < n → (f i).size ≤ maxLen) (h : IsSl w a n c (fun i => .string (f i))) :
    Calls Efwg.prog 4 #[.slice a n c] w fun e w' => e = .returned (.bool true) ∧ Below w.heap.size w w' := by
  have hsz0 : Maps.size (DataW.map [] : DataW Value) = 0 := rfl
  go_enter Efwg.func4, Efwg.ntmps4
  go_wp2_with fail
  refine (zz22_any _ a n c f hn hf h).mono ?_
  rintro e w0 ⟨⟨b, rfl, hb⟩, rfl⟩
  cases b with
  | false =>
    go_wp2_with fail
    go_ret
    exact ⟨rfl, Below.refl _ _⟩
  | true =>
    have hb1 := hb rfl
    clear hb hn
    by_cases hbig : n ≤ 4096
    · have hd : decide ((4096 : Int) < (n : Int)) = false := decide_eq_false (by omega)
      go_wp2_with fail
      refine (namesBytes_any _ a n c f hb1 h).mono ?_
      rintro e w1 ⟨z, rfl, rfl⟩
      by_cases hz : (1048576 : Int) < z
      · go_wp2_with fail
        go_ret
        exact ⟨rfl, Below.refl _ _⟩
      · go_wp2_with fail
        refine (cloneStrings_any _ a n c f hb1 h).mono ?_
        rintro e w2 ⟨a', rfl, hs2, -, hg2, -⟩
        go_wp2_with fail
        refine (new_ex _).mono ?_
        rintro e w3 ⟨p, mb, rfl, hm3, hg3, hp, hmb⟩
        go_wp2_with fail
        refine (len_any hm3).mono ?_
        rintro e w4 ⟨rfl, rfl⟩
        go_wp2_with fail
        refine (copy_any hm3 (by decide)).mono ?_
        rintro e w5 ⟨rfl, hm5, hg5⟩
        go_wp2_with fail
        refine (len_any hm5).mono ?_
        rintro e w6 ⟨rfl, rfl⟩
        have hm := hm3.kept hg5 (by simp) (by simp)
        have hs6 := (hs2.grown hg3 (by simp)).grown hg5 (by simp)
        have hat : ∀ s, (DataW.map [] : DataW Value).atKey (key s) (.held .nilIface) = .held .nilIface := fun _ => rfl
        have hbel : Below w1.heap.size w1 w6 := (((Below.refl _ _).grown hg2 (Nat.le_refl _) (by simp)).grown hg3 hg2.size (by simp)).grown hg5 (by have := hg2.size; have := hg3.size; omega) (by simp)
        have Hat : Hid (∀ s, (DataW.map [] : DataW Value).atKey (key s) (.held .nilIface) = .held .nilIface) := hat
        clear hm3 hm5 hg2 hg3 hg5 hp hmb hs2 h hat
        go_wp2_with fail
        go_loop [4] (fun i => ∃ k : Nat, k ≤ n ∧ i = .int .i64 k) (fun i => n - (intOf i).toNat)
        case atStart => exact ⟨0, Nat.zero_le _, rfl⟩
        case round =>
          obtain ⟨k, hk, rfl⟩ := hrel
          by_cases hlt : k < n
          · obtain ⟨b, o, rfl, _, hx⟩ := hs6.at (by omega)
            have hxk := hx k hlt
            have hfk := hf k hlt
            clear hx hs6 hf
            go_wp2_with fail
            refine (get_any hm (f k) hfk _ (Hat.out _)).mono ?_
            rintro e w7 ⟨rfl, rfl⟩
            go_wp2_with fail
            refine (getSource_not hm (f k) hfk _ (Hat.out _) (.inl rfl)).mono ?_
            rintro e w8 ⟨rfl, rfl⟩
            go_wp2_with fail
            refine (getBuiltin_not hm (f k) hfk _ (Hat.out _) (.inl rfl)).mono ?_
            rintro e w9 ⟨rfl, rfl⟩
            go_wp2_with fail
            go_round
            case rel => exact ⟨k + 1, by omega, by go_num⟩
            case measure => simp [intOf]; omega
          · go_wp2_with fail
            go_ret
            exact ⟨rfl, hbel⟩
    · have hd : decide ((4096 : Int) < (n : Int)) = true := decide_eq_true (by omega)
      go_wp2_with fail
      go_ret
      exact ⟨rfl, Below.refl _ _⟩

end Go.Proofs.Yoefww
