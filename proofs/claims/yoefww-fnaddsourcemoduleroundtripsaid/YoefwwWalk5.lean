/-
  The walk of 'FnNewModuleMapIndependent'.
-/
import Derived.Test.YoefwwEq
namespace Go.Proofs.Yoefww
open Go.RowKit Go.Maps

set_option maxHeartbeats 1000000 in
theorem zz27_any (s : ByteArray) (a2 : Option Addr) (n2 c2 : Nat) (w : World) (hs : s.size ≤ maxLen) (h2 : n2 ≤ maxLen) :
    Calls Efwg.prog 27 #[.string s, .slice a2 n2 c2] w fun e w' => ∃ b : Bool, e = .returned (.bool b) ∧ (b = true → s.size + n2 ≤ 1048576) ∧ w' = w := by
  unfold maxLen at hs h2
  go_enter Efwg.func27, Efwg.ntmps27
  go_wp2
  all_goals
    go_ret
    exact ⟨_, rfl, (fun h => by first | omega | cases h), rfl⟩

theorem one {w : World} {p mb n : Nat} {s : ByteArray} {v : Value} (h : MM w p mb n ((DataW.map []).put (key s) (.held v))) :
    ∃ D, MM w p mb n D ∧ D.atKey (key s) (.held .nilIface) = .held v ∧ Maps.size D = 1 ∧ has D (key s) = true := by
  have m0 : Tidy (DataW.map [] : DataW Value) := tidy_empty
  refine ⟨_, h, atKey_put_same m0.isMap (key_isKey s) _ _, ?_, has_put_same m0.isMap (key_isKey s) _⟩
  rw [size_put m0]; rfl

set_option maxHeartbeats 1000000 in
theorem walk5 (s : ByteArray) (a : Option Addr) (n c : Nat) (f : Nat → Int) (w : World) (hs : s.size ≤ maxLen) (h2 : n ≤ maxLen) (h : IsSl w a n c (fun i => .int .u8 (f i))) :
    Calls Efwg.prog 5 #[.string s, .slice a n c] w fun e w' => e = .returned (.bool true) ∧ Below w.heap.size w w' := by
  have q1 := neq40
  have q2 := fun w a n c => Lib.run_eql_slice_nil (P := Efwg.prog) w 35 5 a n c 0 0 Efwg.underlying35
  have hsz0 : Maps.size (DataW.map [] : DataW Value) = 0 := rfl
  go_enter Efwg.func5, Efwg.ntmps5
  go_wp2_with fail
  refine (zz27_any s a n c _ hs h2).mono ?_
  rintro e w0 ⟨b, rfl, hb, rfl⟩
  cases b with
  | false =>
    go_wp2_with fail
    go_ret
    exact ⟨rfl, Below.refl _ _⟩
  | true =>
    have hb1 := hb rfl
    clear hb
    go_wp2_with fail
    refine (cloneBytes_any _ a n c f (by omega) h).mono ?_
    rintro e w1 ⟨a1, rfl, hs1, -, hg1, -⟩
    clear h
    go_wp2_with fail
    refine (cloneBytes_any _ a1 n n f (by omega) hs1).mono ?_
    rintro e w2 ⟨a2, rfl, hs2, hn2, hg2, -⟩
    have hs1' := hs1.grown hg2 (by simp)
    have hbel : Below w0.heap.size w0 w2 := below_none (below_none (Below.refl _ _) hg1 (Nat.le_refl _)) hg2 hg1.size
    have hz2 := hbel.size
    clear hs1 hg1 hg2
    go_wp2_with fail
    refine (new_ex _).mono ?_
    rintro e w3 ⟨p, mb, rfl, hm3, hg3, hp, hmb⟩
    go_wp2_with fail
    refine (new_ex _).mono ?_
    rintro e w4 ⟨p', mb', rfl, hm4', hg4, hp', hmb'⟩
    have hm4 := hm3.kept hg4 (by simp) (by simp)
    have hpl := hm3.ltp
    have hml := hm3.ltm
    have hpl' := hm4'.ltp
    have hml' := hm4'.ltm
    have z3 := hg3.size
    have z4 := hg4.size
    have hB4 : Below w2.heap.size w2 w4 := below_none (below_none (Below.refl _ _) hg3 (Nat.le_refl _)) hg4 z3
    clear hm3 hg3 hg4
    go_wp2_with fail
    refine (addSource_any hm4 s hs (by decide) _ _ _).mono ?_
    rintro e w5 ⟨rfl, hm5, hc5, hg5, -⟩
    have hm5' := hm4'.kept hg5 (by simp; omega) (by simp; omega)
    have hB5 := below_row hB4 hg5 (by omega) hmb
    have z5 := hg5.size
    obtain ⟨D, hm, hat, hsz, -⟩ := one hm5
    clear hm5 hm4 hm4' hg5 hB4
    go_wp2_with fail
    refine (getSource_src hm s hs _ hat).mono ?_
    rintro e w6 ⟨rfl, rfl⟩
    go_wp2_with fail
    refine (len_any hm).mono ?_
    rintro e w6 ⟨rfl, rfl⟩
    go_wp2_with fail
    refine (len_any hm5').mono ?_
    rintro e w6 ⟨rfl, rfl⟩
    go_wp2_with fail
    refine (get_any hm5' s hs .nilIface rfl).mono ?_
    rintro e w6 ⟨rfl, rfl⟩
    go_wp2_with fail
    refine (addBuiltin_any hm5' s hs (by decide) none).mono ?_
    rintro e w7 ⟨rfl, hm7', -, hg7, -⟩
    have hm7 := hm.kept hg7 (by simp; omega) (by simp; omega)
    have hc7 := cell_grown hg7 hc5 (by simp; omega)
    have hB7 := below_row hB5 hg7 (by omega) (by omega)
    have z7 := hg7.size
    obtain ⟨D', hm', hat', hsz', -⟩ := one hm7'
    clear hm7' hm5' hm hc5 hB5 hg7
    go_wp2_with fail
    refine (getSource_src hm7 s hs _ hat).mono ?_
    rintro e w8 ⟨rfl, rfl⟩
    go_wp2_with fail
    refine (getBuiltin_not hm7 s hs _ hat (.inr ⟨_, rfl⟩)).mono ?_
    rintro e w8 ⟨rfl, rfl⟩
    go_wp2_with fail
    refine (len_any hm7).mono ?_
    rintro e w8 ⟨rfl, rfl⟩
    go_wp2_with fail
    refine (eqBytes_same _ a1 a2 n n n f (by omega) (hs1'.below hB7) (hs2.below hB7)).mono ?_
    rintro e w9 ⟨rfl, hg9⟩
    have hm9 := hm'.kept hg9 (by simp) (by simp)
    have hB9 := below_none hB7 hg9 (by omega)
    clear hm' hm7 hc7 hB7 hs1' hs2 hg9
    go_wp2_with fail
    refine (getBuiltin_bi hm9 s hs _ hat').mono ?_
    rintro e w10 ⟨rfl, rfl⟩
    go_wp2_with fail
    refine (getSource_not hm9 s hs _ hat' (.inr ⟨_, rfl⟩)).mono ?_
    rintro e w10 ⟨rfl, rfl⟩
    go_wp2_with fail
    refine (len_any hm9).mono ?_
    rintro e w10 ⟨rfl, rfl⟩
    go_wp2_with fail
    go_ret
    exact ⟨rfl, hbel.trans (hB9.mono hz2)⟩

end Go.Proofs.Yoefww
