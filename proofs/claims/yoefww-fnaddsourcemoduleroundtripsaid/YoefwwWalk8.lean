/-
  The walk of 'FnAddSourceModuleRoundTrip'.
-/
import Derived.Test.YoefwwWalk5
import Derived.Test.YoefwwCopy
namespace Go.Proofs.Yoefww
open Go.RowKit Go.Maps

set_option maxHeartbeats 1000000 in
theorem zz32_any (s : ByteArray) (a2 : Option Addr) (n2 c2 : Nat) (w : World) (hs : s.size ≤ maxLen) (h2 : n2 ≤ maxLen) :
    Calls Efwg.prog 32 #[.string s, .slice a2 n2 c2] w fun e w' => ∃ b : Bool, e = .returned (.bool b) ∧ (b = true → s.size + n2 ≤ 1048576) ∧ w' = w := by
  unfold maxLen at hs h2
  go_enter Efwg.func32, Efwg.ntmps32
  go_wp2
  all_goals
    go_ret
    exact ⟨_, rfl, (fun h => by first | omega | cases h), rfl⟩

/-- One entry, overwritten and removed: none. -/
theorem one_off {w : World} {p mb n : Nat} {D : DataW Value} {s : ByteArray} {v : Value} (ht : Tidy D) (hsz : Maps.size D = 1) (hh : has D (key s) = true) (h : MM w p mb n ((D.put (key s) (.held v)).del (key s))) :
    ∃ D', MM w p mb n D' ∧ Maps.size D' = 0 := by
  refine ⟨_, h, ?_⟩
  have h1 := size_del (k := key s) (ht.put (key_isKey s) (.held v))
  rw [has_put_same ht.isMap (key_isKey s), size_put ht, hh] at h1
  simp at h1
  omega

set_option maxHeartbeats 1000000 in
theorem walk8 (s : ByteArray) (a : Option Addr) (n c : Nat) (f : Nat → Int) (w : World) (hs : s.size ≤ maxLen) (h2 : n ≤ maxLen) (h : IsSl w a n c (fun i => .int .u8 (f i))) :
    Calls Efwg.prog 8 #[.string s, .slice a n c] w fun e w' => e = .returned (.bool true) ∧ Below w.heap.size w w' := by
  have q1 := neq40
  have q2 := fun w a n c => Lib.run_eql_slice_nil (P := Efwg.prog) w 35 5 a n c 0 0 Efwg.underlying35
  go_enter Efwg.func8, Efwg.ntmps8
  go_wp2_with fail
  refine (zz32_any s a n c _ hs h2).mono ?_
  rintro e w0 ⟨b, rfl, hb, rfl⟩
  cases b with
  | false =>
    go_wp2_with fail
    go_ret
    exact ⟨rfl, Below.refl _ _⟩
  | true =>
    have hb1 := hb rfl
    clear hb
    go_wp2_with fail
    refine (cloneBytes_any _ a n c f (by omega) h).mono ?_
    rintro e w1 ⟨a1, rfl, hs1, -, hg1, -⟩
    clear h
    go_wp2_with fail
    refine (cloneBytes_any _ a1 n n f (by omega) hs1).mono ?_
    rintro e w2 ⟨a2, rfl, hs2, hn2, hg2, -⟩
    have hs1' := hs1.grown hg2 (by simp)
    have hbel : Below w0.heap.size w0 w2 := below_none (below_none (Below.refl _ _) hg1 (Nat.le_refl _)) hg2 hg1.size
    have hz2 := hbel.size
    clear hs1 hg1 hg2
    go_wp2_with fail
    refine (new_ex _).mono ?_
    rintro e w4 ⟨p, mb, rfl, hm4, hg4, hp, hmb⟩
    have hpl := hm4.ltp
    have hml := hm4.ltm
    have z4 := hg4.size
    have hB4 : Below w2.heap.size w2 w4 := below_none (Below.refl _ _) hg4 (Nat.le_refl _)
    clear hg4
    go_wp2_with fail
    refine (addSource_any hm4 s hs (by decide) _ _ _).mono ?_
    rintro e w5 ⟨rfl, hm5, hc5, hg5, -⟩
    have hB5 := below_row hB4 hg5 (by omega) hmb
    have z5 := hg5.size
    have hcl := cell_lt hc5
    obtain ⟨D, hm, hat, hsz, hhas⟩ := one hm5
    clear hm5 hm4 hg5 hB4
    go_wp2_with fail
    refine (getSource_src hm s hs _ hat).mono ?_
    rintro e w6 ⟨rfl, rfl⟩
    go_wp2_with fail
    refine (getBuiltin_not hm s hs _ hat (.inr ⟨_, rfl⟩)).mono ?_
    rintro e w6 ⟨rfl, rfl⟩
    go_wp2_with fail
    refine (len_any hm).mono ?_
    rintro e w6 ⟨rfl, rfl⟩
    go_wp2_with fail
    refine (eqBytes_same _ a1 a2 n n n f (by omega) (hs1'.below hB5) (hs2.below hB5)).mono ?_
    rintro e w7 ⟨rfl, hg7⟩
    have hm7 := hm.kept hg7 (by simp) (by simp)
    have hB7 := below_none hB5 hg7 (by omega)
    have hc7 := cell_grown hg7 hc5 (by simp)
    have z7 := hg7.size
    clear hm hB5 hc5 hg7
    go_wp2_with fail
    refine (copy_ex hm7 (by decide)).mono ?_
    rintro e w8 ⟨p', mb', rfl, hm8', hg8, hp', hmb'⟩
    have hm8 := hm7.kept hg8 (by simp) (by simp)
    have hB8 := below_none hB7 hg8 (by omega)
    have hc8 := cell_grown hg8 hc7 (by simp)
    have z8 := hg8.size
    have hpl8 := hm8'.ltp
    have hml8 := hm8'.ltm
    have htd := hm8.tidy
    have hcl7 : w4.heap.size < w7.heap.size := Nat.lt_of_lt_of_le hcl z7
    clear hm7 hB7 hc7 hg8
    go_wp2_with fail
    refine (len_any hm8').mono ?_
    rintro e w9 ⟨rfl, rfl⟩
    go_wp2_with fail
    refine (getSource_src hm8' s hs _ hat).mono ?_
    rintro e w9 ⟨rfl, rfl⟩
    go_wp2_with fail
    refine (tagBytes_ex _ 7 (by decide) (by decide)).mono ?_
    rintro e w10 ⟨ta, rfl, -, hg10, -⟩
    have hm10 := hm8.kept hg10 (by simp) (by simp)
    have hm10' := hm8'.kept hg10 (by simp) (by simp)
    have hB10 := below_none hB8 hg10 (by omega)
    have hc10 := cell_grown hg10 hc8 (by simp)
    have z10 := hg10.size
    clear hm8 hm8' hB8 hc8 hg10
    go_wp2_with fail
    refine (addSource_any hm10' s hs (by decide) _ _ _).mono ?_
    rintro e w11 ⟨rfl, hm11', -, hg11, -⟩
    have hm11 := hm10.kept hg11 (by simp; omega) (by simp; omega)
    have hB11 := below_row hB10 hg11 (by omega) (by omega)
    have hc11 := cell_grown hg11 hc10 (by simp; omega)
    have z11 := hg11.size
    clear hm10 hm10' hB10 hc10 hg11
    go_wp2_with fail
    refine (getSource_src hm11 s hs _ hat).mono ?_
    rintro e w12 ⟨rfl, rfl⟩
    go_wp2_with fail
    refine (getSource_src hm11 s hs _ hat).mono ?_
    rintro e w12 ⟨rfl, rfl⟩
    go_wp2_with fail
    refine (eqBytes_same _ a1 a2 n n n f (by omega) (hs1'.below hB11) (hs2.below hB11)).mono ?_
    rintro e w13 ⟨rfl, hg13⟩
    have hm13 := hm11.kept hg13 (by simp) (by simp)
    have hm13' := hm11'.kept hg13 (by simp) (by simp)
    have hB13 := below_none hB11 hg13 (by omega)
    have z13 := hg13.size
    clear hm11 hm11' hB11 hc11 hg13
    go_wp2_with fail
    refine (remove_any hm13' s hs).mono ?_
    rintro e w14 ⟨rfl, hm14', hg14, -⟩
    have hm14 := hm13.kept hg14 (by simp; omega) (by simp; omega)
    have hB14 := below_row hB13 hg14 (by omega) (by omega)
    obtain ⟨D', hm', hsz'⟩ := one_off htd hsz hhas hm14'
    clear hm13 hm13' hm14' hB13 hg14
    go_wp2_with fail
    refine (len_any hm14).mono ?_
    rintro e w15 ⟨rfl, rfl⟩
    go_wp2_with fail
    refine (len_any hm').mono ?_
    rintro e w15 ⟨rfl, rfl⟩
    go_wp2_with fail
    go_ret
    exact ⟨rfl, hbel.trans (hB14.mono hz2)⟩

end Go.Proofs.Yoefww
