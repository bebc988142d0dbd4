/-
  'zzBytes_FnAddLastWriterWins' and the walk of 'FnAddLastWriterWins'.
-/
import Derived.Test.YoefwwClone
namespace Go.Proofs.Yoefww
open Go.RowKit Go.Maps

set_option maxHeartbeats 1000000 in
theorem zz30_any (s t : ByteArray) (a2 : Option Addr) (n2 c2 : Nat) (a3 : Option Addr) (n3 c3 : Nat) (w : World) (hs : s.size ≤ maxLen) (ht : t.size ≤ maxLen) (h2 : n2 ≤ maxLen) (h3 : n3 ≤ maxLen) :
    Calls Efwg.prog 30 #[.string s, .string t, .slice a2 n2 c2, .slice a3 n3 c3] w fun e w' => ∃ b : Bool, e = .returned (.bool b) ∧ (b = true → s.size + t.size + n2 + n3 ≤ 1048576) ∧ w' = w := by
  unfold maxLen at hs ht h2 h3
  go_enter Efwg.func30, Efwg.ntmps30
  go_wp2
  all_goals
    go_ret
    exact ⟨_, rfl, (fun h => by first | omega | cases h), rfl⟩


theorem lww {w : World} {p mb n : Nat} {s : ByteArray} {v1 v2 : Value} (h : MM w p mb n (((DataW.map []).put (key s) (.held v1)).put (key s) (.held v2))) :
    ∃ D, MM w p mb n D ∧ D.atKey (key s) (.held .nilIface) = .held v2 ∧ Maps.size D = 1 ∧ ∀ t, t ≠ s → D.atKey (key t) (.held .nilIface) = .held .nilIface ∧ has D (key t) = false := by
  have m0 : Tidy (DataW.map [] : DataW Value) := tidy_empty
  have m1 := m0.put (key_isKey s) (.held v1)
  refine ⟨_, h, atKey_put_same m1.isMap (key_isKey s) _ _, ?_, fun t ht => ⟨?_, ?_⟩⟩
  · rw [size_put m1, has_put_same m0.isMap (key_isKey s), size_put m0]; rfl
  · rw [atKey_put_other (key_ne ht), atKey_put_other (key_ne ht)]; rfl
  · rw [has_put_other (key_ne ht), has_put_other (key_ne ht)]; rfl

set_option maxHeartbeats 1000000 in
theorem walk6 (s t : ByteArray) (a2 : Option Addr) (n2 c2 : Nat) (f2 : Nat → Int) (a3 : Option Addr) (n3 c3 : Nat) (f3 : Nat → Int) (w : World) (hs : s.size ≤ maxLen) (ht : t.size ≤ maxLen) (h2 : n2 ≤ maxLen) (h3 : n3 ≤ maxLen)
    (w2 : IsSl w a2 n2 c2 (fun i => .int .u8 (f2 i))) (w3 : IsSl w a3 n3 c3 (fun i => .int .u8 (f3 i))) :
    Calls Efwg.prog 6 #[.string s, .string t, .slice a2 n2 c2, .slice a3 n3 c3] w fun e w' => e = .returned (.bool true) ∧ Below w.heap.size w w' := by
  have q1 := neq40
  have q2 := eql40
  go_enter Efwg.func6, Efwg.ntmps6
  go_wp2_with fail
  refine (zz30_any s t a2 n2 c2 a3 n3 c3 _ hs ht h2 h3).mono ?_
  rintro e w0 ⟨b, rfl, hb, rfl⟩
  cases b with
  | false =>
    go_wp2_with fail
    go_ret
    exact ⟨rfl, Below.refl _ _⟩
  | true =>
    have hb1 := hb rfl
    clear hb
    go_wp2_with fail
    refine (cloneBytes_any _ a2 n2 c2 f2 (by omega) w2).mono ?_
    rintro e w1 ⟨a2', rfl, hs2, hn2, hg1, hf2⟩
    have w3' := w3.grown hg1 (by simp)
    clear w3 w2
    go_wp2_with fail
    refine (cloneBytes_any _ a3 n3 c3 f3 (by omega) w3').mono ?_
    rintro e w2 ⟨a3', rfl, hs3, hn3, hg2, hf3⟩
    clear w3' hs2 hn2 hf2 hs3 hn3 hf3
    go_wp2_with fail
    refine (new_ex _).mono ?_
    rintro e w3 ⟨p, mb, rfl, hm3, hg3, hp, hmb⟩
    go_wp2_with fail
    have hg35 : w3.grownBy ((w3.alloc (Obj.cells #[Value.slice a2' n2 n2] 42)).alloc (Obj.cells #[Value.slice a3' n3 n3] 42)) none := (World.grownBy_alloc _ _ _).trans (World.grownBy_alloc _ _ _)
    refine (add_any (hm3.kept hg35 (by simp) (by simp)) s hs (by decide) _).mono ?_
    rintro e w4 ⟨rfl, hm4, hg4, -⟩
    go_wp2_with fail
    refine (add_any hm4 s hs (by decide) _).mono ?_
    rintro e w5 ⟨rfl, hm5, hg5, -⟩
    obtain ⟨D, hm, hat, hsz, hoth⟩ := lww hm5
    have hbel : Below w0.heap.size w0 w5 := by
      have z1 := hg1.size
      have z2 := hg2.size
      have z3 := hg3.size
      have z4 := hg4.size
      have z35 := hg35.size
      refine ((((((Below.refl _ _).grown hg1 (Nat.le_refl _) (by simp)).grown hg2 z1 (by simp)).grown hg3 (by omega) (by simp)).grown hg35 (by omega) (by simp)).grown hg4 (by omega) ?_).grown hg5 (by omega) ?_
      · intro k hk; cases hk; omega
      · intro k hk; cases hk; omega
    have hmb0 : w0.heap.size ≤ mb := by
      have z1 := hg1.size
      have z2 := hg2.size
      omega
    have hl5 := hbel.size
    clear hm5 hm4 hg1 hg2 hg3 hg35 hg4 hg5 hm3 hp hmb
    go_wp2_with fail
    refine (getSource_src hm s hs _ hat).mono ?_
    rintro e w6 ⟨rfl, rfl⟩
    go_wp2_with fail
    refine (len_any hm).mono ?_
    rintro e w7 ⟨rfl, rfl⟩
    go_wp2_with fail
    refine (getBuiltin_not hm s hs _ hat (.inr ⟨_, rfl⟩)).mono ?_
    rintro e w8 ⟨rfl, rfl⟩
    go_wp2_with fail
    · go_ret
      exact ⟨rfl, hbel⟩
    · have hne : t ≠ s := by
        rintro rfl
        simp_all
      obtain ⟨ho1, ho2⟩ := hoth t hne
      refine (get_any hm t ht _ ho1).mono ?_
      rintro e w9 ⟨rfl, rfl⟩
      go_wp2_with fail
      refine (add_any hm t ht (by decide) _).mono ?_
      rintro e w10 ⟨rfl, hm10, hg10, -⟩
      have hat1 := (atKey_put_other (key_ne hne.symm) (.held (Value.iface 40 (Value.pointer (some ⟨w3.heap.size, 0, none⟩)))) (.held .nilIface)).trans hat
      have hat2 := atKey_put_same hm.isMap (key_isKey t) (.held (Value.iface 40 (Value.pointer (some ⟨w3.heap.size, 0, none⟩)))) (.held .nilIface)
      have hsz2 := size_put (k := key t) hm.tidy (.held (Value.iface 40 (Value.pointer (some ⟨w3.heap.size, 0, none⟩))))
      rw [ho2, hsz] at hsz2
      simp at hsz2
      go_wp2_with fail
      refine (len_any hm10).mono ?_
      rintro e w11 ⟨rfl, rfl⟩
      go_wp2_with fail
      refine (getSource_src hm10 s hs _ hat1).mono ?_
      rintro e w12 ⟨rfl, rfl⟩
      go_wp2_with fail
      refine (getSource_src hm10 t ht _ hat2).mono ?_
      rintro e w13 ⟨rfl, rfl⟩
      go_wp2_with fail
      go_ret
      exact ⟨rfl, hbel.grown hg10 (by omega) (fun k hk => by cases hk; omega)⟩

end Go.Proofs.Yoefww
