/-
  The walk of 'FnModuleMapScriptModel'.
-/
import Derived.Test.YoefwwScript
import Derived.Deep.CutRange
namespace Go.Proofs.Yoefww
open Go.RowKit Go.Maps

theorem Efwg.info3 : (Efwg.prog.info? 3).map (fun i => (i.zero, i.size, i.bytes)) = some (some (.int .i64 0), 1, 8) := by kernel_rfl

set_option maxRecDepth 100000 in
set_option maxHeartbeats 2000000 in
theorem walk3_pos (w : World) (a : Option Addr) (n c : Nat) (f : Nat → ByteArray) (hn : n ≤ maxLen) (hf : ∀ i, i < n → (f i).size ≤ maxLen) (h : IsSl w a n c (fun i => .string (f i)))
    (a' : Option Addr) (n' c' : Nat) (f' : Nat → Int) (hn' : n' ≤ maxLen) (hf' : ∀ i, i < n' → 0 ≤ f' i ∧ f' i ≤ 4294967295) (h' : IsSl w a' n' c' (fun i => .int .u32 (f' i))) (hpos : 0 < n) :
    Calls Efwg.prog 3 #[.slice a n c, .slice a' n' c'] w fun e w' => e = .returned (.bool true) ∧ Below w.heap.size w w' := by
  obtain ⟨i0, hi, hz0, hz1, hz2⟩ := info_parts Efwg.info9
  obtain ⟨j0, hj, hy0, hy1, hy2⟩ := info_parts Efwg.info3
  go_enter Efwg.func3, Efwg.ntmps3
  go_wp2_with fail
  refine (zz9_any _ a' n' c' hn' a n c f hn hf h).mono ?_
  rintro e w0 ⟨⟨b, rfl, hb⟩, rfl⟩
  cases b with
  | false =>
    go_wp2_with fail
    go_ret
    exact ⟨rfl, Below.refl _ _⟩
  | true =>
    obtain ⟨hb1, hb2⟩ := hb rfl
    clear hb hn hn'
    by_cases hbig : n ≤ 4096
    · have hd : decide ((4096 : Int) < (n : Int)) = false := decide_eq_false (by omega)
      by_cases hbig' : n' ≤ 4096
      · have hd' : decide ((4096 : Int) < (n' : Int)) = false := decide_eq_false (by omega)
        go_wp2_with fail
        refine (namesBytes_any _ a n c f hb1 h).mono ?_
        rintro e w1 ⟨z, rfl, rfl⟩
        by_cases hzz : (1048576 : Int) < wrap64 (z + 4 * (n' : Int))
        · go_wp2_with fail
          go_ret
          exact ⟨rfl, Below.refl _ _⟩
        · have hd2 : decide ((1048576 : Int) < wrap64 (z + 4 * (n' : Int))) = false := decide_eq_false hzz
          go_wp2_with fail
          refine (cloneStrings_any _ a n c f hb1 h).mono ?_
          rintro e w2 ⟨a1, rfl, hs1, -, hg1, -⟩
          have h'1 := h'.grown hg1 (by simp)
          clear h h'
          go_wp2_with fail
          refine (cloneUint32s_any _ a' n' c' f' hb2 h'1).mono ?_
          rintro e w3 ⟨a2, rfl, hs2, -, hg2, -⟩
          have hs1' := hs1.grown hg2 (by simp)
          have hbel : Below w1.heap.size w1 w3 := below_none (below_none (Below.refl _ _) hg1 (Nat.le_refl _)) hg2 hg1.size
          have hzb := hbel.size
          clear hs1 h'1 hg1 hg2
          obtain ⟨b1, o1, rfl, -, hx1⟩ := hs1'.at hpos
          go_wp2_with fail
          refine (new_ex _).mono ?_
          rintro e w4 ⟨p, mb, rfl, hm4, hg4, hp, hmb⟩
          have hB4 : Below w3.heap.size w3 w4 := below_none (Below.refl _ _) hg4 (Nat.le_refl _)
          have hpl := hm4.ltp
          have hml := hm4.ltm
          have z4 := hg4.size
          clear hg4
          go_wp2_with fail
          go_loopw [6, 7, 8, 9] (fun x1 x2 x3 i wr => ∃ (k : Nat) (ks : List ByteArray) (kd tg : List Int) (D : DataW Value) (e1 e2 e3 : Option Addr) (c1 c2 c3 : Nat), k ≤ n' ∧ ks.length ≤ k ∧ i = .int .i64 k ∧
              x1 = .slice e1 ks.length c1 ∧ x2 = .slice e2 ks.length c2 ∧ x3 = .slice e3 ks.length c3 ∧ S3 w3 w4.heap.size p mb k ks kd tg D (.slice e1 ks.length c1) (.slice e2 ks.length c2) (.slice e3 ks.length c3) wr) (fun _ _ _ i _ => n' - (intOf i).toNat)
          case atStart => exact ⟨0, [], [], [], _, none, none, none, 0, 0, 0, Nat.zero_le _, Nat.le_refl _, rfl, rfl, rfl, rfl, S3.start hm4 hB4 (Nat.le_refl _)⟩
          case round =>
            obtain ⟨k, ks, kd, tg, D, e1, e2, e3, c1, c2, c3, hk, hkk, rfl, rfl, rfl, rfl, hS⟩ := hrel
            by_cases hlt : k < n'
            · obtain ⟨b2, o2, rfl, -, hx2⟩ := hs2.at (by omega)
              have hb1l : b1 < w3.heap.size := cell_lt (hx1 0 hpos)
              have hb2l : b2 < w3.heap.size := cell_lt (hx2 0 (by omega))
              have hxk := (hS.bel.cell (p := ⟨b2, o2 + k, none⟩) hb2l).trans (hx2 k hlt)
              obtain ⟨hw0, hw1⟩ := hf' k hlt
              have hne0 : ((n : Int) == 0) = false := by simp; omega
              generalize f' k = x at hxk hw0 hw1
              have hi0 : 0 ≤ x / 4 % (n : Int) := Int.emod_nonneg _ (by omega)
              have hi1 : x / 4 % (n : Int) < (n : Int) := Int.emod_lt_of_pos _ (by omega)
              obtain ⟨nm, hnm, hnml⟩ : ∃ nm, wr.cell? ⟨b1, o1 + (x / 4 % (n : Int)).toNat, none⟩ = some (.string nm) ∧ nm.size ≤ maxLen :=
                ⟨_, (hS.bel.cell (p := ⟨b1, o1 + (x / 4 % (n : Int)).toNat, none⟩) hb1l).trans (hx1 _ (by omega)), hf _ (by omega)⟩
              go_wp2_with fail
              refine (findKey_ex _ e1 c1 ks nm (by omega) (ownsRow_strs hS.o1)).mono ?_
              rintro e w5 ⟨⟨r, rfl, hr⟩, rfl⟩
              generalize wrap64 (bits BinOp.and IntKind.u32 x 3) = kk
              go_upto_if 70 with fail
              go_cut [6, 7, 8, 13] from 41 to 128 (fun x1 x2 x3 x4 wx => ∃ (ks' : List ByteArray) (kd' tg' : List Int) (j g1 g2 g3 c1 c2 c3 : Nat), ks'.length ≤ k + 1 ∧ j < ks'.length ∧ ks'.getD j ByteArray.empty = nm ∧ x4 = .int .i64 j ∧
                x1 = .slice (some ⟨g1, 0, none⟩) ks'.length c1 ∧ x2 = .slice (some ⟨g2, 0, none⟩) ks'.length c2 ∧ x3 = .slice (some ⟨g3, 0, none⟩) ks'.length c3 ∧
                S3 w3 w4.heap.size p mb k ks' kd' tg' D (.slice (some ⟨g1, 0, none⟩) ks'.length c1) (.slice (some ⟨g2, 0, none⟩) ks'.length c2) (.slice (some ⟨g3, 0, none⟩) ks'.length c3) wx)
              case first =>
                rcases hr with ⟨rfl, hnot⟩ | ⟨hin, j, rfl, hjl, hj1⟩
                · have hbr := hS.big
                  have ho1 := hS.o1
                  go_upto_region 23 with (first
                    | (at_builtin; refine wpList_append_own_at _ rfl _ _ 22 rfl w4.heap.size 9 i0 (.string ByteArray.empty) 1 16 Efwg.underlying22 hi hz0 hz1 hz2 rfl (by decide) _ _ _ rfl (ho1.alloc _) ⟨w5.heap.size, 0, none⟩ 1 1 [.string nm] rfl rfl (cell_one_new _ _ _) ?c2 ?c3 ?c4 ?c5 ?_; rotate_left 4; intro v1' w6 hown6 hg6 _ hloc6)
                    | go_in)
                  case c2 => intro u hu; simp at hu; subst hu; rfl
                  case c3 => unfold maxLen; omega
                  case c4 => omega
                  case c5 => simp; omega
                  have hga6 := (World.grownBy_alloc w5 (.cells #[.string nm] 9) _).trans hg6
                  have he6 : Grew w5 (.slice e1 ks.length c1) v1' := hloc6.elim .inl (fun h => .inr ⟨_, h, by simp⟩)
                  have ho2 := own_other hS.o2 hga6 hS.d12.symm
                  have ho3 := own_other hS.o3 hga6 hS.d13.symm
                  have z6 := hga6.size
                  clear hg6 hloc6
                  obtain ⟨g1, q1, rfl⟩ := own_head hown6 (by omega)
                  go_upto_region 24 with (first
                    | (at_builtin; refine wpList_append_own_at _ rfl _ _ 30 rfl w4.heap.size 3 j0 (.int .i64 0) 1 8 Efwg.underlying30 hj hy0 hy1 hy2 rfl (by decide) _ _ _ rfl (ho2.alloc _) ⟨w6.heap.size, 0, none⟩ 1 1 [.int .i64 0] rfl rfl (cell_one_new _ _ _) ?c2 ?c3 ?c4 ?c5 ?_; rotate_left 4; intro v2' w7 hown7 hg7 _ hloc7)
                    | go_in)
                  case c2 => intro u hu; simp at hu; subst hu; rfl
                  case c3 => unfold maxLen; omega
                  case c4 => omega
                  case c5 => simp; omega
                  have hga7 := (World.grownBy_alloc w6 (.cells #[.int .i64 0] 3) _).trans hg7
                  have he7 : Grew w6 (.slice e2 ks.length c2) v2' := hloc7.elim .inl (fun h => .inr ⟨_, h, by simp⟩)
                  have ho3' := own_other ho3 hga7 hS.d23.symm
                  have z7 := hga7.size
                  clear hg7 hloc7 ho2 ho3
                  obtain ⟨g2, q2, rfl⟩ := own_head hown7 (by omega)
                  go_upto_region 25 with (first
                    | (at_builtin; refine wpList_append_own_at _ rfl _ _ 30 rfl w4.heap.size 3 j0 (.int .i64 0) 1 8 Efwg.underlying30 hj hy0 hy1 hy2 rfl (by decide) _ _ _ rfl (ho3'.alloc _) ⟨w7.heap.size, 0, none⟩ 1 1 [.int .i64 0] rfl rfl (cell_one_new _ _ _) ?c2 ?c3 ?c4 ?c5 ?_; rotate_left 4; intro v3' w8 hown8 hg8 _ hloc8)
                    | go_in)
                  case c2 => intro u hu; simp at hu; subst hu; rfl
                  case c3 => unfold maxLen; omega
                  case c4 => omega
                  case c5 => simp; omega
                  have hga8 := (World.grownBy_alloc w7 (.cells #[.int .i64 0] 3) _).trans hg8
                  have he8 : Grew w7 (.slice e3 ks.length c3) v3' := hloc8.elim .inl (fun h => .inr ⟨_, h, by simp⟩)
                  clear hg8 hloc8 ho3' ho1
                  obtain ⟨g3, q3, rfl⟩ := own_head hown8 (by omega)
                  have hS8 := hS.grow hpl hml z4 hnot hnml hga6 hown6 he6 hga7 hown7 he7 hga8 hown8 he8
                  clear hS hown6 hown7 hown8 hga6 hga7 hga8 he6 he7 he8
                  go_wp2_with fail
                  go_meet
                  case rel => exact ⟨ks ++ [nm], kd ++ [0], tg ++ [0], ks.length, g1, g2, g3, q1, q2, q3, by simp; omega, by simp, getD_snoc_last _ _ _ _ rfl, by go_num, by simp, by simp, by simp, by simpa using hS8⟩
                · obtain ⟨g1, q1, hv1⟩ := own_head hS.o1 (by omega)
                  obtain ⟨g2, q2, hv2⟩ := own_head hS.o2 (by omega)
                  obtain ⟨g3, q3, hv3⟩ := own_head hS.o3 (by omega)
                  cases hv1
                  cases hv2
                  cases hv3
                  go_wp2_with fail
                  go_meet
                  case rel => exact ⟨ks, kd, tg, j, g1, g2, g3, _, _, _, by omega, hjl, hj1, rfl, rfl, rfl, rfl, hS⟩
              case rest =>
                obtain ⟨ks', kd', tg', j, g1, g2, g3, c1', c2', c3', hkl, hjl, hjn, rfl, rfl, rfl, rfl, hS'⟩ := hcut
                clear hS hr hnm hxk
                have hjl1 : (j : Int) < (ks'.length : Int) := by omega
                have hjl0 : (0 : Int) ≤ (j : Int) := by omega
                have Hjn : Hid (ks'.getD j ByteArray.empty = nm) := hjn
                clear hjn
                by_cases k0 : kk = 0
                · have k0b : (kk == 0) = true := by simp [k0]
                  subst k0
                  go_wp2_with fail
                  refine (tagBytes_new _ _ (by omega) (by omega)).mono ?_
                  rintro e w6 ⟨ta, rfl, hta, hg6, hta1, hta2⟩
                  go_wp2_with fail
                  refine (addSource_any (hS'.mm.kept hg6 (by simp) (by simp)) nm hnml (by unfold maxLen; omega) _ _ _).mono ?_
                  rintro e w7 ⟨rfl, hm7, hc7, hg7, hz7⟩
                  have hgw : wc.grownBy w7 (some mb) := (hg6.but _).trans hg7
                  obtain ⟨ho2, ho3⟩ := hS'.rows hml hgw
                  have hcell2 := own_int_at ho2 hS'.l2 hjl
                  have hfr2 := ho2.frozenAt j
                  obtain ⟨ho2', hg8⟩ := own_int_set ho2 j 1
                  have ho3' := own_other ho3 hg8 hS'.d23.symm
                  have hcell3 := own_int_at ho3' hS'.l3 hjl
                  have hfr3 := ho3'.frozenAt j
                  obtain ⟨ho3'', hg9⟩ := own_int_set ho3' j k
                  have hen : Ent w7 (Away (.slice (some ⟨g1, 0, none⟩) ks'.length c1') (.slice (some ⟨g2, 0, none⟩) ks'.length c2') (.slice (some ⟨g3, 0, none⟩) ks'.length c3') mb) (D.put (key nm) (.held (.iface 40 (.pointer (some ⟨w6.heap.size, 0, none⟩))))) nm 1 k :=
                    .inr (.inl ⟨rfl, has_put_same hS'.mm.isMap (key_isKey nm) _, by omega, by omega, w6.heap.size, ta, atKey_put_same hS'.mm.isMap (key_isKey nm) _ _, hc7, hta.grown hg7 (fun y hy => by cases hy; have := hS'.mm.ltm; simp; omega), away_new hS' hg6.size, away_new hS' hta1⟩)
                  have hold := hS'.ent j hjl
                  rw [Hjn.out] at hold
                  have hSn := hS'.turn hpl hml hmb hjl Hjn.out hgw hm7 (put_others _) hen (size_put_nz hold hS'.mm.tidy _ rfl) hg8 ho2' hg9 ho3''
                  clear hS' hold hen hm7 hc7 hg7 hz7 hg6 hta hta1 hta2 ho2 ho3 ho2' ho3' ho3'' hg8 hg9 hgw
                  go_wp2_with fail
                  go_roundw
                  case rel => exact ⟨k + 1, ks', _, _, _, _, _, _, _, _, _, by omega, hkl, by go_num, rfl, rfl, rfl, hSn⟩
                  case measure => simp [intOf]; omega
                · have k0b : (kk == 0) = false := by simp [k0]
                  by_cases k1 : kk = 1
                  · have k1b : (kk == 1) = true := by simp [k1]
                    subst k1
                    go_wp2_with fail
                    refine (addBuiltin_any hS'.mm nm hnml (by unfold maxLen; omega) none).mono ?_
                    rintro e w7 ⟨rfl, hm7, hc7, hgw, hz7⟩
                    obtain ⟨ho2, ho3⟩ := hS'.rows hml hgw
                    have hcell2 := own_int_at ho2 hS'.l2 hjl
                    have hfr2 := ho2.frozenAt j
                    obtain ⟨ho2', hg8⟩ := own_int_set ho2 j 2
                    have ho3' := own_other ho3 hg8 hS'.d23.symm
                    rw [← set_getD tg' j 0 (by rw [hS'.l3]; exact hjl)] at ho3'
                    have hen : Ent w7 (Away (.slice (some ⟨g1, 0, none⟩) ks'.length c1') (.slice (some ⟨g2, 0, none⟩) ks'.length c2') (.slice (some ⟨g3, 0, none⟩) ks'.length c3') mb) (D.put (key nm) (.held (.iface 50 (.pointer (some ⟨wc.heap.size, 0, none⟩))))) nm 2 (tg'.getD j 0) :=
                      .inr (.inr ⟨rfl, has_put_same hS'.mm.isMap (key_isKey nm) _, wc.heap.size, atKey_put_same hS'.mm.isMap (key_isKey nm) _ _, hc7, away_new hS' (Nat.le_refl _)⟩)
                    have hold := hS'.ent j hjl
                    rw [Hjn.out] at hold
                    have hSn := hS'.turn hpl hml hmb hjl Hjn.out hgw hm7 (put_others _) hen (size_put_nz hold hS'.mm.tidy _ rfl) hg8 ho2' (World.grownBy.refl _ _) ho3'
                    clear hS' hold hen hm7 hc7 hz7 ho2 ho3 ho2' ho3' hg8 hgw
                    go_wp2_with fail
                    go_roundw
                    case rel => exact ⟨k + 1, ks', _, _, _, _, _, _, _, _, _, by omega, hkl, by go_num, rfl, rfl, rfl, hSn⟩
                    case measure => simp [intOf]; omega
                  · have k1b : (kk == 1) = false := by simp [k1]
                    by_cases k2 : kk = 2
                    · have k2b : (kk == 2) = true := by simp [k2]
                      subst k2
                      go_wp2_with fail
                      refine (remove_any hS'.mm nm hnml).mono ?_
                      rintro e w7 ⟨rfl, hm7, hgw, hz7⟩
                      obtain ⟨ho2, ho3⟩ := hS'.rows hml hgw
                      have hcell2 := own_int_at ho2 hS'.l2 hjl
                      have hfr2 := ho2.frozenAt j
                      obtain ⟨ho2', hg8⟩ := own_int_set ho2 j 0
                      have ho3' := own_other ho3 hg8 hS'.d23.symm
                      rw [← set_getD tg' j 0 (by rw [hS'.l3]; exact hjl)] at ho3'
                      have hen : Ent w7 (Away (.slice (some ⟨g1, 0, none⟩) ks'.length c1') (.slice (some ⟨g2, 0, none⟩) ks'.length c2') (.slice (some ⟨g3, 0, none⟩) ks'.length c3') mb) (D.del (key nm)) nm 0 (tg'.getD j 0) := .inl ⟨rfl, has_del_same⟩
                      have hold := hS'.ent j hjl
                      rw [Hjn.out] at hold
                      have hSn := hS'.turn hpl hml hmb hjl Hjn.out hgw (hm7.mono (Nat.le_succ _)) del_others hen (size_del_nz hold hS'.mm.tidy) hg8 ho2' (World.grownBy.refl _ _) ho3'
                      clear hS' hold hen hm7 hz7 ho2 ho3 ho2' ho3' hg8 hgw
                      go_wp2_with fail
                      go_roundw
                      case rel => exact ⟨k + 1, ks', _, _, _, _, _, _, _, _, _, by omega, hkl, by go_num, rfl, rfl, rfl, hSn⟩
                      case measure => simp [intOf]; omega
                    · have k2b : (kk == 2) = false := by simp [k2]
                      go_wp2_with fail
                      refine (tagBytes_new _ _ (by omega) (by omega)).mono ?_
                      rintro e w6 ⟨ta, rfl, hta, hg6, hta1, hta2⟩
                      go_wp2_with fail
                      refine (add_any ((hS'.mm.kept hg6 (by simp) (by simp)).kept (World.grownBy_alloc w6 (.cells #[.slice (some ⟨ta, 0, none⟩) 3 3] 42) none) (by simp) (by simp)) nm hnml (by unfold maxLen; omega) _).mono ?_
                      rintro e w7 ⟨rfl, hm7, hg7, hz7⟩
                      have hc7 : w7.cell? ⟨w6.heap.size, 0, none⟩ = some (.slice (some ⟨ta, 0, none⟩) 3 3) := cell_grown hg7 (World.cell?_alloc_new w6 #[.slice (some ⟨ta, 0, none⟩) 3 3] 42 0) (by have := hS'.mm.ltm; have := hg6.size; simp; omega)
                      have hta7 := (hta.grown (World.grownBy_alloc w6 (.cells #[.slice (some ⟨ta, 0, none⟩) 3 3] 42) none) (by simp)).grown hg7 (fun y hy => by cases hy; have := hS'.mm.ltm; simp; omega)
                      have hgw : wc.grownBy w7 (some mb) := ((hg6.but _).trans (World.grownBy_alloc w6 _ _)).trans hg7
                      obtain ⟨ho2, ho3⟩ := hS'.rows hml hgw
                      have hcell2 := own_int_at ho2 hS'.l2 hjl
                      have hfr2 := ho2.frozenAt j
                      obtain ⟨ho2', hg8⟩ := own_int_set ho2 j 1
                      have ho3' := own_other ho3 hg8 hS'.d23.symm
                      have hcell3 := own_int_at ho3' hS'.l3 hjl
                      have hfr3 := ho3'.frozenAt j
                      obtain ⟨ho3'', hg9⟩ := own_int_set ho3' j k
                      have hen : Ent w7 (Away (.slice (some ⟨g1, 0, none⟩) ks'.length c1') (.slice (some ⟨g2, 0, none⟩) ks'.length c2') (.slice (some ⟨g3, 0, none⟩) ks'.length c3') mb) (D.put (key nm) (.held (.iface 40 (.pointer (some ⟨w6.heap.size, 0, none⟩))))) nm 1 k :=
                        .inr (.inl ⟨rfl, has_put_same hS'.mm.isMap (key_isKey nm) _, by omega, by omega, w6.heap.size, ta, atKey_put_same hS'.mm.isMap (key_isKey nm) _ _, hc7, hta7, away_new hS' hg6.size, away_new hS' hta1⟩)
                      have hold := hS'.ent j hjl
                      rw [Hjn.out] at hold
                      have hSn := hS'.turn hpl hml hmb hjl Hjn.out hgw hm7 (put_others _) hen (size_put_nz hold hS'.mm.tidy _ rfl) hg8 ho2' hg9 ho3''
                      clear hS' hold hen hm7 hc7 hg7 hz7 hg6 hta hta1 hta2 hta7 ho2 ho3 ho2' ho3' ho3'' hg8 hg9 hgw
                      go_wp2_with fail
                      go_roundw
                      case rel => exact ⟨k + 1, ks', _, _, _, _, _, _, _, _, _, by omega, hkl, by go_num, rfl, rfl, rfl, hSn⟩
                      case measure => simp [intOf]; omega
            · obtain rfl : k = n' := by omega
              obtain ⟨wE, hwE⟩ : ∃ wE, wE = wr := ⟨_, rfl⟩
              subst hwE
              have hkl : ks.length ≤ 4096 := by omega
              have hlv : live (kd.take ks.length) = Maps.size D := by rw [List.take_of_length_le (by rw [hS.l2]; exact Nat.le_refl _), hS.size]
              have Hlv : Hid (live (kd.take ks.length) = Maps.size D) := hlv
              clear hlv hf' hs2 hm4 hB4
              go_wp2_with fail
              go_loopw [14, 15] (fun l i wx => ∃ m : Nat, m ≤ ks.length ∧ i = .int .i64 m ∧ l = .int .i64 (live (kd.take m) : Nat) ∧ wE.grownBy wx none) (fun _ i _ => ks.length - (intOf i).toNat)
              case atStart => exact ⟨0, Nat.zero_le _, rfl, rfl, World.grownBy.refl _ _⟩
              case round =>
                obtain ⟨m, hm, rfl, rfl, hgx⟩ := hrel
                by_cases hlt2 : m < ks.length
                · obtain ⟨g1, q1, hv1⟩ := own_head hS.o1 (by omega)
                  obtain ⟨g2, q2, hv2⟩ := own_head hS.o2 (by omega)
                  obtain ⟨g3, q3, hv3⟩ := own_head hS.o3 (by omega)
                  cases hv1
                  cases hv2
                  cases hv3
                  have hent := hS.ent m hlt2
                  have hc1 : wE.cell? ⟨g1, m, none⟩ = some (.string (ks.getD m ByteArray.empty)) := by
                    rw [hS.o1.cellAt m (by omega)]
                    simp [hlt2]
                  have hc2 := own_int_at hS.o2 hS.l2 hlt2
                  have hc3 := own_int_at hS.o3 hS.l3 hlt2
                  have hnl := hS.len _ (getD_mem ks ByteArray.empty m hlt2)
                  have hlt3 := live_take kd m (by rw [hS.l2]; exact hlt2)
                  have hlb : live (kd.take m) ≤ 4096 := Nat.le_trans (live_le _) (Nat.le_trans (List.length_take_le _ _) (by omega))
                  have hmx := hS.mm.kept hgx (by simp) (by simp)
                  have hex := hent.kept hgx (fun _ _ _ => by simp) (fun _ hb _ => hb)
                  generalize ks.getD m ByteArray.empty = nm at hc1 hnl hex
                  generalize kd.getD m 0 = K at hc2 hex hlt3
                  generalize tg.getD m 0 = T at hc3 hex
                  have hd1 := cell_grown hgx hc1 (by simp)
                  have hd2 := cell_grown hgx hc2 (by simp)
                  have hd3 := cell_grown hgx hc3 (by simp)
                  have Hlt : Hid (live (kd.take (m + 1)) = live (kd.take m) + nz K) := hlt3
                  have hmi0 : (0 : Int) ≤ (m : Int) := by omega
                  have hmi1 : (m : Int) < (ks.length : Int) := by omega
                  clear hc1 hc2 hc3 hent hlt3 hS
                  by_cases hK : K = 0
                  · subst hK
                    go_wp2_with fail
                    go_region_held (fun w' => w'.cell? ⟨g1, m, none⟩ = some (.string nm) ∧ w'.cell? ⟨g2, m, none⟩ = some (.int .i64 0) ∧ w'.cell? ⟨g3, m, none⟩ = some (.int .i64 T))
                      (first | go_keep | exact ⟨cell_grown hgy (by go_keep) (by simp), cell_grown hgy (by go_keep) (by simp), cell_grown hgy (by go_keep) (by simp)⟩)
                      (first | (go_at_call 20; refine (entry_any (hmx.kept (grown_drew _ none) (by simp) (by simp)) nm hnl 0 T (hex.kept (grown_drew _ none) (fun _ _ _ => by simp) (fun _ hb _ => hb))).mono ?_; rintro e wy ⟨rfl, hgy⟩))
                    go_wp2_with fail
                    go_roundw
                    case rel => exact ⟨m + 1, by omega, by go_num, by rw [Hlt.out]; simp [nz], (hgx.trans (grown_drew _ _)).trans hgy⟩
                    case measure => simp [intOf]; omega
                  · have hKb : (K != 0) = true := by simp [hK]
                    go_wp2_with fail
                    go_region_held (fun w' => w'.cell? ⟨g1, m, none⟩ = some (.string nm) ∧ w'.cell? ⟨g2, m, none⟩ = some (.int .i64 K) ∧ w'.cell? ⟨g3, m, none⟩ = some (.int .i64 T))
                      (first | go_keep | exact ⟨cell_grown hgy (by go_keep) (by simp), cell_grown hgy (by go_keep) (by simp), cell_grown hgy (by go_keep) (by simp)⟩)
                      (first | (go_at_call 20; refine (entry_any (hmx.kept (grown_drew _ none) (by simp) (by simp)) nm hnl K T (hex.kept (grown_drew _ none) (fun _ _ _ => by simp) (fun _ hb _ => hb))).mono ?_; rintro e wy ⟨rfl, hgy⟩))
                    go_wp2_with fail
                    go_roundw
                    case rel => exact ⟨m + 1, by omega, by go_num, by rw [Hlt.out]; simp [nz, hK], (hgx.trans (grown_drew _ _)).trans hgy⟩
                    case measure => simp [intOf]; omega
                · obtain rfl : m = ks.length := by omega
                  have hB := below_none hS.bel hgx (by have := hS.big; omega)
                  have hfin : Below w1.heap.size w1 wr := hbel.trans (hB.mono hzb)
                  have hmx := hS.mm.kept hgx (by simp) (by simp)
                  have hkx := ownsRow_strs (ownsRow_kept_none hS.o1 hgx)
                  have hout := hS.out
                  have hlv := Hlv.out
                  clear hS Hlv hgx
                  go_wp2_with fail
                  refine (len_any hmx).mono ?_
                  rintro e w6 ⟨rfl, rfl⟩
                  go_wp2_with fail
                  go_loop [16] (fun i => ∃ k : Nat, k ≤ n ∧ i = .int .i64 k) (fun i => n - (intOf i).toNat)
                  case atStart => exact ⟨0, Nat.zero_le _, rfl⟩
                  case round =>
                    obtain ⟨t, ht, rfl⟩ := hrel
                    by_cases hlt4 : t < n
                    · have hb1l : b1 < w3.heap.size := cell_lt (hx1 0 hpos)
                      have hxt := (hB.cell (p := ⟨b1, o1 + t, none⟩) hb1l).trans (hx1 t hlt4)
                      have hft := hf t hlt4
                      rcases first_place ks (f t) with ⟨hnot, hno⟩ | ⟨hin, j, hjl, hj1, hj2⟩
                      · have hat := atKey_of_not_has (hout (f t) hnot) (.held .nilIface)
                        clear hout hx1 hf
                        go_wp2_with fail
                        refine (findKey_no _ e1 ks.length c1 _ (f t) (by omega) hkx hno).mono ?_
                        rintro e w7 ⟨rfl, rfl⟩
                        go_wp2_with fail
                        refine (entry0 hmx (f t) hft 0 hat).mono ?_
                        rintro e w7 ⟨rfl, rfl⟩
                        go_wp2_with fail
                        go_round
                        case rel => exact ⟨t + 1, by omega, by go_num⟩
                        case measure => simp [intOf]; omega
                      · clear hout hx1 hf
                        go_wp2_with fail
                        refine (findKey_at _ e1 ks.length c1 _ (f t) (by omega) hkx j hjl hj1 hj2).mono ?_
                        rintro e w7 ⟨rfl, rfl⟩
                        go_wp2_with fail
                        go_round
                        case rel => exact ⟨t + 1, by omega, by go_num⟩
                        case measure => simp [intOf]; omega
                    · go_wp2_with fail
                      go_ret
                      exact ⟨rfl, hfin⟩
      · have hd' : decide ((4096 : Int) < (n' : Int)) = true := decide_eq_true (by omega)
        go_wp2_with fail
        go_ret
        exact ⟨rfl, Below.refl _ _⟩
    · have hd : decide ((4096 : Int) < (n : Int)) = true := decide_eq_true (by omega)
      go_wp2_with fail
      go_ret
      exact ⟨rfl, Below.refl _ _⟩

end Go.Proofs.Yoefww
