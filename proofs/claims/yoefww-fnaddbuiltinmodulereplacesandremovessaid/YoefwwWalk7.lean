/-
  The walk of 'FnAddBuiltinModuleReplacesAndRemoves'.
-/
import Derived.Test.YoefwwOwn
namespace Go.Proofs.Yoefww
open Go.RowKit Go.Maps

/-- What holds of the world at the head of each round of the first loop. -/
structure L7 (w2 : World) (base p mb k : Nat) (ds : List ByteArray) (D : DataW Value) (a : Option Addr) (c : Nat) (wr : World) : Prop where
  own : wr.ownsRow base 9 1 (.slice a ds.length c) ds.length (ds.map Value.string)
  mm : MM wr p mb k D
  inv : Inv D ds
  bel : Below w2.heap.size w2 wr
  big : base ≤ wr.heap.size

set_option maxHeartbeats 1000000 in
theorem walk7 (w : World) (s : ByteArray) (hs : s.size ≤ maxLen) (a : Option Addr) (n c : Nat) (f : Nat → ByteArray) (hn : n ≤ maxLen) (hf : ∀ i, i < n → (f i).size ≤ maxLen) (h : IsSl w a n c (fun i => .string (f i))) :
    Calls Efwg.prog 7 #[.slice a n c, .string s] w fun e w' => e = .returned (.bool true) ∧ Below w.heap.size w w' := by
  obtain ⟨i0, hi, hz0, hz1, hz2⟩ := info_parts Efwg.info9
  go_enter Efwg.func7, Efwg.ntmps7
  go_wp2_with fail
  refine (zz31_any _ s a n c f hn hf h).mono ?_
  rintro e w0 ⟨⟨b, rfl, hb⟩, rfl⟩
  cases b with
  | false =>
    go_wp2_with fail
    go_ret
    exact ⟨rfl, Below.refl _ _⟩
  | true =>
    have hb1 := hb rfl
    clear hb hn
    by_cases hbig : n ≤ 4096
    · have hd : decide ((4096 : Int) < (n : Int)) = false := decide_eq_false (by omega)
      go_wp2_with fail
      refine (namesBytes_any _ a n c f hb1 h).mono ?_
      rintro e w1 ⟨z, rfl, rfl⟩
      by_cases hzz : (1048576 : Int) < wrap64 (z + (s.size : Int))
      · go_wp2_with fail
        go_ret
        exact ⟨rfl, Below.refl _ _⟩
      · have hd2 : decide ((1048576 : Int) < wrap64 (z + (s.size : Int))) = false := decide_eq_false hzz
        go_wp2_with fail
        refine (cloneStrings_any _ a n c f hb1 h).mono ?_
        rintro e w2 ⟨a', rfl, hs2, -, hg2, -⟩
        have hbel : Below w1.heap.size w1 w2 := below_none (Below.refl _ _) hg2 (Nat.le_refl _)
        have hz2' := hbel.size
        clear h hg2
        go_wp2_with fail
        refine (new_ex _).mono ?_
        rintro e w3 ⟨p, mb, rfl, hm3, hg3, hp, hmb⟩
        have hB3 : Below w2.heap.size w2 w3 := below_none (Below.refl _ _) hg3 (Nat.le_refl _)
        have hpl := hm3.ltp
        have hml := hm3.ltm
        have z3 := hg3.size
        clear hg3
        go_wp2_with fail
        go_loopw [6, 7] (fun v i wr => ∃ (k : Nat) (ds : List ByteArray) (D : DataW Value) (a : Option Addr) (c : Nat), k ≤ n ∧ ds.length ≤ k ∧ i = .int .i64 k ∧ v = .slice a ds.length c ∧ L7 w2 w3.heap.size p mb k ds D a c wr) (fun _ i _ => n - (intOf i).toNat)
        case atStart => exact ⟨0, [], _, none, 0, Nat.zero_le _, Nat.le_refl _, rfl, rfl, World.ownsRow_nil _ _ _ _, hm3, Inv.start, hB3, Nat.le_refl _⟩
        case round =>
          obtain ⟨k, ds, D, a, c, hk, hdk, rfl, rfl, hL⟩ := hrel
          by_cases hlt : k < n
          · obtain ⟨b, o, rfl, _, hx⟩ := hs2.at (by omega)
            have hx2 := hx k hlt
            have hbl2 : b < w2.heap.size := cell_lt hx2
            have hxk := (hL.bel.cell (p := ⟨b, o + k, none⟩) hbl2).trans hx2
            have hfk := hf k hlt
            have zr := hL.bel.size
            have hbl : b < wr.heap.size := by omega
            clear hx hx2
            have hlti : (k : Int) < (n : Int) := by omega
            have hk0 : (0 : Int) ≤ (k : Int) := by omega
            go_wp2_with fail
            have hm := hL.mm
            go_region_with (first
              | (go_at_call 16; refine (tagBytes_any _ _ (by omega) (by omega)).mono ?_; rintro e w4 ⟨rfl, rfl⟩)
              | (go_at_call 15; refine (addSource_any (hm.kept (row := none) ((World.grownBy_alloc _ _ _).trans (grown_drew _ _)) (by simp) (by simp)) (f k) hfk (by unfold maxLen; omega) _ _ _).mono ?_; rintro e w5 ⟨rfl, hm5, hc5, hg5, hz5⟩))
            all_goals
              have hgw : wr.grownBy w5 (some mb) := ((World.grownBy_alloc _ _ (some mb)).trans (grown_drew _ _)).trans hg5
              obtain ⟨q, hm5'⟩ : ∃ q, MM w5 p mb (k + 1) (D.put (key (f k)) (.held (.iface 40 (.pointer (some q))))) := ⟨_, hm5⟩
              clear hm5 hc5 hg5 hz5
              have hown5 := ownsRow_kept hL.own hgw hml
              have hB5 := below_row hL.bel hgw (by omega) hmb
              have hxk5 := (hB5.cell (p := ⟨b, o + k, none⟩) hbl2).trans ((hL.bel.cell (p := ⟨b, o + k, none⟩) hbl2).symm.trans hxk)
              have z5 := hgw.size
              have hbr := hL.big
              clear hgw
              rcases first_place ds (f k) with ⟨hnot, hno⟩ | ⟨hin, j, hj, hj1, hj2⟩
              · have hinv := hL.inv.new hL.mm.tidy hnot hfk q
                clear hm hL hxk
                go_wp2_with fail
                refine (findKey_no _ a ds.length c _ (f k) (by omega) (ownsRow_strs hown5) hno).mono ?_
                rintro e w6 ⟨rfl, rfl⟩
                go_wp2_with (first
                  | (at_builtin; refine wpList_append_own_at _ rfl _ _ 22 rfl w3.heap.size 9 i0 (.string ByteArray.empty) 1 16 Efwg.underlying22 hi hz0 hz1 hz2 rfl (by decide) _ _ _ rfl (hown5.alloc _) ⟨w6.heap.size, 0, none⟩ 1 1 [.string (f k)] rfl rfl (cell_one_new _ _ _) ?c2 ?c3 ?c4 ?c5 ?_; rotate_left 4; intro v' w7 hown7 hg7 _ hloc)
                  | go_in)
                case c2 => intro u hu; simp at hu; subst hu; rfl
                case c3 => unfold maxLen; omega
                case c4 => omega
                case c5 => simp; omega
                obtain ⟨a', c', hv'⟩ := ownsRow_shape hown7
                have hga := (World.grownBy_alloc w6 (.cells #[.string (f k)] 9) _).trans hg7
                have hm7 := hm5'.kept hga (ownsRow_ne hown5 hpl) (ownsRow_ne hown5 hml)
                have hB7 := hB5.grown hga (by omega) (fun j hj => by have := (hown5.lt j hj).1; omega)
                have z7 := hga.size
                go_roundw
                case rel =>
                  refine ⟨k + 1, ds ++ [f k], _, a', c', by omega, by simp; omega, by go_num, by rw [hv']; simp, ?_, hm7, hinv, hB7, by omega⟩
                  rw [hv'] at hown7
                  simpa using hown7
                case measure => simp [intOf]; omega
              · have hinv := hL.inv.old hL.mm.tidy hin q
                clear hm hL hxk
                go_wp2_with fail
                refine (findKey_at _ a ds.length c _ (f k) (by omega) (ownsRow_strs hown5) j hj hj1 hj2).mono ?_
                rintro e w6 ⟨rfl, rfl⟩
                go_wp2_with fail
                go_roundw
                case rel => exact ⟨k + 1, ds, _, a, c, by omega, by omega, by go_num, rfl, hown5, hm5', hinv, hB5, by omega⟩
                case measure => simp [intOf]; omega
          · obtain rfl : k = n := by omega
            obtain ⟨hown, hm, hinv, hB, hbr⟩ := hL
            have hsz := hinv.size
            have hdl : ds.length ≤ 4096 := by omega
            have hlen := hinv.len
            have zr := hB.size
            clear hf hs2 hm3 hB3
            go_wp2_with fail
            refine (len_any hm).mono ?_
            rintro e w4 ⟨rfl, rfl⟩
            go_wp2_with fail
            rcases first_place ds s with ⟨hnot, hno⟩ | ⟨hin, j, hj, hj1, hj2⟩
            · have hat0 := hinv.not hnot
              refine (findKey_no _ a ds.length c _ s (by omega) (ownsRow_strs hown) hno).mono ?_
              rintro e w5 ⟨rfl, rfl⟩
              go_wp2_with fail
              refine (getSource_not hm s hs _ hat0 (.inl rfl)).mono ?_
              rintro e w5 ⟨rfl, rfl⟩
              go_wp2_with fail
              refine (addBuiltin_any hm s hs (by unfold maxLen; omega) none).mono ?_
              rintro e w6 ⟨rfl, hm6, -, hg6, -⟩
              obtain ⟨D1, hm6', hat1, -, hsz1, hhas, hsrc⟩ := hinv.over hm.tidy hm6
              have hsz1' := hsz1 hnot
              have hown6 := ownsRow_kept hown hg6 hml
              have hB6 := below_row hB hg6 (by omega) hmb
              clear hm6 hsz1 hown hB hm hsz hinv hno hat0
              have z6 := hg6.size
              clear hg6
              go_wp2_with fail
              refine (len_any hm6').mono ?_
              rintro e w7 ⟨rfl, rfl⟩
              go_wp2_with fail
              refine (getBuiltin_bi hm6' s hs _ hat1).mono ?_
              rintro e w7 ⟨rfl, rfl⟩
              go_wp2_with fail
              refine (getSource_not hm6' s hs _ hat1 (.inr ⟨_, rfl⟩)).mono ?_
              rintro e w7 ⟨rfl, rfl⟩
              go_wp2_with fail
              refine (remove_any hm6' s hs).mono ?_
              rintro e w8 ⟨rfl, hm8, hg8, -⟩
              obtain ⟨D2, hm8', hat2, hsz2, hoth⟩ := del_one hm6'.tidy hhas hm8
              have hsz2' : ((Maps.size D2 : Nat) : Int) = (ds.length : Int) := by omega
              have hown8 := ownsRow_strs (ownsRow_kept hown6 hg8 hml)
              have hB8 := below_row hB6 hg8 (by omega) hmb
              have hfin : Below w1.heap.size w1 w8 := hbel.trans (hB8.mono hz2')
              clear hm8 hm6' hown6 hB6 hB8 hhas hat1 hsz1' hsz2 hg8
              go_wp2_with fail
              refine (get_any hm8' s hs _ hat2).mono ?_
              rintro e w9 ⟨rfl, rfl⟩
              go_wp2_with fail
              refine (len_any hm8').mono ?_
              rintro e w9 ⟨rfl, rfl⟩
              go_wp2_with fail
              go_loop [11] (fun i => ∃ k : Nat, k ≤ ds.length ∧ i = .int .i64 k) (fun i => ds.length - (intOf i).toNat)
              case atStart => exact ⟨0, Nat.zero_le _, rfl⟩
              case round =>
                obtain ⟨m, hm, rfl⟩ := hrel
                by_cases hlt : m < ds.length
                · obtain ⟨b', o', rfl, _, hx⟩ := hown8.at (by omega)
                  have hxm := hx m hlt
                  have hmem := getD_mem ds ByteArray.empty m hlt
                  generalize ds.getD m ByteArray.empty = d at hxm hmem
                  clear hx hown8
                  by_cases hds : d = s
                  · subst hds
                    go_wp2_with fail
                    go_round
                    case rel => exact ⟨m + 1, by omega, by go_num⟩
                    case measure => simp [intOf]; omega
                  · obtain ⟨q1, hq1⟩ := hsrc d hmem hds
                    have hq2 := (hoth d hds).trans hq1
                    have hne := toList_ne hds
                    have hdlen := hlen d hmem
                    clear hq1
                    go_wp2_with fail
                    refine (getSource_src hm8' d hdlen _ hq2).mono ?_
                    rintro e w10 ⟨rfl, rfl⟩
                    go_wp2_with fail
                    go_round
                    case rel => exact ⟨m + 1, by omega, by go_num⟩
                    case measure => simp [intOf]; omega
                · go_wp2_with fail
                  go_ret
                  exact ⟨rfl, hfin⟩
            · obtain ⟨q, hat0⟩ := hinv.src s hin
              refine (findKey_at _ a ds.length c _ s (by omega) (ownsRow_strs hown) j hj hj1 hj2).mono ?_
              rintro e w5 ⟨rfl, rfl⟩
              go_wp2_with fail
              refine (getSource_src hm s hs _ hat0).mono ?_
              rintro e w5 ⟨rfl, rfl⟩
              go_wp2_with fail
              refine (addBuiltin_any hm s hs (by unfold maxLen; omega) none).mono ?_
              rintro e w6 ⟨rfl, hm6, -, hg6, -⟩
              obtain ⟨D1, hm6', hat1, hsz1, -, hhas, hsrc⟩ := hinv.over hm.tidy hm6
              have hsz1' := hsz1 hin
              have hown6 := ownsRow_kept hown hg6 hml
              have hB6 := below_row hB hg6 (by omega) hmb
              clear hm6 hsz1 hown hB hm hsz hinv hat0 hj1 hj2
              have z6 := hg6.size
              clear hg6
              go_wp2_with fail
              refine (len_any hm6').mono ?_
              rintro e w7 ⟨rfl, rfl⟩
              go_wp2_with fail
              refine (getBuiltin_bi hm6' s hs _ hat1).mono ?_
              rintro e w7 ⟨rfl, rfl⟩
              go_wp2_with fail
              refine (getSource_not hm6' s hs _ hat1 (.inr ⟨_, rfl⟩)).mono ?_
              rintro e w7 ⟨rfl, rfl⟩
              go_wp2_with fail
              refine (remove_any hm6' s hs).mono ?_
              rintro e w8 ⟨rfl, hm8, hg8, -⟩
              obtain ⟨D2, hm8', hat2, hsz2, hoth⟩ := del_one hm6'.tidy hhas hm8
              have hsz2' : ((Maps.size D2 : Nat) : Int) = (ds.length : Int) - 1 := by omega
              have hown8 := ownsRow_strs (ownsRow_kept hown6 hg8 hml)
              have hB8 := below_row hB6 hg8 (by omega) hmb
              have hfin : Below w1.heap.size w1 w8 := hbel.trans (hB8.mono hz2')
              clear hm8 hm6' hown6 hB6 hB8 hhas hat1 hsz1' hsz2 hg8
              go_wp2_with fail
              refine (get_any hm8' s hs _ hat2).mono ?_
              rintro e w9 ⟨rfl, rfl⟩
              go_wp2_with fail
              refine (len_any hm8').mono ?_
              rintro e w9 ⟨rfl, rfl⟩
              go_wp2_with fail
              go_loop [11] (fun i => ∃ k : Nat, k ≤ ds.length ∧ i = .int .i64 k) (fun i => ds.length - (intOf i).toNat)
              case atStart => exact ⟨0, Nat.zero_le _, rfl⟩
              case round =>
                obtain ⟨m, hm, rfl⟩ := hrel
                by_cases hlt : m < ds.length
                · obtain ⟨b', o', rfl, _, hx⟩ := hown8.at (by omega)
                  have hxm := hx m hlt
                  have hmem := getD_mem ds ByteArray.empty m hlt
                  generalize ds.getD m ByteArray.empty = d at hxm hmem
                  clear hx hown8
                  by_cases hds : d = s
                  · subst hds
                    go_wp2_with fail
                    go_round
                    case rel => exact ⟨m + 1, by omega, by go_num⟩
                    case measure => simp [intOf]; omega
                  · obtain ⟨q1, hq1⟩ := hsrc d hmem hds
                    have hq2 := (hoth d hds).trans hq1
                    have hne := toList_ne hds
                    have hdlen := hlen d hmem
                    clear hq1
                    go_wp2_with fail
                    refine (getSource_src hm8' d hdlen _ hq2).mono ?_
                    rintro e w10 ⟨rfl, rfl⟩
                    go_wp2_with fail
                    go_round
                    case rel => exact ⟨m + 1, by omega, by go_num⟩
                    case measure => simp [intOf]; omega
                · go_wp2_with fail
                  go_ret
                  exact ⟨rfl, hfin⟩
    · have hd : decide ((4096 : Int) < (n : Int)) = true := decide_eq_true (by omega)
      go_wp2_with fail
      go_ret
      exact ⟨rfl, Below.refl _ _⟩

end Go.Proofs.Yoefww
