/-
  '(*ModuleMap).Copy': 'for name, mod := range m.m { c.m[name] = mod }': a new module map that reads as the old one, in whatever order the entries come.
-/
import Derived.Test.YoefwwMM
import Derived.Maps.Ext
namespace Go.Proofs.Yoefww
open Go.RowKit Go.Maps

theorem keyOf9_inv {v : Value} {kl : Lit} (h : keyOf Efwg.prog 9 v = some kl) : ∃ x, v = .string x := by
  simp [keyOf, Efwg.underlying9] at h
  cases v <;> simp [mapKey, Efwg.underlying9] at h
  exact ⟨_, rfl⟩

set_option maxHeartbeats 1000000 in
theorem copy_any {p mb n : Nat} {D : DataW Value} {w : World} (h : MM w p mb n D) (hn : n < maxLen) :
    Calls Efwg.prog 23 #[.pointer (some ⟨p, 0, none⟩)] w fun e w' =>
      e = .returned (.pointer (some ⟨w.heap.size + 1, 0, none⟩)) ∧ MM w' (w.heap.size + 1) w.heap.size n D ∧ w.grownBy w' none := by
  have hmm := @run_makeMap Efwg.prog
  have hlp := h.ltp
  have hlm := h.ltm
  have hne := h.ne
  have hdn : Maps.size D ≤ n := h.2.size_le
  obtain ⟨h1, h2⟩ := h
  go_enter Efwg.func23, Efwg.ntmps23
  go_wp2_with (first
    | (at_range; refine wpList_range_own _ rfl _ 57 rfl 9 47 law9 Efwg.underlying57 held mb n D rfl ((h2.alloc _).alloc _) ?_; intro w0 hrg0 hg0 hs0)
    | go_in)
  go_frame
  have e1 : ((w.alloc (Obj.map #[] 0)).alloc (Obj.cells #[Value.map (some w.heap.size)] 59)).heap.size = w.heap.size + 2 := by simp
  rw [e1] at hrg0 hs0 ⊢
  have hga : w.grownBy ((w.alloc (Obj.map #[] 0)).alloc (Obj.cells #[Value.map (some w.heap.size)] 59)) none := (World.grownBy_alloc _ _ _).trans (World.grownBy_alloc _ _ _)
  have hc0 : ((w.alloc (Obj.map #[] 0)).alloc (Obj.cells #[Value.map (some w.heap.size)] 59)).cell? ⟨w.heap.size + 1, 0, none⟩ = some (.map (some w.heap.size)) := by
    rw [World.cell?_alloc_at _ _ _ _ (by simp)]
    rfl
  have hc1 := cell_grown hg0 hc0 (by simp)
  have ho1 := ((World.ownsMap_made w Efwg.prog 9 held).alloc (Obj.cells #[Value.map (some w.heap.size)] 59)).kept hg0 (by simp)
  have hgw := hga.trans hg0
  clear hc0 hga e1
  go_loopw [4] (fun _ wr => ∃ (left : Lit → Bool) (cnt : Nat) (Dout : DataW Value), wr.ranges Efwg.prog 9 held mb (w.heap.size + 2) n D left cnt ∧ cnt ≤ Maps.size D ∧
      wr.ownsMap Efwg.prog 9 held w.heap.size (Maps.size D - cnt) Dout ∧ Agree Dout D left ∧ wr.cell? ⟨w.heap.size + 1, 0, none⟩ = some (.map (some w.heap.size)) ∧ w.grownBy wr none)
    (fun _ wr => wr.rangeLeft mb (w.heap.size + 2))
  case atStart =>
    exact ⟨_, _, .map [], hrg0, Nat.le_refl _, ho1.mono (Nat.zero_le _), agree_start D, hc1, hgw⟩
  case round =>
    obtain ⟨left, cnt, Dout, hrg, hcs, hout, hA, hc, hgr⟩ := hrel
    go_wp2_with (first
      | (at_next; refine wpList_next_ranges _ rfl _ rfl 9 law9 held Value.string (fun v => v) (fun _ _ hk => keyOf9_inv hk) (fun v _ _ => ⟨v, rfl⟩) mb (w.heap.size + 2) n _ _ _ rfl hrg ?_ ?_)
      | go_in)
    · intro hc0 hl0
      go_wp2
      go_ret
      subst hc0
      have e := agree_end hA hl0 (hout.canon law9) (h2.canon law9)
      subst e
      exact ⟨rfl, ⟨hc, hout.mono (by omega)⟩, hgr⟩
    · intro x v kl y ps w1 cnt1 hkx hlx hv hat hrg1 hlt hg1 hs1 hen
      have hout1 := hout.kept hg1 (by simp)
      have hc1' := cell_grown hg1 hc (by simp)
      go_wp2_with (first
        | (at_mapUpdate; refine wpList_mapUpdate_own _ rfl _ _ _ 57 rfl 9 47 law9 Efwg.underlying57 held w.heap.size _ _ rfl hout1 (by omega) _ _ _ rfl rfl hkx _ _ hv ?_; intro w2 hout2 hg2; go_frame)
        | go_in)
      have hrg2 := hrg1.kept hg2 (fun e => by have := Option.some.inj e; omega) (fun e => by have := Option.some.inj e; omega)
      have hc2 := cell_grown hg2 hc1' (by simp)
      go_roundw
      case rel =>
        exact ⟨_, cnt1, _, hrg2, by omega, hout2.mono (by omega), agree_step hA hout.isMap (law9.key hkx) hat, hc2, (hgr.andThen hg1 (fun j hj => by cases hj; exact .inl (by omega))).andThen hg2 (fun j hj => by cases hj; exact .inl (Nat.le_refl _))⟩
      case measure => rw [hrg2.left_eq, hrg.left_eq]; exact hlt

theorem copy_ex {p mb n : Nat} {D : DataW Value} {w : World} (h : MM w p mb n D) (hn : n < maxLen) :
    Calls Efwg.prog 23 #[.pointer (some ⟨p, 0, none⟩)] w fun e w' =>
      ∃ p' mb', e = .returned (.pointer (some ⟨p', 0, none⟩)) ∧ MM w' p' mb' n D ∧ w.grownBy w' none ∧ w.heap.size ≤ p' ∧ w.heap.size ≤ mb' :=
  (copy_any h hn).mono fun _ _ ⟨h1, h2, h3⟩ => ⟨_, _, h1, h2, h3, Nat.le_succ _, Nat.le_refl _⟩

end Go.Proofs.Yoefww
