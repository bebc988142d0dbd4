/-
  'entryAgrees(m, name, kind, tag)' where the map's entry is as kind and tag say.
-/
import Derived.Test.YoefwwOwn
import Derived.Deep.RegionHeld
namespace Go.Proofs.Yoefww
open Go.RowKit Go.Maps

/-- What the map holds under s, by kind and tag; A: the blocks that nobody writes. -/
def Ent (w : World) (A : Nat → Prop) (D : DataW Value) (s : ByteArray) (kd tg : Int) : Prop :=
  (kd = 0 ∧ has D (key s) = false) ∨
  (kd = 1 ∧ has D (key s) = true ∧ 0 ≤ tg ∧ tg < 65536 ∧ ∃ q ta, D.atKey (key s) (.held .nilIface) = .held (.iface 40 (.pointer (some ⟨q, 0, none⟩))) ∧
    w.cell? ⟨q, 0, none⟩ = some (.slice (some ⟨ta, 0, none⟩) 3 3) ∧ IsSl w (some ⟨ta, 0, none⟩) 3 3 (fun j => .int .u8 (tagF tg j)) ∧ A q ∧ A ta) ∨
  (kd = 2 ∧ has D (key s) = true ∧ ∃ q, D.atKey (key s) (.held .nilIface) = .held (.iface 50 (.pointer (some ⟨q, 0, none⟩))) ∧ w.cell? ⟨q, 0, none⟩ = some (.map none) ∧ A q)

theorem IsSl.lt {w : World} {b o : Nat} {n c : Nat} {f : Nat → Value} (h : IsSl w (some ⟨b, o, none⟩) n c f) (hn : 0 < n) : b < w.heap.size := by
  obtain ⟨b', o', e, _, hx⟩ := h.at hn
  cases e
  exact cell_lt (hx 0 hn)

theorem Ent.kept {w w' : World} {A A' : Nat → Prop} {D : DataW Value} {s : ByteArray} {kd tg : Int} (h : Ent w A D s kd tg) {row : Option Nat} (hg : w.grownBy w' row) (hr : ∀ b, A b → b < w.heap.size → some b ≠ row) (hA : ∀ b, A b → b < w.heap.size → A' b) : Ent w' A' D s kd tg := by
  rcases h with h | ⟨h1, h2, h3, h4, q, ta, h5, h6, h7, h8, h9⟩ | ⟨h1, h2, q, h5, h6, h8⟩
  · exact .inl h
  · have lq : q < w.heap.size := cell_lt h6
    have lt := h7.lt (by decide)
    exact .inr (.inl ⟨h1, h2, h3, h4, q, ta, h5, cell_grown hg h6 (hr q h8 lq), h7.grown hg (fun x hx => by cases hx; exact hr ta h9 lt), hA q h8 lq, hA ta h9 lt⟩)
  · have lq : q < w.heap.size := cell_lt h6
    exact .inr (.inr ⟨h1, h2, q, h5, cell_grown hg h6 (hr q h8 lq), hA q h8 lq⟩)

theorem Ent.put {w : World} {A : Nat → Prop} {D : DataW Value} {s t : ByteArray} {kd tg : Int} (h : Ent w A D s kd tg) (hne : s ≠ t) (d : DataW Value) : Ent w A (D.put (key t) d) s kd tg := by
  have e1 := has_put_other (D := D) (key_ne hne) d
  have e2 := fun z => atKey_put_other (D := D) (key_ne hne) d z
  unfold Ent
  rw [e1, e2]
  exact h

theorem Ent.del {w : World} {A : Nat → Prop} {D : DataW Value} {s t : ByteArray} {kd tg : Int} (h : Ent w A D s kd tg) (hne : s ≠ t) : Ent w A (D.del (key t)) s kd tg := by
  have e1 := has_del_other (D := D) (key_ne hne)
  have e2 := fun z => atKey_del_other (D := D) (key_ne hne) z
  unfold Ent
  rw [e1, e2]
  exact h

/-- The block that 'tagBytes' lays. -/
theorem tagBytes_is (w : World) (i : Int) : IsSl (w.alloc (.cells #[.int .u8 (i % 256), .int .u8 (i / 256), .int .u8 90] 5)).drew (some ⟨w.heap.size, 0, none⟩) 3 3 (fun j => .int .u8 (tagF i j)) := by
  refine .inr ⟨_, rfl, Nat.le_refl _, fun j hj => ?_⟩
  have e1 : (⟨w.heap.size, 0, none⟩ : Addr).add j = ⟨w.heap.size, j, none⟩ := by
    unfold Addr.add
    split
    · rename_i e; subst e; rfl
    · simp
  rw [e1, World.cell?_drew, World.cell?_alloc_new]
  match j, hj with
  | 0, _ => rfl
  | 1, _ => rfl
  | 2, _ => rfl

set_option maxHeartbeats 1000000 in
theorem entry0 {w : World} {p mb n : Nat} {D : DataW Value} (hm : MM w p mb n D) (s : ByteArray) (hs : s.size ≤ maxLen) (tg : Int) (hat : D.atKey (key s) (.held .nilIface) = .held .nilIface) :
    Calls Efwg.prog 20 #[.pointer (some ⟨p, 0, none⟩), .string s, .int .i64 0, .int .i64 tg] w fun e w' => e = .returned (.bool true) ∧ w' = w := by
  go_enter Efwg.func20, Efwg.ntmps20
  go_wp2_with fail
  refine (get_any hm s hs _ hat).mono ?_
  rintro e w1 ⟨rfl, rfl⟩
  go_wp2_with fail
  refine (getSource_not hm s hs _ hat (.inl rfl)).mono ?_
  rintro e w1 ⟨rfl, rfl⟩
  go_wp2_with fail
  refine (getBuiltin_not hm s hs _ hat (.inl rfl)).mono ?_
  rintro e w1 ⟨rfl, rfl⟩
  go_wp2_with fail
  go_ret
  exact ⟨rfl, rfl⟩

set_option maxHeartbeats 1000000 in
theorem entry2 {w : World} {p mb n : Nat} {D : DataW Value} (hm : MM w p mb n D) (s : ByteArray) (hs : s.size ≤ maxLen) (tg : Int) (q : Nat) (hat : D.atKey (key s) (.held .nilIface) = .held (.iface 50 (.pointer (some ⟨q, 0, none⟩)))) (hc : w.cell? ⟨q, 0, none⟩ = some (.map none)) :
    Calls Efwg.prog 20 #[.pointer (some ⟨p, 0, none⟩), .string s, .int .i64 2, .int .i64 tg] w fun e w' => e = .returned (.bool true) ∧ w' = w := by
  have qm := fun w => run_eql_map_nil (P := Efwg.prog) w 60 9 82 none Efwg.underlying60
  go_enter Efwg.func20, Efwg.ntmps20
  go_wp2_with fail
  refine (get_any hm s hs _ hat).mono ?_
  rintro e w1 ⟨rfl, rfl⟩
  go_wp2_with fail
  refine (getSource_not hm s hs _ hat (.inr ⟨_, rfl⟩)).mono ?_
  rintro e w1 ⟨rfl, rfl⟩
  go_wp2_with fail
  refine (getBuiltin_bi hm s hs _ hat).mono ?_
  rintro e w1 ⟨rfl, rfl⟩
  go_wp2_with fail
  go_ret
  exact ⟨rfl, rfl⟩

set_option maxHeartbeats 1000000 in
theorem entry1 {w : World} {p mb n : Nat} {D : DataW Value} (hm : MM w p mb n D) (s : ByteArray) (hs : s.size ≤ maxLen) (tg : Int) (h0 : 0 ≤ tg) (h1 : tg < 65536) (q ta : Nat) (hat : D.atKey (key s) (.held .nilIface) = .held (.iface 40 (.pointer (some ⟨q, 0, none⟩)))) (hc : w.cell? ⟨q, 0, none⟩ = some (.slice (some ⟨ta, 0, none⟩) 3 3))
    (ht : IsSl w (some ⟨ta, 0, none⟩) 3 3 (fun j => .int .u8 (tagF tg j))) :
    Calls Efwg.prog 20 #[.pointer (some ⟨p, 0, none⟩), .string s, .int .i64 1, .int .i64 tg] w fun e w' => e = .returned (.bool true) ∧ w.grownBy w' none := by
  go_enter Efwg.func20, Efwg.ntmps20
  go_wp2_with fail
  refine (get_any hm s hs _ hat).mono ?_
  rintro e w1 ⟨rfl, rfl⟩
  go_wp2_with fail
  refine (getSource_src hm s hs _ hat).mono ?_
  rintro e w1 ⟨rfl, rfl⟩
  go_wp2_with fail
  refine (getBuiltin_not hm s hs _ hat (.inr ⟨_, rfl⟩)).mono ?_
  rintro e w1 ⟨rfl, rfl⟩
  have hql : q < w1.heap.size := cell_lt hc
  have ht' := tagBytes_is w1 tg
  have qn : ∀ w : World, (binOp .neq 40 (.pointer (some ⟨q, 0, none⟩)) (.pointer none)).run Efwg.prog w = .ok (.bool true) w := fun w => run_neq_pointer_nil w 40 (some ⟨q, 0, none⟩) (by kernel_rfl)
  clear hat hm hs
  go_wp2_with fail
  go_region_held (fun w' => w'.cell? ⟨q, 0, none⟩ = some (.slice (some ⟨ta, 0, none⟩) 3 3)) (first | go_keep | exact cell_grown hg3 (by go_keep) (by simp)) (first
    | (go_at_call 16; refine (tagBytes_any _ _ h0 h1).mono ?_; rintro e w2 ⟨rfl, rfl⟩)
    | (go_at_call 29; refine (eqBytes_same _ _ _ 3 3 3 (tagF tg) (by decide) (ht.grown (row := none) ((World.grownBy_alloc _ _ _).trans (grown_drew _ _)) (by simp)) ht').mono ?_; rintro e w3 ⟨rfl, hg3⟩))
  all_goals
    go_wp2_with fail
    go_ret
    exact ⟨rfl, ((World.grownBy_alloc _ _ none).trans (grown_drew _ _)).trans hg3⟩

/-- .. whatever the kind. -/
theorem entry_any {w : World} {A : Nat → Prop} {p mb n : Nat} {D : DataW Value} (hm : MM w p mb n D) (s : ByteArray) (hs : s.size ≤ maxLen) (kd tg : Int) (he : Ent w A D s kd tg) :
    Calls Efwg.prog 20 #[.pointer (some ⟨p, 0, none⟩), .string s, .int .i64 kd, .int .i64 tg] w fun e w' => e = .returned (.bool true) ∧ w.grownBy w' none := by
  rcases he with ⟨rfl, h2⟩ | ⟨rfl, h2, h3, h4, q, ta, h5, h6, h7, _, _⟩ | ⟨rfl, h2, q, h5, h6, _⟩
  · exact (entry0 hm s hs tg (atKey_of_not_has h2 _)).mono fun e w' ⟨he, hw⟩ => ⟨he, hw ▸ World.grownBy.refl _ _⟩
  · exact entry1 hm s hs tg h3 h4 q ta h5 h6 h7
  · exact (entry2 hm s hs tg q h5 h6).mono fun e w' ⟨he, hw⟩ => ⟨he, hw ▸ World.grownBy.refl _ _⟩

end Go.Proofs.Yoefww
