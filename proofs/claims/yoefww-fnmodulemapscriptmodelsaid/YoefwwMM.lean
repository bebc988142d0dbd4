/-
  CONTRACTS OF THE MODULE MAP's OWN METHODS (modules.go). A module map is a pointer to a one-cell block that holds a map; the map reads as a datum D whose elements are the values themselves ('held').
-/
import Derived.Test.YoefwwProg
import Derived.WalkKit
import Derived.WalkSpells
import Derived.WalkLawsBesides
import Derived.Maps.RangeWalk
import Derived.Lib.Builder
import Derived.Laws.Pointers
import Derived.WideLaws
namespace Go.Proofs.Yoefww
open Go.RowKit Go.Maps

/-- How an element reads: as itself. -/
def held (v : Value) : Option (DataW Value × List MemPlace) := some (.held v, [])

theorem law9 : Keyed Efwg.prog 9 := string_keyed Efwg.underlying9
theorem zero47 (w : World) : (zeroValue 47).run Efwg.prog w = .ok .nilIface w := by kernel_rfl

/-- A pointer to a source module held against itself. -/
theorem some42 : ∃ j, Efwg.prog.info? 42 = some j := by
  have h : (Efwg.prog.info? 42).isSome = true := by kernel_rfl
  exact Option.isSome_iff_exists.1 h
theorem neq40 (w : World) (a : Addr) : (binOp .neq 40 (.pointer (some a)) (.pointer (some a))).run Efwg.prog w = .ok (.bool false) w := by
  obtain ⟨j, hj⟩ := some42
  exact Lib.run_neq_ptr_same w a Efwg.underlying40 hj
theorem eql40 (w : World) (a : Addr) : (binOp .eql 40 (.pointer (some a)) (.pointer (some a))).run Efwg.prog w = .ok (.bool true) w := by
  obtain ⟨j, hj⟩ := some42
  exact run_eql_ptr_same w a Efwg.underlying40 hj

/-- What a string reads as, as a key. -/
def key (s : ByteArray) : Lit := .string s.data.toList
theorem keyOf_key {s : ByteArray} (h : s.size ≤ maxLen) : keyOf Efwg.prog 9 (.string s) = some (key s) := WideMaps.keyOf_string_mk Efwg.underlying9 h
theorem key_inj {s t : ByteArray} (h : key s = key t) : s = t := by
  unfold key at h
  have h1 := Lit.string.inj h
  cases s with | mk a => cases t with | mk b =>
    simp at h1
    rw [h1]
theorem key_ne {s t : ByteArray} (h : s ≠ t) : key s ≠ key t := fun e => h (key_inj e)
theorem key_isKey (s : ByteArray) : WideAt.IsKeyLit (key s) := trivial

/-- THE MODULE MAP AT BLOCK p, ITS MAP IN BLOCK mb, OF AT MOST n ENTRIES, READING AS D. -/
def MM (w : World) (p mb n : Nat) (D : DataW Value) : Prop :=
  w.cell? ⟨p, 0, none⟩ = some (.map (some mb)) ∧ w.ownsMap Efwg.prog 9 held mb n D

theorem MM.ne {w : World} {p mb n : Nat} {D : DataW Value} (h : MM w p mb n D) : p ≠ mb := by
  rintro rfl
  obtain ⟨h1, es, clock, h2, _⟩ := h
  simp [World.cell?, h2] at h1

theorem cell_lt {w : World} {a : Addr} {v : Value} (h : w.cell? a = some v) : a.block < w.heap.size := by
  unfold World.cell? at h
  cases e : w.heap[a.block]? with
  | none => rw [e] at h; cases h
  | some o => exact (Array.getElem?_eq_some_iff.1 e).1

theorem MM.ltp {w : World} {p mb n : Nat} {D : DataW Value} (h : MM w p mb n D) : p < w.heap.size := cell_lt h.1
theorem MM.ltm {w : World} {p mb n : Nat} {D : DataW Value} (h : MM w p mb n D) : mb < w.heap.size := h.2.lt

theorem cell_grown {w w' : World} {row : Option Nat} (hg : w.grownBy w' row) {a : Addr} {v : Value} (h : w.cell? a = some v) (hne : some a.block ≠ row) : w'.cell? a = some v :=
  (World.cell?_of_block (hg.block a.block (cell_lt h) hne)).trans h

theorem MM.kept {w w' : World} {p mb n : Nat} {D : DataW Value} {row : Option Nat} (h : MM w p mb n D) (hg : w.grownBy w' row) (hp : some p ≠ row) (hm : some mb ≠ row) : MM w' p mb n D :=
  ⟨cell_grown hg h.1 hp, h.2.kept hg hm⟩

theorem MM.mono {w : World} {p mb n n' : Nat} {D : DataW Value} (h : MM w p mb n D) (hn : n ≤ n') : MM w p mb n' D := ⟨h.1, h.2.mono hn⟩
theorem MM.drew {w : World} {p mb n : Nat} {D : DataW Value} (h : MM w p mb n D) : MM w.drew p mb n D := h
theorem MM.isMap {w : World} {p mb n : Nat} {D : DataW Value} (h : MM w p mb n D) : IsMap D := h.2.isMap
theorem MM.tidy {w : World} {p mb n : Nat} {D : DataW Value} (h : MM w p mb n D) : Tidy D := h.2.tidy law9

set_option maxHeartbeats 400000 in
/-- 'NewModuleMap()'. -/
theorem new_any (w : World) : Calls Efwg.prog 13 #[] w fun e w' =>
    e = .returned (.pointer (some ⟨w.heap.size + 1, 0, none⟩)) ∧ MM w' (w.heap.size + 1) w.heap.size 0 (.map []) ∧ w.grownBy w' none ∧ w'.heap.size = w.heap.size + 2 := by
  have hmm := @run_makeMap Efwg.prog
  go_enter Efwg.func13, Efwg.ntmps13
  go_wp2
  go_ret
  refine ⟨rfl, ⟨?_, (World.ownsMap_made _ _ _ _).alloc _⟩, ((World.grownBy_alloc w _ none).trans (World.grownBy_alloc _ _ none)), by simp⟩
  rw [World.cell?_alloc_at _ _ _ _ (by simp)]
  rfl

theorem new_ex (w : World) : Calls Efwg.prog 13 #[] w fun e w' =>
    ∃ p mb, e = .returned (.pointer (some ⟨p, 0, none⟩)) ∧ MM w' p mb 0 (.map []) ∧ w.grownBy w' none ∧ w.heap.size ≤ p ∧ w.heap.size ≤ mb :=
  (new_any w).mono fun _ _ ⟨h1, h2, h3, _⟩ => ⟨_, _, h1, h2, h3, Nat.le_succ _, Nat.le_refl _⟩

set_option maxHeartbeats 400000 in
/-- 'm.Len()'. -/
theorem len_any {p mb n : Nat} {D : DataW Value} {w : World} (h : MM w p mb n D) : Calls Efwg.prog 21 #[.pointer (some ⟨p, 0, none⟩)] w fun e w' =>
    e = .returned (.int .i64 (Maps.size D)) ∧ w' = w := by
  obtain ⟨h1, h2⟩ := h
  go_enter Efwg.func21, Efwg.ntmps21
  go_wp2_with (first
    | (at_len; refine wpList_len_own _ rfl _ 57 rfl 9 47 Efwg.underlying57 _ mb n D rfl h2 ?_)
    | go_in)
  go_ret
  exact ⟨rfl, rfl⟩

set_option maxHeartbeats 400000 in
/-- 'm.Add(name, module)'. -/
theorem add_any {p mb n : Nat} {D : DataW Value} {w : World} (h : MM w p mb n D) (s : ByteArray) (hs : s.size ≤ maxLen) (hn : n < maxLen) (v : Value) :
    Calls Efwg.prog 19 #[.pointer (some ⟨p, 0, none⟩), .string s, v] w fun e w' =>
      e = .returned (.tuple #[]) ∧ MM w' p mb (n + 1) (D.put (key s) (.held v)) ∧ w.grownBy w' (some mb) ∧ w'.heap.size = w.heap.size := by
  have hne := h.ne
  obtain ⟨h1, h2⟩ := h
  go_enter Efwg.func19, Efwg.ntmps19
  go_wp2_with (first
    | (at_mapUpdate; refine wpList_mapUpdate_in _ rfl _ _ _ 57 rfl 9 47 law9 Efwg.underlying57 held mb n D rfl h2 hn _ _ _ rfl rfl (keyOf_key hs) (.held v) [] rfl ?_; intro w1 hown1 hgrow1)
    | go_in)
  go_end0
  refine ⟨rfl, ⟨cell_grown hgrow1.grown h1 (by simpa using hne), hown1⟩, hgrow1.grown, ?_⟩
  obtain ⟨es, clock, es', clock', hb, rfl⟩ := hgrow1
  simp [ChangeMaps.setBlock]

/-- What a value stored in the map may be: nil, or of one of the two kinds. -/
def IsMod (v : Value) : Prop := v = .nilIface ∨ ∃ a, v = .iface 40 (.pointer a) ∨ v = .iface 50 (.pointer a)
/-- 'x, _ := v.(T)' at a pointer type. -/
def asT (t : TypeId) : Value → Value
  | .iface u x => if u = t then x else .pointer none
  | _ => .pointer none

theorem assert40_nil (W : World) : (Instr.typeAssert .nilIface 47 40 true).run Efwg.prog W = .ok (.tuple #[.pointer none, .bool false]) W := by kernel_rfl
theorem assert40_yes (W : World) (v : Value) : (Instr.typeAssert (.iface 40 v) 47 40 true).run Efwg.prog W = .ok (.tuple #[v, .bool true]) W := by kernel_rfl
theorem assert40_no (W : World) (v : Value) : (Instr.typeAssert (.iface 50 v) 47 40 true).run Efwg.prog W = .ok (.tuple #[.pointer none, .bool false]) W := by kernel_rfl
theorem assert50_nil (W : World) : (Instr.typeAssert .nilIface 47 50 true).run Efwg.prog W = .ok (.tuple #[.pointer none, .bool false]) W := by kernel_rfl
theorem assert50_yes (W : World) (v : Value) : (Instr.typeAssert (.iface 50 v) 47 50 true).run Efwg.prog W = .ok (.tuple #[v, .bool true]) W := by kernel_rfl
theorem assert50_no (W : World) (v : Value) : (Instr.typeAssert (.iface 40 v) 47 50 true).run Efwg.prog W = .ok (.tuple #[.pointer none, .bool false]) W := by kernel_rfl

theorem look_any {w : World} {mb n : Nat} {D : DataW Value} (h : w.ownsMap Efwg.prog 9 held mb n D) {s : ByteArray} (hs : s.size ≤ maxLen) {v : Value} (hv : D.atKey (key s) (.held .nilIface) = .held v) :
    (Instr.lookup 57 (.map (some mb)) (.string s) false).run Efwg.prog w = .ok v w := by
  obtain ⟨x, ps, hr, hx⟩ := h.lookup law9 Efwg.underlying57 (zero47 w) (zd := .held .nilIface) (zp := []) rfl (keyOf_key hs)
  rw [hv] at hx
  simp [held] at hx
  rw [hr, hx.1]

set_option maxHeartbeats 400000 in
/-- 'm.Get(name)'. -/
theorem get_any {p mb n : Nat} {D : DataW Value} {w : World} (h : MM w p mb n D) (s : ByteArray) (hs : s.size ≤ maxLen) (v : Value) (hv : D.atKey (key s) (.held .nilIface) = .held v) :
    Calls Efwg.prog 24 #[.pointer (some ⟨p, 0, none⟩), .string s] w fun e w' => e = .returned v ∧ w' = w := by
  obtain ⟨h1, h2⟩ := h
  have hl := look_any h2 hs hv
  clear hv
  go_enter Efwg.func24, Efwg.ntmps24
  go_wp2
  go_ret
  exact ⟨rfl, rfl⟩

set_option maxHeartbeats 400000 in
/-- 'm.GetSourceModule(name)'. -/
theorem getSource_any {p mb n : Nat} {D : DataW Value} {w : World} (h : MM w p mb n D) (s : ByteArray) (hs : s.size ≤ maxLen) (v : Value) (hv : D.atKey (key s) (.held .nilIface) = .held v) (hm : IsMod v) :
    Calls Efwg.prog 25 #[.pointer (some ⟨p, 0, none⟩), .string s] w fun e w' => e = .returned (asT 40 v) ∧ w' = w := by
  obtain ⟨h1, h2⟩ := h
  have hl := look_any h2 hs hv
  have a1 := assert40_nil
  have a2 := assert40_yes
  have a3 := assert40_no
  clear hv
  rcases hm with rfl | ⟨a, rfl | rfl⟩
  all_goals
    go_enter Efwg.func25, Efwg.ntmps25
    go_wp2
    go_ret
    exact ⟨rfl, rfl⟩

set_option maxHeartbeats 400000 in
/-- 'm.GetBuiltinModule(name)'. -/
theorem getBuiltin_any {p mb n : Nat} {D : DataW Value} {w : World} (h : MM w p mb n D) (s : ByteArray) (hs : s.size ≤ maxLen) (v : Value) (hv : D.atKey (key s) (.held .nilIface) = .held v) (hm : IsMod v) :
    Calls Efwg.prog 26 #[.pointer (some ⟨p, 0, none⟩), .string s] w fun e w' => e = .returned (asT 50 v) ∧ w' = w := by
  obtain ⟨h1, h2⟩ := h
  have hl := look_any h2 hs hv
  have a1 := assert50_nil
  have a2 := assert50_yes
  have a3 := assert50_no
  clear hv
  rcases hm with rfl | ⟨a, rfl | rfl⟩
  all_goals
    go_enter Efwg.func26, Efwg.ntmps26
    go_wp2
    go_ret
    exact ⟨rfl, rfl⟩

theorem getSource_src {p mb n : Nat} {D : DataW Value} {w : World} (h : MM w p mb n D) (s : ByteArray) (hs : s.size ≤ maxLen) (a : Option Addr) (hv : D.atKey (key s) (.held .nilIface) = .held (.iface 40 (.pointer a))) :
    Calls Efwg.prog 25 #[.pointer (some ⟨p, 0, none⟩), .string s] w fun e w' => e = .returned (.pointer a) ∧ w' = w :=
  getSource_any h s hs _ hv (.inr ⟨a, .inl rfl⟩)

theorem getSource_not {p mb n : Nat} {D : DataW Value} {w : World} (h : MM w p mb n D) (s : ByteArray) (hs : s.size ≤ maxLen) (v : Value) (hv : D.atKey (key s) (.held .nilIface) = .held v) (hn : v = .nilIface ∨ ∃ a, v = .iface 50 (.pointer a)) :
    Calls Efwg.prog 25 #[.pointer (some ⟨p, 0, none⟩), .string s] w fun e w' => e = .returned (.pointer none) ∧ w' = w := by
  rcases hn with rfl | ⟨a, rfl⟩
  · exact getSource_any h s hs _ hv (.inl rfl)
  · exact getSource_any h s hs _ hv (.inr ⟨a, .inr rfl⟩)

theorem getBuiltin_bi {p mb n : Nat} {D : DataW Value} {w : World} (h : MM w p mb n D) (s : ByteArray) (hs : s.size ≤ maxLen) (a : Option Addr) (hv : D.atKey (key s) (.held .nilIface) = .held (.iface 50 (.pointer a))) :
    Calls Efwg.prog 26 #[.pointer (some ⟨p, 0, none⟩), .string s] w fun e w' => e = .returned (.pointer a) ∧ w' = w :=
  getBuiltin_any h s hs _ hv (.inr ⟨a, .inr rfl⟩)

theorem getBuiltin_not {p mb n : Nat} {D : DataW Value} {w : World} (h : MM w p mb n D) (s : ByteArray) (hs : s.size ≤ maxLen) (v : Value) (hv : D.atKey (key s) (.held .nilIface) = .held v) (hn : v = .nilIface ∨ ∃ a, v = .iface 40 (.pointer a)) :
    Calls Efwg.prog 26 #[.pointer (some ⟨p, 0, none⟩), .string s] w fun e w' => e = .returned (.pointer none) ∧ w' = w := by
  rcases hn with rfl | ⟨a, rfl⟩
  · exact getBuiltin_any h s hs _ hv (.inl rfl)
  · exact getBuiltin_any h s hs _ hv (.inr ⟨a, .inl rfl⟩)

set_option maxHeartbeats 400000 in
/-- 'm.AddSourceModule(name, src)'. -/
theorem addSource_any {p mb n : Nat} {D : DataW Value} {w : World} (h : MM w p mb n D) (s : ByteArray) (hs : s.size ≤ maxLen) (hn : n < maxLen) (a : Option Addr) (len cap : Nat) :
    Calls Efwg.prog 15 #[.pointer (some ⟨p, 0, none⟩), .string s, .slice a len cap] w fun e w' =>
      e = .returned (.tuple #[]) ∧ MM w' p mb (n + 1) (D.put (key s) (.held (.iface 40 (.pointer (some ⟨w.heap.size, 0, none⟩))))) ∧ w'.cell? ⟨w.heap.size, 0, none⟩ = some (.slice a len cap) ∧
      w.grownBy w' (some mb) ∧ w'.heap.size = w.heap.size + 1 := by
  have hne := h.ne
  have hlp := h.ltp
  have hlm := h.ltm
  obtain ⟨h1, h2⟩ := h
  go_enter Efwg.func15, Efwg.ntmps15
  go_wp2_with (first
    | (at_mapUpdate; refine wpList_mapUpdate_in _ rfl _ _ _ 57 rfl 9 47 law9 Efwg.underlying57 held mb n D rfl (h2.alloc _) hn _ _ _ rfl rfl (keyOf_key hs) (.held (.iface 40 (.pointer (some ⟨w.heap.size, 0, none⟩)))) [] rfl ?_; intro w1 hown1 hgrow1)
    | go_in)
  go_end0
  have hg := hgrow1.grown
  refine ⟨rfl, ⟨cell_grown hg (cell_grown (World.grownBy_alloc _ _ none) h1 (by simp)) (by simpa using hne), hown1⟩, cell_grown hg (World.cell?_alloc_new _ _ _ _) (by simp; omega), (World.grownBy_alloc _ _ _).trans hg, ?_⟩
  obtain ⟨es, clock, es', clock', hb, rfl⟩ := hgrow1
  simp [ChangeMaps.setBlock]

set_option maxHeartbeats 400000 in
/-- 'm.AddBuiltinModule(name, attrs)'. -/
theorem addBuiltin_any {p mb n : Nat} {D : DataW Value} {w : World} (h : MM w p mb n D) (s : ByteArray) (hs : s.size ≤ maxLen) (hn : n < maxLen) (a : Option Nat) :
    Calls Efwg.prog 17 #[.pointer (some ⟨p, 0, none⟩), .string s, .map a] w fun e w' =>
      e = .returned (.tuple #[]) ∧ MM w' p mb (n + 1) (D.put (key s) (.held (.iface 50 (.pointer (some ⟨w.heap.size, 0, none⟩))))) ∧ w'.cell? ⟨w.heap.size, 0, none⟩ = some (.map a) ∧
      w.grownBy w' (some mb) ∧ w'.heap.size = w.heap.size + 1 := by
  have hne := h.ne
  have hlp := h.ltp
  have hlm := h.ltm
  obtain ⟨h1, h2⟩ := h
  go_enter Efwg.func17, Efwg.ntmps17
  go_wp2_with (first
    | (at_mapUpdate; refine wpList_mapUpdate_in _ rfl _ _ _ 57 rfl 9 47 law9 Efwg.underlying57 held mb n D rfl (h2.alloc _) hn _ _ _ rfl rfl (keyOf_key hs) (.held (.iface 50 (.pointer (some ⟨w.heap.size, 0, none⟩)))) [] rfl ?_; intro w1 hown1 hgrow1)
    | go_in)
  go_end0
  have hg := hgrow1.grown
  refine ⟨rfl, ⟨cell_grown hg (cell_grown (World.grownBy_alloc _ _ none) h1 (by simp)) (by simpa using hne), hown1⟩, cell_grown hg (World.cell?_alloc_new _ _ _ _) (by simp; omega), (World.grownBy_alloc _ _ _).trans hg, ?_⟩
  obtain ⟨es, clock, es', clock', hb, rfl⟩ := hgrow1
  simp [ChangeMaps.setBlock]

set_option maxHeartbeats 400000 in
/-- 'm.Remove(name)'. -/
theorem remove_any {p mb n : Nat} {D : DataW Value} {w : World} (h : MM w p mb n D) (s : ByteArray) (hs : s.size ≤ maxLen) :
    Calls Efwg.prog 18 #[.pointer (some ⟨p, 0, none⟩), .string s] w fun e w' =>
      e = .returned (.tuple #[]) ∧ MM w' p mb n (D.del (key s)) ∧ w.grownBy w' (some mb) ∧ w'.heap.size = w.heap.size := by
  have hne := h.ne
  obtain ⟨h1, h2⟩ := h
  go_enter Efwg.func18, Efwg.ntmps18
  go_wp2_with (first
    | (at_delete; refine wpList_delete_own _ rfl _ _ 57 9 rfl 47 law9 Efwg.underlying57 held mb n D rfl h2 _ _ rfl (keyOf_key hs) ?_; intro w1 hown1 hturn1)
    | go_in)
  go_end0
  refine ⟨rfl, ⟨cell_grown hturn1.grown h1 (by simpa using hne), hown1⟩, hturn1.grown, ?_⟩
  obtain ⟨es, clock, es', clock', hb, rfl⟩ := hturn1
  simp [ChangeMaps.setBlock]

end Go.Proofs.Yoefww
