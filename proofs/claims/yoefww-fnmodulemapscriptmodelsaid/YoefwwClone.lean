/-
  THE CLONES: cloneBytes, cloneStrings, cloneUint32s: a nil slice gives nil; else a new row with the same elements.
-/
import Derived.Test.YoefwwMM
namespace Go.Proofs.Yoefww
open Go.RowKit Go.Maps

theorem Efwg.info5 : (Efwg.prog.info? 5).map (fun i => (i.zero, i.size, i.bytes)) = some (some (.int .u8 0), 1, 1) := by kernel_rfl
theorem Efwg.info9 : (Efwg.prog.info? 9).map (fun i => (i.zero, i.size, i.bytes)) = some (some (.string ByteArray.empty), 1, 16) := by kernel_rfl
theorem Efwg.info31 : (Efwg.prog.info? 31).map (fun i => (i.zero, i.size, i.bytes)) = some (some (.int .u32 0), 1, 4) := by kernel_rfl

theorem getD_mem {α : Type} (l : List α) (d : α) (i : Nat) (h : i < l.length) : l.getD i d ∈ l := by
  rw [List.getD_eq_getElem?_getD, List.getElem?_eq_getElem h]
  exact List.getElem_mem h

/-- A new row of n cells of which the first k have been written. -/
def cl (z : Value) (f : Nat → Value) (n k : Nat) : Array Value := (Array.range n).map (fun i => if i < k then f i else z)
theorem cl_size (z : Value) (f : Nat → Value) (n k : Nat) : (cl z f n k).size = n := by simp [cl]
theorem cl_get (z : Value) (f : Nat → Value) (n k i : Nat) (h : i < n) : (cl z f n k)[i]? = some (if i < k then f i else z) := by
  unfold cl
  rw [Array.getElem?_map, Array.getElem?_range]
  simp [h]
theorem cl_step (z : Value) (f : Nat → Value) (n k : Nat) : (cl z f n k).setIfInBounds k (f k) = cl z f n (k + 1) := by
  apply Array.ext_getElem?
  intro i
  rw [Array.getElem?_setIfInBounds]
  by_cases hi : i < n
  · rw [cl_get z f n (k + 1) i hi]
    by_cases e : k = i
    · subst e
      simp [cl_size, hi]
    · simp only [e, if_false]
      rw [cl_get z f n k i hi]
      by_cases h1 : i < k
      · simp [h1, Nat.lt_succ_of_lt h1]
      · have : ¬ i < k + 1 := by omega
        simp [h1, this]
  · have h1 : (cl z f n k)[i]? = none := by simp [cl_size]; omega
    have h2 : (cl z f n (k + 1))[i]? = none := by simp [cl_size]; omega
    rw [h1, h2]
    split
    · simp [cl_size]; omega
    · rfl
theorem madeCells_cl (z : Value) (f : Nat → Value) (n : Nat) (hz : z.cells = #[z]) : madeCells z.cells (n * 1) = cl z f n 0 := by
  apply Array.ext_getElem?
  intro i
  rw [hz, Nat.mul_one]
  unfold madeCells cl
  by_cases hi : i < n
  · simp [hi, Nat.mod_one]
  · simp [hi]

/-- A slice of n elements whose i-th is 'f i'. -/
def IsSl (w : World) (a : Option Addr) (n c : Nat) (f : Nat → Value) : Prop :=
  (a = none ∧ n = 0 ∧ c = 0) ∨ ∃ x, a = some x ∧ n ≤ c ∧ ∀ i, i < n → w.cell? (x.add i) = some (f i)

theorem IsSl.at {w : World} {a : Option Addr} {n c : Nat} {f : Nat → Value} (h : IsSl w a n c f) (hn : 0 < n) : ∃ b o, a = some ⟨b, o, none⟩ ∧ n ≤ c ∧ ∀ i, i < n → w.cell? ⟨b, o + i, none⟩ = some (f i) := by
  rcases h with ⟨_, h, _⟩ | ⟨x, rfl, hc, hx⟩
  · omega
  · obtain ⟨b, o, sp⟩ := x
    have h0 := hx 0 hn
    have hsp : sp = none := by
      cases sp with
      | none => rfl
      | some y =>
        simp [Addr.add, World.cell?] at h0
        split at h0 <;> simp at h0
    subst hsp
    refine ⟨b, o, rfl, hc, fun i hi => ?_⟩
    rw [← hx i hi]
    unfold Addr.add
    split
    · rename_i e; subst e; rfl
    · rfl

theorem IsSl.grown {w w' : World} {a : Option Addr} {n c : Nat} {f : Nat → Value} (h : IsSl w a n c f) {row : Option Nat} (hg : w.grownBy w' row) (hne : ∀ x, a = some x → some x.block ≠ row) : IsSl w' a n c f := by
  rcases h with h | ⟨x, rfl, hc, hx⟩
  · exact .inl h
  · refine .inr ⟨x, rfl, hc, fun i hi => cell_grown hg (hx i hi) ?_⟩
    have : (x.add i).block = x.block := by unfold Addr.add; split <;> rfl
    rw [this]
    exact hne x rfl

theorem IsSl.cl (w : World) (z : Value) (f : Nat → Value) (n : Nat) (t : TypeId) : IsSl (w.alloc (.cells (cl z f n n) t)) (some ⟨w.heap.size, 0, none⟩) n n f := by
  refine .inr ⟨_, rfl, Nat.le_refl _, fun i hi => ?_⟩
  have : (⟨w.heap.size, 0, none⟩ : Addr).add i = ⟨w.heap.size, i, none⟩ := by
    unfold Addr.add
    split
    · rename_i e; subst e; rfl
    · simp
  rw [this, World.cell?_alloc_new, cl_get _ _ _ _ _ hi]
  simp [hi]

/-- 'cloneBytes(s)': a nil slice gives nil. -/
theorem cloneBytes_nil (w : World) : Calls Efwg.prog 28 #[.slice none 0 0] w fun e w' => e = .returned (.slice none 0 0) ∧ w' = w := by
  have hq := fun w a n c => Lib.run_eql_slice_nil (P := Efwg.prog) w 35 5 a n c 0 0 Efwg.underlying35
  go_enter Efwg.func28, Efwg.ntmps28
  go_wp2
  go_ret
  exact ⟨rfl, rfl⟩

set_option maxHeartbeats 400000 in
theorem cloneBytes_zero (w : World) (x : Addr) (c : Nat) :
    Calls Efwg.prog 28 #[.slice (some x) 0 c] w fun e w' => e = .returned (.slice (some ⟨w.heap.size, 0, none⟩) 0 0) ∧ w' = w.alloc (.cells #[] 5) := by
  have hq := fun w a n c => Lib.run_eql_slice_nil (P := Efwg.prog) w 35 5 a n c 0 0 Efwg.underlying35
  obtain ⟨i0, hi, hz0, hz1, hz2⟩ := info_parts Efwg.info5
  have hmk := run_make (P := Efwg.prog) w 35 5 i0 _ Efwg.underlying35 hi hz0 .i64 .i64 0 0 (by omega) (Int.le_refl _) (by omega) (by omega)
  rw [hz1, Int.toNat_zero] at hmk
  have hmc : madeCells (Value.cells (.int .u8 0)) (0 * 1) = #[] := by simp [madeCells]
  rw [hmc] at hmk
  clear hi hz0 hz1 hz2
  go_enter Efwg.func28, Efwg.ntmps28
  go_wp2
  refine wp_loop_rounds 1 ?_
  rw [rounds_succ]
  go_wp2
  go_ret
  exact ⟨rfl, rfl⟩

set_option maxHeartbeats 400000 in
theorem cloneBytes_some (w : World) (b o n c : Nat) (f : Nat → Int) (hn : n ≤ 1048576) (hx : ∀ i, i < n → w.cell? ⟨b, o + i, none⟩ = some (.int .u8 (f i))) :
    Calls Efwg.prog 28 #[.slice (some ⟨b, o, none⟩) n c] w fun e w' => e = .returned (.slice (some ⟨w.heap.size, 0, none⟩) n n) ∧ w' = w.alloc (.cells (cl (.int .u8 0) (fun i => .int .u8 (f i)) n n) 5) := by
  have hq := fun w a n c => Lib.run_eql_slice_nil (P := Efwg.prog) w 35 5 a n c 0 0 Efwg.underlying35
  obtain ⟨i0, hi, hz0, hz1, hz2⟩ := info_parts Efwg.info5
  have hmk := run_make (P := Efwg.prog) w 35 5 i0 _ Efwg.underlying35 hi hz0 .i64 .i64 (n : Int) (n : Int) (by omega) (Int.le_refl _) (by rw [hz2]; omega) (by omega)
  rw [hz1, madeCells_cl _ (fun i => .int .u8 (f i)) _ rfl, Int.toNat_natCast] at hmk
  clear hi hz0 hz1 hz2
  go_enter Efwg.func28, Efwg.ntmps28
  go_wp2
  go_loopw [4] (fun i wr => ∃ k : Nat, k ≤ n ∧ i = .int .i64 k ∧ wr = w.alloc (.cells (cl (.int .u8 0) (fun i => .int .u8 (f i)) n k) 5)) (fun i _ => n - (intOf i).toNat)
  case atStart => exact ⟨0, Nat.zero_le _, rfl, rfl⟩
  case round =>
    obtain ⟨k, hk, rfl, rfl⟩ := hrel
    by_cases hlt : k < n
    · have hxk := hx k hlt
      have hbl : b < w.heap.size := cell_lt hxk
      have hget := cl_get (.int .u8 0) (fun i => .int .u8 (f i)) n k k hlt
      have hst := cl_step (.int .u8 0) (fun i => .int .u8 (f i)) n k
      simp only [Nat.lt_irrefl, if_false] at hget
      clear hmk hx
      go_wp2
      go_roundw
      case rel => exact ⟨k + 1, by omega, by go_num, rfl⟩
      case measure => simp [intOf]; omega
    · have : k = n := by omega
      subst this
      go_wp2
      go_ret
      exact ⟨rfl, rfl⟩

theorem cloneBytes_any (w : World) (a : Option Addr) (n c : Nat) (f : Nat → Int) (hn : n ≤ 1048576) (h : IsSl w a n c (fun i => .int .u8 (f i))) :
    Calls Efwg.prog 28 #[.slice a n c] w fun e w' => ∃ a', e = .returned (.slice a' n n) ∧ IsSl w' a' n n (fun i => .int .u8 (f i)) ∧ a'.isNone = a.isNone ∧ w.grownBy w' none ∧ ∀ x, a' = some x → w.heap.size ≤ x.block := by
  rcases Nat.eq_zero_or_pos n with rfl | hp
  · rcases h with ⟨rfl, _, rfl⟩ | ⟨x, rfl, _, _⟩
    · exact (cloneBytes_nil w).mono fun e w' ⟨he, hw⟩ => ⟨none, he, .inl ⟨rfl, rfl, rfl⟩, rfl, hw ▸ World.grownBy.refl _ _, fun x hx => by cases hx⟩
    · exact (cloneBytes_zero w x c).mono fun e w' ⟨he, hw⟩ => ⟨some ⟨w.heap.size, 0, none⟩, he, .inr ⟨_, rfl, Nat.le_refl _, fun i hi => by omega⟩, rfl, hw ▸ World.grownBy_alloc _ _ _, fun x hx => by cases hx; exact Nat.le_refl _⟩
  · obtain ⟨b, o, rfl, _, hx⟩ := h.at hp
    exact (cloneBytes_some w b o n c f hn hx).mono fun e w' ⟨he, hw⟩ => ⟨some ⟨w.heap.size, 0, none⟩, he, hw ▸ IsSl.cl _ _ _ _ _, rfl, hw ▸ World.grownBy_alloc _ _ _, fun x hx => by cases hx; exact Nat.le_refl _⟩

/-- 'cloneStrings(s)': a nil slice gives nil. -/
theorem cloneStrings_nil (w : World) : Calls Efwg.prog 11 #[.slice none 0 0] w fun e w' => e = .returned (.slice none 0 0) ∧ w' = w := by
  have hq := fun w a n c => Lib.run_eql_slice_nil (P := Efwg.prog) w 22 9 a n c 0 0 Efwg.underlying22
  go_enter Efwg.func11, Efwg.ntmps11
  go_wp2
  go_ret
  exact ⟨rfl, rfl⟩

set_option maxHeartbeats 400000 in
theorem cloneStrings_zero (w : World) (x : Addr) (c : Nat) :
    Calls Efwg.prog 11 #[.slice (some x) 0 c] w fun e w' => e = .returned (.slice (some ⟨w.heap.size, 0, none⟩) 0 0) ∧ w' = w.alloc (.cells #[] 9) := by
  have hq := fun w a n c => Lib.run_eql_slice_nil (P := Efwg.prog) w 22 9 a n c 0 0 Efwg.underlying22
  obtain ⟨i0, hi, hz0, hz1, hz2⟩ := info_parts Efwg.info9
  have hmk := run_make (P := Efwg.prog) w 22 9 i0 _ Efwg.underlying22 hi hz0 .i64 .i64 0 0 (by omega) (Int.le_refl _) (by omega) (by omega)
  rw [hz1, Int.toNat_zero] at hmk
  have hmc : madeCells (Value.cells (.string ByteArray.empty)) (0 * 1) = #[] := by simp [madeCells]
  rw [hmc] at hmk
  clear hi hz0 hz1 hz2
  go_enter Efwg.func11, Efwg.ntmps11
  go_wp2
  refine wp_loop_rounds 1 ?_
  rw [rounds_succ]
  go_wp2
  go_ret
  exact ⟨rfl, rfl⟩

set_option maxHeartbeats 400000 in
theorem cloneStrings_some (w : World) (b o n c : Nat) (f : Nat → ByteArray) (hn : n ≤ 1048576) (hx : ∀ i, i < n → w.cell? ⟨b, o + i, none⟩ = some (.string (f i))) :
    Calls Efwg.prog 11 #[.slice (some ⟨b, o, none⟩) n c] w fun e w' => e = .returned (.slice (some ⟨w.heap.size, 0, none⟩) n n) ∧ w' = w.alloc (.cells (cl (.string ByteArray.empty) (fun i => .string (f i)) n n) 9) := by
  have hq := fun w a n c => Lib.run_eql_slice_nil (P := Efwg.prog) w 22 9 a n c 0 0 Efwg.underlying22
  obtain ⟨i0, hi, hz0, hz1, hz2⟩ := info_parts Efwg.info9
  have hmk := run_make (P := Efwg.prog) w 22 9 i0 _ Efwg.underlying22 hi hz0 .i64 .i64 (n : Int) (n : Int) (by omega) (Int.le_refl _) (by rw [hz2]; omega) (by omega)
  rw [hz1, madeCells_cl _ (fun i => .string (f i)) _ rfl, Int.toNat_natCast] at hmk
  clear hi hz0 hz1 hz2
  go_enter Efwg.func11, Efwg.ntmps11
  go_wp2
  go_loopw [4] (fun i wr => ∃ k : Nat, k ≤ n ∧ i = .int .i64 k ∧ wr = w.alloc (.cells (cl (.string ByteArray.empty) (fun i => .string (f i)) n k) 9)) (fun i _ => n - (intOf i).toNat)
  case atStart => exact ⟨0, Nat.zero_le _, rfl, rfl⟩
  case round =>
    obtain ⟨k, hk, rfl, rfl⟩ := hrel
    by_cases hlt : k < n
    · have hxk := hx k hlt
      have hbl : b < w.heap.size := cell_lt hxk
      have hget := cl_get (.string ByteArray.empty) (fun i => .string (f i)) n k k hlt
      have hst := cl_step (.string ByteArray.empty) (fun i => .string (f i)) n k
      simp only [Nat.lt_irrefl, if_false] at hget
      clear hmk hx
      go_wp2
      go_roundw
      case rel => exact ⟨k + 1, by omega, by go_num, rfl⟩
      case measure => simp [intOf]; omega
    · have : k = n := by omega
      subst this
      go_wp2
      go_ret
      exact ⟨rfl, rfl⟩

theorem cloneStrings_any (w : World) (a : Option Addr) (n c : Nat) (f : Nat → ByteArray) (hn : n ≤ 1048576) (h : IsSl w a n c (fun i => .string (f i))) :
    Calls Efwg.prog 11 #[.slice a n c] w fun e w' => ∃ a', e = .returned (.slice a' n n) ∧ IsSl w' a' n n (fun i => .string (f i)) ∧ a'.isNone = a.isNone ∧ w.grownBy w' none ∧ ∀ x, a' = some x → w.heap.size ≤ x.block := by
  rcases Nat.eq_zero_or_pos n with rfl | hp
  · rcases h with ⟨rfl, _, rfl⟩ | ⟨x, rfl, _, _⟩
    · exact (cloneStrings_nil w).mono fun e w' ⟨he, hw⟩ => ⟨none, he, .inl ⟨rfl, rfl, rfl⟩, rfl, hw ▸ World.grownBy.refl _ _, fun x hx => by cases hx⟩
    · exact (cloneStrings_zero w x c).mono fun e w' ⟨he, hw⟩ => ⟨some ⟨w.heap.size, 0, none⟩, he, .inr ⟨_, rfl, Nat.le_refl _, fun i hi => by omega⟩, rfl, hw ▸ World.grownBy_alloc _ _ _, fun x hx => by cases hx; exact Nat.le_refl _⟩
  · obtain ⟨b, o, rfl, _, hx⟩ := h.at hp
    exact (cloneStrings_some w b o n c f hn hx).mono fun e w' ⟨he, hw⟩ => ⟨some ⟨w.heap.size, 0, none⟩, he, hw ▸ IsSl.cl _ _ _ _ _, rfl, hw ▸ World.grownBy_alloc _ _ _, fun x hx => by cases hx; exact Nat.le_refl _⟩

/-- 'cloneUint32s(s)': a nil slice gives nil. -/
theorem cloneUint32s_nil (w : World) : Calls Efwg.prog 12 #[.slice none 0 0] w fun e w' => e = .returned (.slice none 0 0) ∧ w' = w := by
  have hq := fun w a n c => Lib.run_eql_slice_nil (P := Efwg.prog) w 23 31 a n c 0 0 Efwg.underlying23
  go_enter Efwg.func12, Efwg.ntmps12
  go_wp2
  go_ret
  exact ⟨rfl, rfl⟩

set_option maxHeartbeats 400000 in
theorem cloneUint32s_zero (w : World) (x : Addr) (c : Nat) :
    Calls Efwg.prog 12 #[.slice (some x) 0 c] w fun e w' => e = .returned (.slice (some ⟨w.heap.size, 0, none⟩) 0 0) ∧ w' = w.alloc (.cells #[] 31) := by
  have hq := fun w a n c => Lib.run_eql_slice_nil (P := Efwg.prog) w 23 31 a n c 0 0 Efwg.underlying23
  obtain ⟨i0, hi, hz0, hz1, hz2⟩ := info_parts Efwg.info31
  have hmk := run_make (P := Efwg.prog) w 23 31 i0 _ Efwg.underlying23 hi hz0 .i64 .i64 0 0 (by omega) (Int.le_refl _) (by omega) (by omega)
  rw [hz1, Int.toNat_zero] at hmk
  have hmc : madeCells (Value.cells (.int .u32 0)) (0 * 1) = #[] := by simp [madeCells]
  rw [hmc] at hmk
  clear hi hz0 hz1 hz2
  go_enter Efwg.func12, Efwg.ntmps12
  go_wp2
  refine wp_loop_rounds 1 ?_
  rw [rounds_succ]
  go_wp2
  go_ret
  exact ⟨rfl, rfl⟩

set_option maxHeartbeats 400000 in
theorem cloneUint32s_some (w : World) (b o n c : Nat) (f : Nat → Int) (hn : n ≤ 1048576) (hx : ∀ i, i < n → w.cell? ⟨b, o + i, none⟩ = some (.int .u32 (f i))) :
    Calls Efwg.prog 12 #[.slice (some ⟨b, o, none⟩) n c] w fun e w' => e = .returned (.slice (some ⟨w.heap.size, 0, none⟩) n n) ∧ w' = w.alloc (.cells (cl (.int .u32 0) (fun i => .int .u32 (f i)) n n) 31) := by
  have hq := fun w a n c => Lib.run_eql_slice_nil (P := Efwg.prog) w 23 31 a n c 0 0 Efwg.underlying23
  obtain ⟨i0, hi, hz0, hz1, hz2⟩ := info_parts Efwg.info31
  have hmk := run_make (P := Efwg.prog) w 23 31 i0 _ Efwg.underlying23 hi hz0 .i64 .i64 (n : Int) (n : Int) (by omega) (Int.le_refl _) (by rw [hz2]; omega) (by omega)
  rw [hz1, madeCells_cl _ (fun i => .int .u32 (f i)) _ rfl, Int.toNat_natCast] at hmk
  clear hi hz0 hz1 hz2
  go_enter Efwg.func12, Efwg.ntmps12
  go_wp2
  go_loopw [4] (fun i wr => ∃ k : Nat, k ≤ n ∧ i = .int .i64 k ∧ wr = w.alloc (.cells (cl (.int .u32 0) (fun i => .int .u32 (f i)) n k) 31)) (fun i _ => n - (intOf i).toNat)
  case atStart => exact ⟨0, Nat.zero_le _, rfl, rfl⟩
  case round =>
    obtain ⟨k, hk, rfl, rfl⟩ := hrel
    by_cases hlt : k < n
    · have hxk := hx k hlt
      have hbl : b < w.heap.size := cell_lt hxk
      have hget := cl_get (.int .u32 0) (fun i => .int .u32 (f i)) n k k hlt
      have hst := cl_step (.int .u32 0) (fun i => .int .u32 (f i)) n k
      simp only [Nat.lt_irrefl, if_false] at hget
      clear hmk hx
      go_wp2
      go_roundw
      case rel => exact ⟨k + 1, by omega, by go_num, rfl⟩
      case measure => simp [intOf]; omega
    · have : k = n := by omega
      subst this
      go_wp2
      go_ret
      exact ⟨rfl, rfl⟩

theorem cloneUint32s_any (w : World) (a : Option Addr) (n c : Nat) (f : Nat → Int) (hn : n ≤ 1048576) (h : IsSl w a n c (fun i => .int .u32 (f i))) :
    Calls Efwg.prog 12 #[.slice a n c] w fun e w' => ∃ a', e = .returned (.slice a' n n) ∧ IsSl w' a' n n (fun i => .int .u32 (f i)) ∧ a'.isNone = a.isNone ∧ w.grownBy w' none ∧ ∀ x, a' = some x → w.heap.size ≤ x.block := by
  rcases Nat.eq_zero_or_pos n with rfl | hp
  · rcases h with ⟨rfl, _, rfl⟩ | ⟨x, rfl, _, _⟩
    · exact (cloneUint32s_nil w).mono fun e w' ⟨he, hw⟩ => ⟨none, he, .inl ⟨rfl, rfl, rfl⟩, rfl, hw ▸ World.grownBy.refl _ _, fun x hx => by cases hx⟩
    · exact (cloneUint32s_zero w x c).mono fun e w' ⟨he, hw⟩ => ⟨some ⟨w.heap.size, 0, none⟩, he, .inr ⟨_, rfl, Nat.le_refl _, fun i hi => by omega⟩, rfl, hw ▸ World.grownBy_alloc _ _ _, fun x hx => by cases hx; exact Nat.le_refl _⟩
  · obtain ⟨b, o, rfl, _, hx⟩ := h.at hp
    exact (cloneUint32s_some w b o n c f hn hx).mono fun e w' ⟨he, hw⟩ => ⟨some ⟨w.heap.size, 0, none⟩, he, hw ▸ IsSl.cl _ _ _ _ _, rfl, hw ▸ World.grownBy_alloc _ _ _, fun x hx => by cases hx; exact Nat.le_refl _⟩

end Go.Proofs.Yoefww
