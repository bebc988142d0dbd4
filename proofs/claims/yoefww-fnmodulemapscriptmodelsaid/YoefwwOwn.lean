/-
  SLICES THAT THE CALL ITSELF MAKES BY append, and what 'distinct' says of the module map.
-/
import Derived.Test.YoefwwFind
import Derived.Test.YoefwwEq
import Derived.Deep.RegionWith
namespace Go.Proofs.Yoefww
open Go.RowKit Go.Maps

theorem grown_drew (w : World) (row : Option Nat) : w.grownBy w.drew row := ⟨rfl, rfl, rfl, Nat.le_refl _, fun _ _ _ => rfl⟩

/-- What a slice of the call's own reads as. -/
theorem ownsRow_isSl {w : World} {base : Nat} {e : TypeId} {a : Option Addr} {n c : Nat} {xs : List Value} (h : w.ownsRow base e 1 (.slice a n c) n xs) {f : Nat → Value} (hf : ∀ i, i < n → xs[i]? = some (f i)) : IsSl w a n c f := by
  rcases h.2 with ⟨h1, h2⟩ | ⟨g, cap, cur, hv, _, _, hnc, _⟩
  · cases h1
    exact .inl ⟨rfl, rfl, rfl⟩
  · cases hv
    exact .inr ⟨_, rfl, hnc, fun i hi => h.cells (g := g) rfl i _ (hf i hi)⟩

theorem ownsRow_strs {w : World} {base : Nat} {a : Option Addr} {c : Nat} {ds : List ByteArray} (h : w.ownsRow base 9 1 (.slice a ds.length c) ds.length (ds.map Value.string)) : IsSl w a ds.length c (fun i => .string (ds.getD i ByteArray.empty)) :=
  ownsRow_isSl h (fun i hi => by simp [hi])

theorem ownsRow_ints {w : World} {base : Nat} {a : Option Addr} {c : Nat} {ds : List Int} (h : w.ownsRow base 3 1 (.slice a ds.length c) ds.length (ds.map (Value.int .i64))) : IsSl w a ds.length c (fun i => .int .i64 (ds.getD i 0)) :=
  ownsRow_isSl h (fun i hi => by simp [hi])

/-- A row of the call's own from 'base' on stays while an elder block is written. -/
theorem ownsRow_kept {w w' : World} {base : Nat} {e : TypeId} {v : Value} {n : Nat} {xs : List Value} {m : Nat} (h : w.ownsRow base e 1 v n xs) (hg : w.grownBy w' (some m)) (hm : m < base) : w'.ownsRow base e 1 v n xs := by
  refine h.kept hg (.inr fun e => ?_)
  have := h.lt m e
  omega
theorem ownsRow_kept_none {w w' : World} {base : Nat} {e : TypeId} {v : Value} {n : Nat} {xs : List Value} (h : w.ownsRow base e 1 v n xs) (hg : w.grownBy w' none) : w'.ownsRow base e 1 v n xs := by
  refine h.kept hg ?_
  cases v.ownBlock <;> simp

theorem ownsRow_ne {w : World} {base : Nat} {e : TypeId} {v : Value} {n : Nat} {xs : List Value} (h : w.ownsRow base e 1 v n xs) {m : Nat} (hm : m < base) : some m ≠ v.ownBlock := by
  intro e
  have := h.lt m e.symm
  omega

/-- A slice's value has a slice's shape. -/
theorem ownsRow_shape {w : World} {base : Nat} {e : TypeId} {v : Value} {n : Nat} {xs : List Value} (h : w.ownsRow base e 1 v n xs) : ∃ a c, v = .slice a n c := by
  rcases h.2 with ⟨h1, h2⟩ | ⟨g, cap, cur, hv, _⟩
  · subst h2
    exact ⟨none, 0, h1⟩
  · exact ⟨_, _, hv⟩

/-- What the map holds: a source module under each name of the list, nothing elsewhere. -/
structure Inv (D : DataW Value) (ds : List ByteArray) : Prop where
  ins : ∀ s, s ∈ ds → has D (key s) = true
  out : ∀ s, s ∉ ds → has D (key s) = false
  size : Maps.size D = ds.length
  src : ∀ s, s ∈ ds → ∃ a, D.atKey (key s) (.held .nilIface) = .held (.iface 40 (.pointer (some a)))
  len : ∀ s, s ∈ ds → s.size ≤ maxLen

theorem Inv.start : Inv (DataW.map []) [] := ⟨by simp, fun _ _ => rfl, rfl, by simp, by simp⟩

theorem Inv.old {D : DataW Value} {ds : List ByteArray} (h : Inv D ds) (ht : Tidy D) {s : ByteArray} (hs : s ∈ ds) (a : Addr) : Inv (D.put (key s) (.held (.iface 40 (.pointer (some a))))) ds := by
  refine ⟨fun t htd => ?_, fun t htd => ?_, ?_, fun t htd => ?_, h.len⟩
  · by_cases e : t = s
    · subst e; exact has_put_same ht.isMap (key_isKey t) _
    · rw [has_put_other (key_ne e)]; exact h.ins t htd
  · have e : t ≠ s := fun e => htd (e ▸ hs)
    rw [has_put_other (key_ne e)]; exact h.out t htd
  · rw [size_put ht, h.ins s hs]; exact h.size
  · by_cases e : t = s
    · subst e; exact ⟨a, atKey_put_same ht.isMap (key_isKey t) _ _⟩
    · rw [atKey_put_other (key_ne e)]; exact h.src t htd

theorem Inv.new {D : DataW Value} {ds : List ByteArray} (h : Inv D ds) (ht : Tidy D) {s : ByteArray} (hs : s ∉ ds) (hl : s.size ≤ maxLen) (a : Addr) : Inv (D.put (key s) (.held (.iface 40 (.pointer (some a))))) (ds ++ [s]) := by
  refine ⟨fun t htd => ?_, fun t htd => ?_, ?_, fun t htd => ?_, fun t htd => ?_⟩
  · by_cases e : t = s
    · subst e; exact has_put_same ht.isMap (key_isKey t) _
    · rw [has_put_other (key_ne e)]; exact h.ins t (by simpa [e] using htd)
  · have e : t ≠ s := fun e => htd (by simp [e])
    rw [has_put_other (key_ne e)]; exact h.out t (fun h' => htd (by simp [h']))
  · rw [size_put ht, h.out s hs, h.size]; simp
  · by_cases e : t = s
    · subst e; exact ⟨a, atKey_put_same ht.isMap (key_isKey t) _ _⟩
    · rw [atKey_put_other (key_ne e)]; exact h.src t (by simpa [e] using htd)
  · by_cases e : t = s
    · subst e; exact hl
    · exact h.len t (by simpa [e] using htd)

theorem Inv.not {D : DataW Value} {ds : List ByteArray} (h : Inv D ds) {s : ByteArray} (hs : s ∉ ds) : D.atKey (key s) (.held .nilIface) = .held .nilIface := atKey_of_not_has (h.out s hs) _

/-- One more entry over such a map. -/
theorem Inv.over {D : DataW Value} {ds : List ByteArray} (h : Inv D ds) (ht : Tidy D) {s : ByteArray} {v : Value} {w : World} {p mb n : Nat} (hm : MM w p mb n (D.put (key s) (.held v))) :
    ∃ D1, MM w p mb n D1 ∧ D1.atKey (key s) (.held .nilIface) = .held v ∧ (s ∈ ds → Maps.size D1 = ds.length) ∧ (s ∉ ds → Maps.size D1 = ds.length + 1) ∧ has D1 (key s) = true ∧
      ∀ t, t ∈ ds → t ≠ s → ∃ a, D1.atKey (key t) (.held .nilIface) = .held (.iface 40 (.pointer (some a))) := by
  refine ⟨_, hm, atKey_put_same ht.isMap (key_isKey s) _ _, fun hs => ?_, fun hs => ?_, has_put_same ht.isMap (key_isKey s) _, fun t htd hne => ?_⟩
  · rw [size_put ht, h.ins s hs]; exact h.size
  · rw [size_put ht, h.out s hs, h.size]; rfl
  · rw [atKey_put_other (key_ne hne)]; exact h.src t htd

/-- An entry that is there is taken away. -/
theorem del_one {D1 : DataW Value} (ht : Tidy D1) {s : ByteArray} (hh : has D1 (key s) = true) {w : World} {p mb n : Nat} (hm : MM w p mb n (D1.del (key s))) :
    ∃ D2, MM w p mb n D2 ∧ D2.atKey (key s) (.held .nilIface) = .held .nilIface ∧ Maps.size D2 + 1 = Maps.size D1 ∧ ∀ t, t ≠ s → D2.atKey (key t) (.held .nilIface) = D1.atKey (key t) (.held .nilIface) := by
  refine ⟨_, hm, atKey_del_same _, ?_, fun t hne => atKey_del_other (key_ne hne) _⟩
  have := size_del (k := key s) ht
  rw [hh] at this
  simpa using this

end Go.Proofs.Yoefww
