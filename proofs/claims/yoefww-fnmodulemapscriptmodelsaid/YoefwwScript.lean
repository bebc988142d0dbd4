/-
  WHAT HOLDS AT EACH ROUND OF A SCRIPT: the three tables (keys, kinds, tags) and the module map agree. No walk here: the steps as lemmas.
-/
import Derived.Test.YoefwwEntry
namespace Go.Proofs.Yoefww
open Go.RowKit Go.Maps

/-! ### how many kinds are not nought -/
def nz (x : Int) : Nat := if x = 0 then 0 else 1
def live : List Int → Nat
  | [] => 0
  | x :: r => nz x + live r

theorem live_append (l : List Int) (x : Int) : live (l ++ [x]) = live l + nz x := by
  induction l with
  | nil => simp [live]
  | cons y r ih => simp [live, ih]; omega

theorem live_set (l : List Int) : ∀ (j : Nat) (_ : j < l.length) (x : Int), live (l.set j x) + nz (l.getD j 0) = live l + nz x := by
  induction l with
  | nil => intro j hj; simp at hj
  | cons y r ih =>
    intro j hj x
    cases j with
    | zero => simp [live]; omega
    | succ j =>
      have := ih j (by simpa using hj) x
      simp [live] at this ⊢
      omega

theorem live_take (l : List Int) (m : Nat) (h : m < l.length) : live (l.take (m + 1)) = live (l.take m) + nz (l.getD m 0) := by
  rw [List.take_succ_eq_append_getElem h, live_append]
  congr 2
  simp [h]

theorem live_le (l : List Int) : live l ≤ l.length := by
  induction l with
  | nil => simp [live]
  | cons y r ih =>
    simp [live]
    unfold nz
    split <;> omega

/-! ### lists -/
theorem getD_set_same {α : Type} (l : List α) (j : Nat) (x d : α) (h : j < l.length) : (l.set j x).getD j d = x := by simp [h]
theorem getD_set_other {α : Type} (l : List α) (i j : Nat) (x d : α) (h : i ≠ j) : (l.set j x).getD i d = l.getD i d := by simp [List.getD_eq_getElem?_getD, Ne.symm h]
theorem set_getD {α : Type} (l : List α) (j : Nat) (d : α) (h : j < l.length) : l.set j (l.getD j d) = l := by
  apply List.ext_getElem?
  intro i
  rw [List.getElem?_set]
  split
  · rename_i e; subst e; simp [h]
  · rfl
theorem getD_snoc_lt {α : Type} (l : List α) (x d : α) (i : Nat) (h : i < l.length) : (l ++ [x]).getD i d = l.getD i d := by simp [List.getD_eq_getElem?_getD, List.getElem?_append_left h]
theorem getD_snoc_last {α : Type} (l : List α) (x d : α) (n : Nat) (h : n = l.length) : (l ++ [x]).getD n d = x := by subst h; simp

/-! ### rows of the call's own -/
/-- Two slices of the call's own do not lie in one row. -/
def Diff (v v' : Value) : Prop := ∀ b, v.ownBlock = some b → v'.ownBlock ≠ some b

theorem Diff.symm {v v' : Value} (h : Diff v v') : Diff v' v := fun b h1 h2 => h b h2 h1

theorem own_other {w w' : World} {base : Nat} {e : TypeId} {v v' : Value} {n : Nat} {xs : List Value} (h : w.ownsRow base e 1 v n xs) (hg : w.grownBy w' v'.ownBlock) (hd : Diff v v') : w'.ownsRow base e 1 v n xs := by
  refine h.kept hg ?_
  cases hv : v.ownBlock with
  | none => exact .inl rfl
  | some b => exact .inr (fun e => hd b hv e.symm)

/-- b is written by nobody: it is neither the map's block nor in one of the three rows. -/
def Away (v1 v2 v3 : Value) (mb b : Nat) : Prop := b ≠ mb ∧ v1.ownBlock ≠ some b ∧ v2.ownBlock ≠ some b ∧ v3.ownBlock ≠ some b

/-- The slice behind an append: in its own row, or in a row that is new. -/
def Grew (w : World) (v v' : Value) : Prop := v'.ownBlock = v.ownBlock ∨ ∃ b, v'.ownBlock = some b ∧ w.heap.size ≤ b

theorem Grew.ne {w : World} {v v' : Value} (h : Grew w v v') {b : Nat} (hb : b < w.heap.size) (hv : v.ownBlock ≠ some b) : v'.ownBlock ≠ some b := by
  intro e
  rcases h with h | ⟨b', h, hl⟩
  · exact hv (h ▸ e)
  · rw [h] at e
    cases e
    omega

/-- .. stays apart from a row that lay there before. -/
theorem Grew.diff {w : World} {v v' u : Value} (h : Grew w v v') (hu : ∀ b, u.ownBlock = some b → b < w.heap.size) (hd : Diff v u) : Diff v' u := by
  intro b h1 h2
  exact h.ne (hu b h2) (fun e => hd b e h2) h1

/-- WHAT HOLDS AT A ROUND's HEAD. -/
structure S3 (w2 : World) (base p mb k : Nat) (ks : List ByteArray) (kd tg : List Int) (D : DataW Value) (v1 v2 v3 : Value) (wr : World) : Prop where
  l2 : kd.length = ks.length
  l3 : tg.length = ks.length
  o1 : wr.ownsRow base 9 1 v1 ks.length (ks.map Value.string)
  o2 : wr.ownsRow base 3 1 v2 ks.length (kd.map (Value.int .i64))
  o3 : wr.ownsRow base 3 1 v3 ks.length (tg.map (Value.int .i64))
  d12 : Diff v1 v2
  d13 : Diff v1 v3
  d23 : Diff v2 v3
  mm : MM wr p mb k D
  ent : ∀ j, j < ks.length → Ent wr (Away v1 v2 v3 mb) D (ks.getD j ByteArray.empty) (kd.getD j 0) (tg.getD j 0)
  out : ∀ s, s ∉ ks → has D (key s) = false
  nd : ∀ i j, i < ks.length → j < ks.length → i ≠ j → ks.getD i ByteArray.empty ≠ ks.getD j ByteArray.empty
  size : Maps.size D = live kd
  len : ∀ s, s ∈ ks → s.size ≤ maxLen
  bel : Below w2.heap.size w2 wr
  big : base ≤ wr.heap.size

theorem S3.start {w2 wr : World} {base p mb : Nat} (hm : MM wr p mb 0 (.map [])) (hb : Below w2.heap.size w2 wr) (hg : base ≤ wr.heap.size) : S3 w2 base p mb 0 [] [] [] (.map []) (.slice none 0 0) (.slice none 0 0) (.slice none 0 0) wr :=
  ⟨rfl, rfl, World.ownsRow_nil _ _ _ _, World.ownsRow_nil _ _ _ _, World.ownsRow_nil _ _ _ _, (fun b h => by cases h), (fun b h => by cases h), (fun b h => by cases h), hm, (fun j hj => by simp at hj), (fun s _ => rfl), (fun i j hi => by simp at hi), rfl, by simp, hb, hg⟩

/-- THREE APPENDS: a new name with kind 0 and tag 0. -/
theorem S3.grow {w2 wr w4 w5 w6 : World} {base p mb k : Nat} {ks : List ByteArray} {kd tg : List Int} {D : DataW Value} {v1 v2 v3 v1' v2' v3' : Value} (S : S3 w2 base p mb k ks kd tg D v1 v2 v3 wr)
    (hp : p < base) (hmb : mb < base) (h2b : w2.heap.size ≤ base) {s : ByteArray} (hs : s ∉ ks) (hsl : s.size ≤ maxLen)
    (g1 : wr.grownBy w4 v1.ownBlock) (o1 : w4.ownsRow base 9 1 v1' (ks.length + 1) (ks.map Value.string ++ [.string s])) (e1 : Grew wr v1 v1')
    (g2 : w4.grownBy w5 v2.ownBlock) (o2 : w5.ownsRow base 3 1 v2' (ks.length + 1) (kd.map (Value.int .i64) ++ [.int .i64 0])) (e2 : Grew w4 v2 v2')
    (g3 : w5.grownBy w6 v3.ownBlock) (o3 : w6.ownsRow base 3 1 v3' (ks.length + 1) (tg.map (Value.int .i64) ++ [.int .i64 0])) (e3 : Grew w5 v3 v3') :
    S3 w2 base p mb k (ks ++ [s]) (kd ++ [0]) (tg ++ [0]) D v1' v2' v3' w6 := by
  have z1 := g1.size
  have z2 := g2.size
  have z3 := g3.size
  have zb := S.big
  have d12 : Diff v1' v2 := e1.diff (fun b h => (S.o2.lt b h).2) S.d12
  have d13 : Diff v1' v3 := e1.diff (fun b h => (S.o3.lt b h).2) S.d13
  have d12' : Diff v1' v2' := (e2.diff (fun b h => (o1.lt b h).2) d12.symm).symm
  have o1b := own_other o1 g2 d12
  have d23 : Diff v2' v3 := e2.diff (fun b h => Nat.lt_of_lt_of_le (S.o3.lt b h).2 z1) S.d23
  have d13' : Diff v1' v3' := (e3.diff (fun b h => (o1b.lt b h).2) d13.symm).symm
  have d23' : Diff v2' v3' := (e3.diff (fun b h => (o2.lt b h).2) d23.symm).symm
  have n1 : ∀ m, m < base → some m ≠ v1.ownBlock := fun m hm => ownsRow_ne S.o1 hm
  have n2 : ∀ m, m < base → some m ≠ v2.ownBlock := fun m hm => ownsRow_ne S.o2 hm
  have n3 : ∀ m, m < base → some m ≠ v3.ownBlock := fun m hm => ownsRow_ne S.o3 hm
  have l1 : (ks ++ [s]).length = ks.length + 1 := by simp
  refine ⟨by simp [S.l2], by simp [S.l3], by rw [l1, List.map_append]; exact own_other o1b g3 d13, by rw [l1, List.map_append]; exact own_other o2 g3 d23, by rw [l1, List.map_append]; exact o3, d12', d13', d23',
    ((S.mm.kept g1 (n1 p hp) (n1 mb hmb)).kept g2 (n2 p hp) (n2 mb hmb)).kept g3 (n3 p hp) (n3 mb hmb), ?_, ?_, ?_, ?_, ?_, ?_, by omega⟩
  · intro j hj
    rw [l1] at hj
    by_cases e : j = ks.length
    · subst e
      rw [getD_snoc_last _ _ _ _ rfl, getD_snoc_last _ _ _ _ S.l2.symm, getD_snoc_last _ _ _ _ S.l3.symm]
      exact .inl ⟨rfl, S.out s hs⟩
    · have hj' : j < ks.length := by omega
      rw [getD_snoc_lt _ _ _ _ hj', getD_snoc_lt _ _ _ _ (by rw [S.l2]; exact hj'), getD_snoc_lt _ _ _ _ (by rw [S.l3]; exact hj')]
      have h0 := S.ent j hj'
      have h1 : Ent w4 (fun b => Away v1 v2 v3 mb b ∧ b < wr.heap.size) D _ _ _ := h0.kept g1 (fun b hb _ e => hb.2.1 e.symm) (fun b hb hl => ⟨hb, hl⟩)
      have h2 : Ent w5 (fun b => Away v1 v2 v3 mb b ∧ b < wr.heap.size) D _ _ _ := h1.kept g2 (fun b hb _ e => hb.1.2.2.1 e.symm) (fun b hb _ => hb)
      exact h2.kept g3 (fun b hb _ e => hb.1.2.2.2 e.symm) (fun b hb _ => ⟨hb.1.1, e1.ne hb.2 hb.1.2.1, e2.ne (by omega) hb.1.2.2.1, e3.ne (by omega) hb.1.2.2.2⟩)
  · intro t ht
    exact S.out t (fun h => ht (by simp [h]))
  · intro i j hi hj hij
    rw [l1] at hi hj
    have hmem : ∀ i, i < ks.length → ks.getD i ByteArray.empty ≠ s := fun i hi e => hs (e ▸ getD_mem _ _ _ hi)
    by_cases ei : i = ks.length
    · subst ei
      rw [getD_snoc_last _ _ _ _ rfl, getD_snoc_lt _ _ _ _ (by omega)]
      exact (hmem j (by omega)).symm
    · by_cases ej : j = ks.length
      · subst ej
        rw [getD_snoc_last _ _ _ _ rfl, getD_snoc_lt _ _ _ _ (by omega)]
        exact hmem i (by omega)
      · rw [getD_snoc_lt _ _ _ _ (by omega), getD_snoc_lt _ _ _ _ (by omega)]
        exact S.nd i j (by omega) (by omega) hij
  · rw [live_append, S.size]; simp [nz]
  · intro t ht
    rcases List.mem_append.1 ht with h | h
    · exact S.len t h
    · simp at h; rw [h]; exact hsl
  · exact ((S.bel.grown g1 (by omega) (fun b h => by have := (S.o1.lt b h).1; omega)).grown g2 (by omega) (fun b h => by have := (S.o2.lt b h).1; omega)).grown g3 (by omega) (fun b h => by have := (S.o3.lt b h).1; omega)

/-- THE ENTRY AT j TURNS. -/
theorem S3.turn {w2 wr w4 w5 w6 : World} {base p mb k : Nat} {ks : List ByteArray} {kd tg : List Int} {D D' : DataW Value} {v1 v2 v3 : Value} (S : S3 w2 base p mb k ks kd tg D v1 v2 v3 wr)
    (hp : p < base) (hmb : mb < base) (h2m : w2.heap.size ≤ mb) {j : Nat} (hj : j < ks.length) {s : ByteArray} (hs : ks.getD j ByteArray.empty = s) {x y : Int}
    (g1 : wr.grownBy w4 (some mb)) (mm : MM w4 p mb (k + 1) D') (hD : ∀ t, t ≠ s → has D' (key t) = has D (key t) ∧ ∀ z, D'.atKey (key t) z = D.atKey (key t) z)
    (en : Ent w4 (Away v1 v2 v3 mb) D' s x y) (hsz : Maps.size D' + nz (kd.getD j 0) = Maps.size D + nz x)
    (g2 : w4.grownBy w5 v2.ownBlock) (o2 : w5.ownsRow base 3 1 v2 ks.length ((kd.set j x).map (Value.int .i64)))
    (g3 : w5.grownBy w6 v3.ownBlock) (o3 : w6.ownsRow base 3 1 v3 ks.length ((tg.set j y).map (Value.int .i64))) :
    S3 w2 base p mb (k + 1) ks (kd.set j x) (tg.set j y) D' v1 v2 v3 w6 := by
  have z1 := g1.size
  have z2 := g2.size
  have z3 := g3.size
  have zb := S.big
  have n2 : ∀ m, m < base → some m ≠ v2.ownBlock := fun m hm => ownsRow_ne S.o2 hm
  have n3 : ∀ m, m < base → some m ≠ v3.ownBlock := fun m hm => ownsRow_ne S.o3 hm
  refine ⟨by simp [S.l2], by simp [S.l3], own_other (own_other (ownsRow_kept S.o1 g1 hmb) g2 S.d12) g3 S.d13, own_other o2 g3 S.d23, o3, S.d12, S.d13, S.d23,
    (mm.kept g2 (n2 p hp) (n2 mb hmb)).kept g3 (n3 p hp) (n3 mb hmb), ?_, ?_, S.nd, ?_, S.len, ?_, by omega⟩
  · intro i hi
    have fin : ∀ {t : ByteArray} {a b : Int}, Ent w4 (Away v1 v2 v3 mb) D' t a b → Ent w6 (Away v1 v2 v3 mb) D' t a b := fun h =>
      (h.kept g2 (fun b hb _ e => hb.2.2.1 e.symm) (fun b hb _ => hb)).kept g3 (fun b hb _ e => hb.2.2.2 e.symm) (fun b hb _ => hb)
    by_cases e : i = j
    · subst e
      rw [getD_set_same _ _ _ _ (by rw [S.l2]; exact hi), getD_set_same _ _ _ _ (by rw [S.l3]; exact hi), hs]
      exact fin en
    · rw [getD_set_other _ _ _ _ _ e, getD_set_other _ _ _ _ _ e]
      have hne : ks.getD i ByteArray.empty ≠ s := fun e' => S.nd i j hi hj e (e'.trans hs.symm)
      have h1 : Ent w4 (Away v1 v2 v3 mb) D (ks.getD i ByteArray.empty) (kd.getD i 0) (tg.getD i 0) := (S.ent i hi).kept g1 (fun b hb _ e => hb.1 (Option.some.inj e)) (fun b hb _ => hb)
      obtain ⟨q1, q2⟩ := hD _ hne
      refine fin ?_
      unfold Ent at h1 ⊢
      rw [q1, q2]
      exact h1
  · intro t ht
    have hne : t ≠ s := fun e => ht (e ▸ hs ▸ getD_mem _ _ _ hj)
    rw [(hD t hne).1]
    exact S.out t ht
  · have := live_set kd j (by rw [S.l2]; exact hj) x
    have := S.size
    omega
  · exact ((S.bel.grown g1 (by omega) (fun b h => by cases h; exact h2m)).grown g2 (by omega) (fun b h => by have := (S.o2.lt b h).1; omega)).grown g3 (by omega) (fun b h => by have := (S.o3.lt b h).1; omega)

/-- A slice of the call's own that is not empty begins at the head of a row. -/
theorem own_head {w : World} {base : Nat} {e : TypeId} {v : Value} {n : Nat} {xs : List Value} (h : w.ownsRow base e 1 v n xs) (hn : 0 < n) : ∃ g c, v = .slice (some ⟨g, 0, none⟩) n c := by
  rcases h.2 with ⟨_, h2⟩ | ⟨g, cap, cur, hv, _⟩
  · omega
  · exact ⟨g, cap, hv⟩

/-- The number at place j of such a slice. -/
theorem own_int_at {w : World} {base g n c : Nat} {l : List Int} (h : w.ownsRow base 3 1 (.slice (some ⟨g, 0, none⟩) n c) n (l.map (Value.int .i64))) (hl : l.length = n) {j : Nat} (hj : j < n) : w.cell? ⟨g, j, none⟩ = some (.int .i64 (l.getD j 0)) := by
  rw [h.cellAt j (by omega)]
  simp [hl, hj]

/-- A store into such a slice. -/
theorem own_int_set {w : World} {base g n c : Nat} {l : List Int} (h : w.ownsRow base 3 1 (.slice (some ⟨g, 0, none⟩) n c) n (l.map (Value.int .i64))) (j : Nat) (x : Int) :
    (w.setCell ⟨g, j, none⟩ (.int .i64 x)).ownsRow base 3 1 (.slice (some ⟨g, 0, none⟩) n c) n ((l.set j x).map (Value.int .i64)) ∧ w.grownBy (w.setCell ⟨g, j, none⟩ (.int .i64 x)) (Value.ownBlock (.slice (some ⟨g, 0, none⟩) n c)) := by
  have := h.stored j (.int .i64 x)
  rw [List.map_set]
  exact this

/-- What a kind says of the map's size. -/
theorem Ent.has_eq {w : World} {A : Nat → Prop} {D : DataW Value} {s : ByteArray} {kd tg : Int} (h : Ent w A D s kd tg) : has D (key s) = true ∧ nz kd = 1 ∨ has D (key s) = false ∧ nz kd = 0 := by
  rcases h with ⟨rfl, h⟩ | ⟨rfl, h, _⟩ | ⟨rfl, h, _⟩
  · exact .inr ⟨h, rfl⟩
  · exact .inl ⟨h, rfl⟩
  · exact .inl ⟨h, rfl⟩

theorem size_put_nz {w : World} {A : Nat → Prop} {D : DataW Value} {s : ByteArray} {kd tg x : Int} (h : Ent w A D s kd tg) (ht : Tidy D) (d : DataW Value) (hx : nz x = 1) : Maps.size (D.put (key s) d) + nz kd = Maps.size D + nz x := by
  rw [size_put ht, hx]
  rcases h.has_eq with ⟨h1, h2⟩ | ⟨h1, h2⟩
  · rw [h1, h2]; simp
  · rw [h1, h2]; simp

theorem size_del_nz {w : World} {A : Nat → Prop} {D : DataW Value} {s : ByteArray} {kd tg : Int} (h : Ent w A D s kd tg) (ht : Tidy D) : Maps.size (D.del (key s)) + nz kd = Maps.size D + nz 0 := by
  have := size_del (k := key s) ht
  rcases h.has_eq with ⟨h1, h2⟩ | ⟨h1, h2⟩
  · rw [h1] at this; rw [h2]; simp at this; simp [nz]; exact this
  · rw [h1] at this; rw [h2]; simp at this; simp [nz]; exact this

theorem put_others {D : DataW Value} {s : ByteArray} (d : DataW Value) : ∀ t, t ≠ s → has (D.put (key s) d) (key t) = has D (key t) ∧ ∀ z, (D.put (key s) d).atKey (key t) z = D.atKey (key t) z :=
  fun _ h => ⟨has_put_other (key_ne h) d, fun z => atKey_put_other (key_ne h) d z⟩
theorem del_others {D : DataW Value} {s : ByteArray} : ∀ t, t ≠ s → has (D.del (key s)) (key t) = has D (key t) ∧ ∀ z, (D.del (key s)).atKey (key t) z = D.atKey (key t) z :=
  fun _ h => ⟨has_del_other (key_ne h), fun z => atKey_del_other (key_ne h) z⟩

/-- What 'findKey' answers, told of the list. -/
def Fnd (ks : List ByteArray) (s : ByteArray) (r : Int) : Prop := (r = -1 ∧ s ∉ ks) ∨ (s ∈ ks ∧ ∃ j : Nat, r = j ∧ j < ks.length ∧ ks.getD j ByteArray.empty = s)
def FndE (ks : List ByteArray) (s : ByteArray) (e : Ending) : Prop := ∃ r, e = .returned (.int .i64 r) ∧ Fnd ks s r

theorem findKey_ex (w : World) (a : Option Addr) (c : Nat) (ks : List ByteArray) (s : ByteArray) (hn : ks.length ≤ 1048576) (h : IsSl w a ks.length c (fun i => .string (ks.getD i ByteArray.empty))) :
    Calls Efwg.prog 14 #[.slice a ks.length c, .string s] w fun e w' => FndE ks s e ∧ w' = w := by
  rcases first_place ks s with ⟨h1, h2⟩ | ⟨h1, j, h2, h3, h4⟩
  · exact (findKey_no w a ks.length c _ s hn h h2).mono fun e w' ⟨he, hw⟩ => ⟨⟨_, he, .inl ⟨rfl, h1⟩⟩, hw⟩
  · exact (findKey_at w a ks.length c _ s hn h j h2 h3 h4).mono fun e w' ⟨he, hw⟩ => ⟨⟨_, he, .inr ⟨h1, j, rfl, h2, h3⟩⟩, hw⟩

/-- 'tagBytes(i)': a new row. -/
theorem tagBytes_new (w : World) (i : Int) (h0 : 0 ≤ i) (hi : i < 65536) :
    Calls Efwg.prog 16 #[.int .i64 i] w fun e w' => ∃ t, e = .returned (.slice (some ⟨t, 0, none⟩) 3 3) ∧ IsSl w' (some ⟨t, 0, none⟩) 3 3 (fun j => .int .u8 (tagF i j)) ∧ w.grownBy w' none ∧ w.heap.size ≤ t ∧ t < w'.heap.size :=
  (tagBytes_any w i h0 hi).mono fun _ _ ⟨he, hw⟩ => ⟨_, he, hw ▸ tagBytes_is w i, hw ▸ World.grownBy_alloc _ _ _, Nat.le_refl _, by rw [hw]; simp⟩

/-- A block that is new is away from all that lay there. -/
theorem away_new {w2 wr : World} {base p mb k : Nat} {ks : List ByteArray} {kd tg : List Int} {D : DataW Value} {v1 v2 v3 : Value} (S : S3 w2 base p mb k ks kd tg D v1 v2 v3 wr) {b : Nat} (hb : wr.heap.size ≤ b) : Away v1 v2 v3 mb b := by
  refine ⟨fun e => ?_, fun e => ?_, fun e => ?_, fun e => ?_⟩
  · have := S.mm.ltm; omega
  · have := (S.o1.lt b e).2; omega
  · have := (S.o2.lt b e).2; omega
  · have := (S.o3.lt b e).2; omega

/-- The slices' facts behind a step that writes the map alone. -/
theorem S3.rows {w2 wr w4 : World} {base p mb k : Nat} {ks : List ByteArray} {kd tg : List Int} {D : DataW Value} {v1 v2 v3 : Value} (S : S3 w2 base p mb k ks kd tg D v1 v2 v3 wr) (hmb : mb < base) (g1 : wr.grownBy w4 (some mb)) :
    w4.ownsRow base 3 1 v2 ks.length (kd.map (Value.int .i64)) ∧ w4.ownsRow base 3 1 v3 ks.length (tg.map (Value.int .i64)) :=
  ⟨ownsRow_kept S.o2 g1 hmb, ownsRow_kept S.o3 g1 hmb⟩

end Go.Proofs.Yoefww
