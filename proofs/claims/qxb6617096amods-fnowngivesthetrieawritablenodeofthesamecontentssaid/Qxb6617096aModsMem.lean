/-
  WHAT LIES IN MEMORY, for seat b6617096aM: slices of numbers, of entries, of pointers; a node; and what keeps them. No Go text here.
-/
import Derived.WalkKit
import Derived.WalkSpells
import Derived.Deep.OwnRows
import Derived.Deep.AppendLies
namespace Go.Proofs.Qxb6617096aMods
open Go.RowKit

/-- An entry: its hash, its key, whether its value is nil, the value's bytes. -/
structure Ent where
  h : Int
  k : ByteArray
  nl : Bool
  bs : List Int

/-- The cells xs lie from the address on, one behind the other; of no cells nothing is asked. -/
def RowAt (w : World) (ao : Option Addr) (xs : List Value) : Prop :=
  xs = [] ∨ ∃ b off, ao = some ⟨b, off, none⟩ ∧ ∀ j u, xs[j]? = some u → w.cell? ⟨b, off + j, none⟩ = some u

/-- A slice of n numbers of kind k: the numbers zs; nil or not. -/
def ISl (k : IntKind) (w : World) (ao : Option Addr) (n : Nat) (nl : Bool) (zs : List Int) : Prop :=
  n = zs.length ∧ ao.isNone = nl ∧ RowAt w ao (zs.map (Value.int k))

/-- The three cells of an entry. -/
def EntAt (w : World) (b o : Nat) (e : Ent) : Prop :=
  w.cell? ⟨b, o, none⟩ = some (.int .u64 e.h) ∧ w.cell? ⟨b, o + 1, none⟩ = some (.string e.k) ∧
    ∃ va vn vc, w.cell? ⟨b, o + 2, none⟩ = some (.slice va vn vc) ∧ ISl .u8 w va vn e.nl e.bs

/-- A slice of n entries. -/
def ES (w : World) (ao : Option Addr) (n : Nat) (es : List Ent) : Prop :=
  n = es.length ∧ (es = [] ∨ ∃ b off, ao = some ⟨b, off, none⟩ ∧ ∀ i e, es[i]? = some e → EntAt w b (off + i * 3) e)

/-- A slice of n pointers. -/
def PS (w : World) (ao : Option Addr) (n : Nat) (ks : List (Option Addr)) : Prop := n = ks.length ∧ RowAt w ao (ks.map Value.pointer)

/-- A node. -/
def NodeAt (w : World) (b : Nat) (gen em nm : Int) (es : List Ent) (ks : List (Option Addr)) : Prop :=
  w.cell? ⟨b, 0, none⟩ = some (.int .u64 gen) ∧ w.cell? ⟨b, 1, none⟩ = some (.int .u64 em) ∧ w.cell? ⟨b, 2, none⟩ = some (.int .u64 nm) ∧
  (∃ ao n c, w.cell? ⟨b, 3, none⟩ = some (.slice ao n c) ∧ ES w ao n es) ∧ (∃ ao n c, w.cell? ⟨b, 4, none⟩ = some (.slice ao n c) ∧ PS w ao n ks) ∧
  ∃ c : Array Value, w.heap[b]? = some (Obj.cells c 62 (0, 0))

/-! ### Behind a call that turns nothing old all of it stands -/
section
variable {w w' : World}

theorem old_cell (hb : Below w.heap.size w w') {a : Addr} {v : Value} (h : w.cell? a = some v) : w'.cell? a = some v :=
  (hb.cell (World.block_lt_of_cell? w a h)).trans h

theorem RowAt.below {ao : Option Addr} {xs : List Value} (h : RowAt w ao xs) (hb : Below w.heap.size w w') : RowAt w' ao xs := by
  rcases h with h | ⟨b, off, e, hc⟩
  · exact .inl h
  · exact .inr ⟨b, off, e, fun j u hu => old_cell hb (hc j u hu)⟩
theorem ISl.below {k : IntKind} {ao : Option Addr} {n : Nat} {nl : Bool} {zs : List Int} (h : ISl k w ao n nl zs) (hb : Below w.heap.size w w') : ISl k w' ao n nl zs :=
  ⟨h.1, h.2.1, h.2.2.below hb⟩
theorem EntAt.below {b o : Nat} {e : Ent} (h : EntAt w b o e) (hb : Below w.heap.size w w') : EntAt w' b o e := by
  obtain ⟨h0, h1, va, vn, vc, h2, h3⟩ := h
  exact ⟨old_cell hb h0, old_cell hb h1, va, vn, vc, old_cell hb h2, h3.below hb⟩
theorem ES.below {ao : Option Addr} {n : Nat} {es : List Ent} (h : ES w ao n es) (hb : Below w.heap.size w w') : ES w' ao n es := by
  obtain ⟨h1, h | ⟨b, off, e, hc⟩⟩ := h
  · exact ⟨h1, .inl h⟩
  · exact ⟨h1, .inr ⟨b, off, e, fun i x hx => (hc i x hx).below hb⟩⟩
theorem PS.below {ao : Option Addr} {n : Nat} {ks : List (Option Addr)} (h : PS w ao n ks) (hb : Below w.heap.size w w') : PS w' ao n ks := ⟨h.1, h.2.below hb⟩
theorem NodeAt.below {b : Nat} {gen em nm : Int} {es : List Ent} {ks : List (Option Addr)} (h : NodeAt w b gen em nm es ks) (hb : Below w.heap.size w w') : NodeAt w' b gen em nm es ks := by
  obtain ⟨h0, h1, h2, ⟨a3, n3, c3, h3, g3⟩, ⟨a4, n4, c4, h4, g4⟩, c, h5⟩ := h
  exact ⟨old_cell hb h0, old_cell hb h1, old_cell hb h2, ⟨a3, n3, c3, old_cell hb h3, g3.below hb⟩, ⟨a4, n4, c4, old_cell hb h4, g4.below hb⟩, c, (hb.block b (lt_of_block h5)).trans h5⟩
end

/-! ### Every block of one element type stands -/
/-- Every block of element type t that stood in w stands in w' as it was. -/
def KeepsT (t : TypeId) (w w' : World) : Prop := ∀ (g : Nat) (c : Array Value) (f : Nat × Nat), w.heap[g]? = some (Obj.cells c t f) → w'.heap[g]? = some (Obj.cells c t f)

section
variable {t : TypeId} {w w' w'' : World}
theorem KeepsT.refl (t : TypeId) (w : World) : KeepsT t w w := fun _ _ _ h => h
theorem KeepsT.trans (h : KeepsT t w w') (k : KeepsT t w' w'') : KeepsT t w w'' := fun g c f hg => k g c f (h g c f hg)
theorem KeepsT.of_below (hb : Below w.heap.size w w') : KeepsT t w w' := fun g _ _ hg => (hb.block g (lt_of_block hg)).trans hg
theorem KeepsT.alloc (h : KeepsT t w w') (o : Obj) : KeepsT t w (w'.alloc o) := fun g c f hg => (Below.heap_alloc w' o g (lt_of_block (h g c f hg))).trans (h g c f hg)
theorem KeepsT.drew (h : KeepsT t w w') : KeepsT t w w'.drew := h
theorem KeepsT.setCell (h : KeepsT t w w') {a : Addr} {c' : Array Value} {t' : TypeId} {f' : Nat × Nat} (hb : w'.heap[a.block]? = some (.cells c' t' f')) (ht : t' ≠ t) (v : Value) : KeepsT t w (w'.setCell a v) := fun g c f hg => by
  have hg' := h g c f hg
  rw [heap_setCell_other w' a g v (fun e => by subst e; rw [hb] at hg'; exact ht (by cases hg'; rfl))]
  exact hg'
/-- 'w' is w with new blocks and writes to one row alone, of another type. -/
theorem KeepsT.grown (h : KeepsT t w w') {row : Option Nat} (hg : w'.grownBy w'' row) (hr : ∀ k, row = some k → ∃ c' t' f', w'.heap[k]? = some (.cells c' t' f') ∧ t' ≠ t) : KeepsT t w w'' := fun g c f hh => by
  have hg' := h g c f hh
  rw [hg.block g (lt_of_block hg') (fun e => by
    obtain ⟨c', t', f', h1, h2⟩ := hr g e.symm
    rw [h1] at hg'; exact h2 (by cases hg'; rfl))]
  exact hg'
theorem KeepsT.owns {base size : Nat} {v : Value} {n : Nat} {xs : List Value} (h : KeepsT t w w') (ho : w.ownsRow base t size v n xs) : w'.ownsRow base t size v n xs := by
  obtain ⟨h1, h2 | ⟨g, cap, cur, hv, hg, hh, r⟩⟩ := ho
  · exact ⟨h1, .inl h2⟩
  · exact ⟨h1, .inr ⟨g, cap, cur, hv, hg, h _ _ _ hh, r⟩⟩
theorem KeepsT.rowIs {b n : Nat} {f : Nat → Value} (h : KeepsT t w w') (hr : w.rowIs b t n f) : w'.rowIs b t n f := by
  obtain ⟨c, hb, r⟩ := hr
  exact ⟨c, h _ _ _ hb, r⟩
/-- What a row's own block is, where it has one. -/
theorem owns_block {base size : Nat} {v : Value} {n : Nat} {xs : List Value} (ho : w.ownsRow base t size v n xs) : ∀ k, v.ownBlock = some k → ∃ c, w.heap[k]? = some (.cells c t (0, 0)) := by
  intro k hk
  obtain ⟨_, ⟨rfl, _⟩ | ⟨g, cap, cur, rfl, _, hh, _⟩⟩ := ho
  · simp [Value.ownBlock] at hk
  · simp [Value.ownBlock] at hk; subst hk; exact ⟨cur, hh⟩
end

/-! ### Bytes of the call's own -/
/-- A slice of bytes that is nil, or a whole row of the call's own. -/
def OB (w : World) (ao : Option Addr) (n : Nat) (nl : Bool) (bs : List Int) : Prop :=
  n = bs.length ∧ ((nl = true ∧ ao = none ∧ bs = []) ∨ (nl = false ∧ ∃ g, ao = some ⟨g, 0, none⟩ ∧ w.rowIs g 5 n (fun j => .int .u8 (bs.getD j 0))))

theorem OB.keep {w w' : World} {ao : Option Addr} {n : Nat} {nl : Bool} {bs : List Int} (h : OB w ao n nl bs) (hk : KeepsT 5 w w') : OB w' ao n nl bs := by
  obtain ⟨h1, h2 | ⟨h2, g, h3, h4⟩⟩ := h
  · exact ⟨h1, .inl h2⟩
  · exact ⟨h1, .inr ⟨h2, g, h3, hk.rowIs h4⟩⟩
theorem OB.isl {w : World} {ao : Option Addr} {n : Nat} {nl : Bool} {bs : List Int} (h : OB w ao n nl bs) : ISl .u8 w ao n nl bs := by
  obtain ⟨h1, ⟨rfl, rfl, rfl⟩ | ⟨rfl, g, rfl, h4⟩⟩ := h
  · exact ⟨h1, rfl, .inl rfl⟩
  · refine ⟨h1, rfl, .inr ⟨g, 0, rfl, fun j u hu => ?_⟩⟩
    have hj : j < bs.length := by simpa using (List.getElem?_eq_some_iff.1 hu).1
    rw [Nat.zero_add, h4.cell (by omega)]
    rw [← hu]
    simp [hj]

/-! ### Rows of entries -/
/-- The cells of entries, each with its value's slice. -/
def entCells : List (Ent × Option Addr × Nat) → List Value
  | [] => []
  | p :: r => Value.int .u64 p.1.h :: Value.string p.1.k :: Value.slice p.2.1 p.1.bs.length p.2.2 :: entCells r
theorem entCells_length (l : List (Ent × Option Addr × Nat)) : (entCells l).length = l.length * 3 := by
  induction l with
  | nil => rfl
  | cons x r ih => simp only [entCells, List.length_cons, ih]; omega
theorem entCells_append (a b : List (Ent × Option Addr × Nat)) : entCells (a ++ b) = entCells a ++ entCells b := by
  induction a with
  | nil => rfl
  | cons x r ih => simp only [List.cons_append, entCells, ih]
theorem entCells_get (l : List (Ent × Option Addr × Nat)) (k : Nat) (p : Ent × Option Addr × Nat) (h : l[k]? = some p) :
    (entCells l)[k * 3]? = some (.int .u64 p.1.h) ∧ (entCells l)[k * 3 + 1]? = some (.string p.1.k) ∧ (entCells l)[k * 3 + 2]? = some (.slice p.2.1 p.1.bs.length p.2.2) := by
  induction l generalizing k with
  | nil => simp at h
  | cons x r ih =>
    cases k with
    | zero => simp at h; subst h; simp [entCells]
    | succ k =>
      have := ih k (by simpa using h)
      rw [show (k + 1) * 3 = k * 3 + 3 from by omega]
      simpa [entCells] using this

/-- Entries whose cells lie in one row, their values' bytes the call's own. -/
theorem es_of {w : World} {g : Nat} {l : List (Ent × Option Addr × Nat)} (hc : ∀ j u, (entCells l)[j]? = some u → w.cell? ⟨g, j, none⟩ = some u) (hv : ∀ p ∈ l, OB w p.2.1 p.1.bs.length p.1.nl p.1.bs) :
    ES w (some ⟨g, 0, none⟩) l.length (l.map (·.1)) := by
  refine ⟨by simp, .inr ⟨g, 0, rfl, fun i e he => ?_⟩⟩
  rw [List.getElem?_map] at he
  obtain ⟨p, hp, rfl⟩ := Option.map_eq_some_iff.1 he
  obtain ⟨e0, e1, e2⟩ := entCells_get l i p hp
  rw [Nat.zero_add]
  exact ⟨hc _ _ e0, hc _ _ e1, _, _, _, hc _ _ e2, (hv p (List.mem_of_getElem? hp)).isl⟩

theorem entCells_inv (l : List (Ent × Option Addr × Nat)) (j : Nat) (u : Value) (h : (entCells l)[j]? = some u) :
    ∃ i p, l[i]? = some p ∧ ((j = i * 3 ∧ u = .int .u64 p.1.h) ∨ (j = i * 3 + 1 ∧ u = .string p.1.k) ∨ (j = i * 3 + 2 ∧ u = .slice p.2.1 p.1.bs.length p.2.2)) := by
  induction l generalizing j with
  | nil => simp [entCells] at h
  | cons x r ih =>
    match j, h with
    | 0, h => simp [entCells] at h; exact ⟨0, x, rfl, .inl ⟨rfl, h.symm⟩⟩
    | 1, h => simp [entCells] at h; exact ⟨0, x, rfl, .inr (.inl ⟨rfl, h.symm⟩)⟩
    | 2, h => simp [entCells] at h; exact ⟨0, x, rfl, .inr (.inr ⟨rfl, h.symm⟩)⟩
    | j + 3, h =>
      obtain ⟨i, p, hp, hu⟩ := ih j (by simpa [entCells] using h)
      refine ⟨i + 1, p, by simpa using hp, ?_⟩
      rcases hu with ⟨hj, hu⟩ | ⟨hj, hu⟩ | ⟨hj, hu⟩
      · exact .inl ⟨by omega, hu⟩
      · exact .inr (.inl ⟨by omega, hu⟩)
      · exact .inr (.inr ⟨by omega, hu⟩)

theorem entCells_one (l : List (Ent × Option Addr × Nat)) : ∀ u ∈ entCells l, u.oneCell' = true := by
  intro u hu
  obtain ⟨j, hj⟩ := List.mem_iff_getElem?.1 hu
  obtain ⟨i, p, _, ⟨_, rfl⟩ | ⟨_, rfl⟩ | ⟨_, rfl⟩⟩ := entCells_inv l j u hj <;> rfl

/-- A slice of entries, as the cells of one row. -/
theorem ES.cells {w : World} {ao : Option Addr} {n : Nat} {es : List Ent} (h : ES w ao n es) :
    ∃ L : List (Ent × Option Addr × Nat), L.map (·.1) = es ∧ RowAt w ao (entCells L) ∧ ∀ p ∈ L, ISl .u8 w p.2.1 p.1.bs.length p.1.nl p.1.bs := by
  obtain ⟨_, rfl | ⟨b, off, hao, hc⟩⟩ := h
  · exact ⟨[], rfl, .inl rfl, fun p hp => by simp at hp⟩
  · have hch : ∀ i : Nat, ∃ x : Option Addr × Nat, ∀ e, es[i]? = some e → w.cell? ⟨b, off + i * 3 + 2, none⟩ = some (.slice x.1 e.bs.length x.2) ∧ ISl .u8 w x.1 e.bs.length e.nl e.bs := by
      intro i
      cases he : es[i]? with
      | none => exact ⟨(none, 0), fun e h => by cases h⟩
      | some e =>
        obtain ⟨_, _, va, vn, vc, c2, hv⟩ := hc i e he
        have hvn := hv.1
        subst hvn
        exact ⟨(va, vc), fun e' h' => by cases h'; exact ⟨c2, hv⟩⟩
    obtain ⟨f, hf⟩ : ∃ f : Nat → Option Addr × Nat, ∀ i e, es[i]? = some e → w.cell? ⟨b, off + i * 3 + 2, none⟩ = some (.slice (f i).1 e.bs.length (f i).2) ∧ ISl .u8 w (f i).1 e.bs.length e.nl e.bs :=
      ⟨fun i => Classical.choose (hch i), fun i => Classical.choose_spec (hch i)⟩
    have hL : ∀ i, (es.mapIdx fun i e => (e, f i))[i]? = es[i]?.map fun e => (e, f i) := fun i => by simp
    refine ⟨es.mapIdx fun i e => (e, f i), ?_, .inr ⟨b, off, hao, fun j u hu => ?_⟩, fun p hp => ?_⟩
    · apply List.ext_getElem?
      intro i
      rw [List.getElem?_map, hL]
      cases es[i]? <;> rfl
    · obtain ⟨i, p, hp, hor⟩ := entCells_inv _ j u hu
      rw [hL] at hp
      obtain ⟨e, he, rfl⟩ := Option.map_eq_some_iff.1 hp
      obtain ⟨c0, c1, _⟩ := hc i e he
      obtain ⟨c2, _⟩ := hf i e he
      rcases hor with ⟨rfl, rfl⟩ | ⟨rfl, rfl⟩ | ⟨rfl, rfl⟩
      · exact c0
      · rw [← Nat.add_assoc]; exact c1
      · rw [← Nat.add_assoc]; exact c2
    · obtain ⟨i, hi⟩ := List.mem_iff_getElem?.1 hp
      rw [hL] at hi
      obtain ⟨e, he, rfl⟩ := Option.map_eq_some_iff.1 hi
      exact (hf i e he).2

/-- Entries whose cells lie in one row. -/
theorem es_of' {w : World} {g : Nat} {l : List (Ent × Option Addr × Nat)} (hc : ∀ j u, (entCells l)[j]? = some u → w.cell? ⟨g, j, none⟩ = some u) (hv : ∀ p ∈ l, ISl .u8 w p.2.1 p.1.bs.length p.1.nl p.1.bs) :
    ES w (some ⟨g, 0, none⟩) l.length (l.map (·.1)) := by
  refine ⟨by simp, .inr ⟨g, 0, rfl, fun i e he => ?_⟩⟩
  rw [List.getElem?_map] at he
  obtain ⟨p, hp, rfl⟩ := Option.map_eq_some_iff.1 he
  obtain ⟨e0, e1, e2⟩ := entCells_get l i p hp
  rw [Nat.zero_add]
  exact ⟨hc _ _ e0, hc _ _ e1, _, _, _, hc _ _ e2, hv p (List.mem_of_getElem? hp)⟩

/-- What is owned is a slice. -/
theorem own_shape {w : World} {base : Nat} {e : TypeId} {size : Nat} {v : Value} {n : Nat} {xs : List Value} (h : w.ownsRow base e size v n xs) : ∃ ao c, v = .slice ao n c ∧ RowAt w ao xs := by
  obtain ⟨h1, ⟨rfl, rfl⟩ | ⟨g, cap, cur, rfl, hg, hh, _, _, hs, ht⟩⟩ := h
  · exact ⟨none, 0, rfl, .inl (by simpa using h1)⟩
  · refine ⟨_, _, rfl, .inr ⟨g, 0, rfl, fun j u hu => ?_⟩⟩
    rw [Nat.zero_add, cell_of_row w g j cur e (0, 0) hh]
    rw [← ht, List.getElem?_take] at hu
    split at hu
    · simpa using hu
    · cases hu
/-- A row of entries that is owned. -/
theorem es_own {w : World} {base : Nat} {v : Value} {n : Nat} {l : List (Ent × Option Addr × Nat)} {t : TypeId} (h : w.ownsRow base t 3 v n (entCells l)) (hv : ∀ p ∈ l, ISl .u8 w p.2.1 p.1.bs.length p.1.nl p.1.bs) :
    ∃ ao c, v = .slice ao n c ∧ ES w ao n (l.map (·.1)) := by
  have hl : l.length = n := by have := h.1; rw [entCells_length] at this; omega
  subst hl
  obtain ⟨ao, c, rfl, hr⟩ := own_shape h
  refine ⟨ao, c, rfl, ?_⟩
  obtain ⟨_, ⟨h1, h2⟩ | ⟨g, cap, cur, h1, hg, hh, _⟩⟩ := h
  · have : l = [] := List.eq_nil_of_length_eq_zero h2
    subst this
    exact ⟨rfl, .inl rfl⟩
  · cases h1
    refine es_of' (fun j u hu => ?_) hv
    rcases hr with hr | ⟨b, off, e, hc⟩
    · rw [hr] at hu; simp at hu
    · cases e
      have := hc j u hu
      rwa [Nat.zero_add] at this
end Go.Proofs.Qxb6617096aMods
