/-
  What the rounds do to memory, outside the walks: a row of the call's own that is filled place by place while new blocks are laid beside it.
-/
import Derived.Test.Qxb6613022aPlain
import Derived.WalkKit
import Derived.ProofKit
namespace Go.Proofs.Qxb6613022a
open Go.ChangeShapes Go.WideShapes Go.ChangeAt Go.RowKit

theorem off_ne {b k j : Nat} (h : k ≠ j) : (⟨b, k, none⟩ : Addr) ≠ ⟨b, j, none⟩ := fun e => h (Addr.mk.inj e).2.1
theorem blk_ne {b c k j : Nat} (h : b ≠ c) : (⟨b, k, none⟩ : Addr) ≠ ⟨c, j, none⟩ := fun e => h (Addr.mk.inj e).1

/-- Block 'b' is there, its first 'n' cells can be read and written. -/
structure Row (w : World) (b n : Nat) : Prop where
  lt : b < w.heap.size
  there : ∀ j, j < n → (w.cell? ⟨b, j, none⟩).isSome = true
  free : ∀ j, w.frozen? ⟨b, j, none⟩ = false

theorem Row.below {w w' : World} {b n : Nat} (h : Row w b n) (hb : Below w.heap.size w w') : Row w' b n :=
  ⟨Nat.lt_of_lt_of_le h.lt hb.size, fun j hj => by rw [hb.cell (p := ⟨b, j, none⟩) h.lt]; exact h.there j hj, fun j => by rw [hb.frozen (p := ⟨b, j, none⟩) h.lt]; exact h.free j⟩
theorem Row.setCell {w : World} {b n : Nat} (h : Row w b n) (k : Nat) (v : Value) : Row (w.setCell ⟨b, k, none⟩ v) b n := by
  refine ⟨by simpa [World.setCell] using h.lt, fun j hj => ?_, fun j => by rw [World.frozen?_setCell]; exact h.free j⟩
  by_cases e : k = j
  · subst e
    rw [World.cell?_setCell_same' _ _ _ (h.there k hj)]; rfl
  · rw [World.cell?_setCell_other _ _ _ _ (off_ne e)]; exact h.there j hj
theorem size_setCell (w : World) (a : Addr) (v : Value) : (w.setCell a v).heap.size = w.heap.size := by simp [World.setCell]
theorem below_alloc (w : World) (o : Obj) : Below w.heap.size w (w.alloc o) := (Below.refl _ _).alloc (Nat.le_refl _) _

/-- A made row ('make([]T, n)'). -/
theorem Row.made {w1 : World} {g base e n : Nat} {xs : List Value} (hown : w1.ownsRow base e 1 (.slice (some ⟨g, 0, none⟩) n n) n xs) : Row w1 g n := by
  have hlen := hown.1
  have hcell : ∀ j, j < n → (w1.cell? ⟨g, j, none⟩).isSome = true := fun j hj => by
    rw [hown.cellAt j (by omega), List.getElem?_eq_getElem (by omega)]; rfl
  refine ⟨?_, hcell, fun j => hown.frozenAt j⟩
  rcases hown.2 with ⟨h', _⟩ | ⟨g', cap', cur, h', _, hg, _⟩
  · simp at h'
  · simp only [Value.slice.injEq, Option.some.injEq, Addr.mk.injEq, and_true, true_and] at h'
    obtain ⟨rfl, rfl⟩ := h'
    exact (Array.getElem?_eq_some_iff.1 hg).1

/-- The first 'k' places of block 'eb' hold errors of errors.New over the strings. -/
def Filled (w : World) (eb k : Nat) (xs : List ByteArray) : Prop :=
  ∀ j (h : j < xs.length), j < k → ∃ g, eb ≠ g ∧ g < w.heap.size ∧ w.cell? ⟨eb, j, none⟩ = some (.iface 42 (.pointer (some ⟨g, 0, none⟩))) ∧ w.cell? ⟨g, 0, none⟩ = some (.string xs[j])

theorem Filled.below {w w' : World} {eb k : Nat} {xs : List ByteArray} (h : Filled w eb k xs) (he : eb < w.heap.size) (hb : Below w.heap.size w w') : Filled w' eb k xs := by
  intro j hj hk
  obtain ⟨g, h1, h2, h3, h4⟩ := h j hj hk
  exact ⟨g, h1, Nat.lt_of_lt_of_le h2 hb.size, by rw [hb.cell (p := ⟨eb, j, none⟩) he]; exact h3, by rw [hb.cell (p := ⟨g, 0, none⟩) h2]; exact h4⟩

/-- ONE ROUND of zzRun: a new error is laid, and stored at place k. -/
theorem run_step {w wr : World} {eb k : Nat} {xs : List ByteArray} (hk : k < xs.length) (hbel : Below w.heap.size w wr) (hlt : w.heap.size ≤ eb) (hrow : Row wr eb xs.length) (hf : Filled wr eb k xs) {ws : World}
    (hws : ws = (wr.setCell ⟨eb, k, none⟩ (.iface 42 (.pointer (some ⟨wr.heap.size, 0, none⟩)))).alloc (.cells #[.string xs[k]] 44)) :
    Below w.heap.size w ws ∧ Row ws eb xs.length ∧ Filled ws eb (k + 1) xs := by
  have hr1 := hrow.setCell k (.iface 42 (.pointer (some ⟨wr.heap.size, 0, none⟩)))
  have hsz : ws.heap.size = wr.heap.size + 1 := by rw [hws]; simp
  have hb1 : Below (wr.setCell ⟨eb, k, none⟩ (.iface 42 (.pointer (some ⟨wr.heap.size, 0, none⟩)))).heap.size (wr.setCell ⟨eb, k, none⟩ (.iface 42 (.pointer (some ⟨wr.heap.size, 0, none⟩)))) ws := by
    rw [hws]; exact below_alloc _ _
  refine ⟨?_, hr1.below hb1, ?_⟩
  · rw [hws]
    exact (hbel.setCell (p := ⟨eb, k, none⟩) hlt _).alloc (by have := hbel.size; simp; omega) _
  · intro j hj hj'
    have ebl := hrow.lt
    by_cases e : j = k
    · subst e
      refine ⟨wr.heap.size, by omega, by omega, ?_, ?_⟩
      · rw [hb1.cell (p := ⟨eb, j, none⟩) (by simp; omega), World.cell?_setCell_same' _ _ _ (hrow.there j hj)]
      · rw [hws, World.cell?_alloc_at _ _ _ _ (by simp)]; rfl
    · obtain ⟨g, h1, h2, h3, h4⟩ := hf j hj (by omega)
      refine ⟨g, h1, by omega, ?_, ?_⟩
      · rw [hb1.cell (p := ⟨eb, j, none⟩) (by simp; omega), World.cell?_setCell_other _ _ _ _ (off_ne (by omega))]; exact h3
      · rw [hb1.cell (p := ⟨g, 0, none⟩) (by simp; omega), World.cell?_setCell_other _ _ _ _ (blk_ne h1)]; exact h4

/-- 'p' points to a RunError over the strings. -/
def RunOf (xs : List ByteArray) (w : World) (p : Nat) : Prop :=
  p < w.heap.size ∧ ∃ ea, w.cell? ⟨p, 0, none⟩ = some (.slice ea xs.length xs.length) ∧ (xs = [] ∨ ∃ eb, ea = some ⟨eb, 0, none⟩ ∧ eb < w.heap.size ∧ Filled w eb xs.length xs)

theorem RunOf.below {w w' : World} {p : Nat} {xs : List ByteArray} (h : RunOf xs w p) (hb : Below w.heap.size w w') : RunOf xs w' p := by
  obtain ⟨h1, ea, h2, h3⟩ := h
  refine ⟨Nat.lt_of_lt_of_le h1 hb.size, ea, by rw [hb.cell (p := ⟨p, 0, none⟩) h1]; exact h2, ?_⟩
  rcases h3 with h3 | ⟨eb, h3, h4, h5⟩
  · exact Or.inl h3
  · exact Or.inr ⟨eb, h3, Nat.lt_of_lt_of_le h4 hb.size, h5.below h4 hb⟩

/-- zzRun's end. -/
def RunMade (xs : List ByteArray) (w : World) (e : Ending) (w' : World) : Prop := ∃ p, e = .returned (.pointer (some ⟨p, 0, none⟩)) ∧ Below w.heap.size w w' ∧ RunOf xs w' p
end Go.Proofs.Qxb6613022a
