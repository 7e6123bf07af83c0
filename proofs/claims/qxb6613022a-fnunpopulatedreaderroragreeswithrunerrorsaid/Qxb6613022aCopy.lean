/-
  'zzc := make([]string, len(msgs)); copy(zzc, msgs)': what the copy holds; and the 'zzBytes_..' contracts at a slice that came in, wherever it lies.
-/
import Derived.Test.Qxb6613022aCalls
import Derived.Test.Qxb6613022aBytes
import Derived.Laws.CopyRow
import Derived.Laws.CopyOwn
namespace Go.Proofs.Qxb6613022a
open Go.ChangeShapes Go.WideShapes Go.ChangeAt Go.RowKit
theorem add_none (b off j : Nat) : (⟨b, off, none⟩ : Addr).add j = ⟨b, off + j, none⟩ := by
  unfold Addr.add
  split
  · next h => subst h; rfl
  · rfl
theorem lt_of_cell {w : World} {a : Addr} {v : Value} (h : w.cell? a = some v) : a.block < w.heap.size := by
  by_cases hlt : a.block < w.heap.size
  · exact hlt
  · have hn : w.heap[a.block]? = none := Array.getElem?_eq_none (by omega)
    simp [World.cell?, hn] at h
/-- Where at least one string lies, the address is a plain place. -/
theorem plain_addr {w : World} {a : Addr} {xs : List ByteArray} (hx : ∀ j (h : j < xs.length), w.cell? (a.add j) = some (.string xs[j])) (h0 : 0 < xs.length) :
    ∃ b off, a = ⟨b, off, none⟩ ∧ b < w.heap.size := by
  have h1 : w.cell? a = some (.string xs[0]) := by
    have := hx 0 h0
    simpa [Addr.add] using this
  obtain ⟨b, off, sp⟩ := a
  have h2 : sp = none := World.cell?_spot h1
  subst h2
  exact ⟨b, off, rfl, lt_of_cell h1⟩
theorem bytes6_any (a : Addr) (cap : Nat) (xs : List ByteArray) (m : Int) (w : World) (hx : ∀ j (h : j < xs.length), w.cell? (a.add j) = some (.string xs[j])) (hs : ∀ j (h : j < xs.length), xs[j].size ≤ 9223372036854775807) (hl : xs.length ≤ 9223372036854775807) :
    Calls Try.prog 6 #[.slice (some a) xs.length cap, .int .i64 m] w (Bounded xs w) := by
  cases xs with
  | nil => exact bytes6_nil (some a) cap m w
  | cons x r =>
    obtain ⟨b, off, rfl, _⟩ := plain_addr hx (by simp)
    exact bytes6 b off cap (x :: r) m w (fun j hj => by rw [← add_none]; exact hx j hj) hs hl
theorem bytes11_any (a : Addr) (cap : Nat) (xs : List ByteArray) (m : Int) (w : World) (hx : ∀ j (h : j < xs.length), w.cell? (a.add j) = some (.string xs[j])) (hs : ∀ j (h : j < xs.length), xs[j].size ≤ 9223372036854775807) (hl : xs.length ≤ 9223372036854775807) :
    Calls Try.prog 11 #[.slice (some a) xs.length cap, .int .i64 m] w (Bounded xs w) := by
  cases xs with
  | nil => exact bytes11_nil (some a) cap m w
  | cons x r =>
    obtain ⟨b, off, rfl, _⟩ := plain_addr hx (by simp)
    exact bytes11 b off cap (x :: r) m w (fun j hj => by rw [← add_none]; exact hx j hj) hs hl
theorem bytes8_any (a : Addr) (cap : Nat) (xs : List ByteArray) (w : World) (hx : ∀ j (h : j < xs.length), w.cell? (a.add j) = some (.string xs[j])) (hs : ∀ j (h : j < xs.length), xs[j].size ≤ 9223372036854775807) (hl : xs.length ≤ 9223372036854775807) :
    Calls Try.prog 8 #[.slice (some a) xs.length cap] w (Bounded xs w) := by
  cases xs with
  | nil => exact bytes8_nil (some a) cap w
  | cons x r =>
    obtain ⟨b, off, rfl, _⟩ := plain_addr hx (by simp)
    exact bytes8 b off cap (x :: r) w (fun j hj => by rw [← add_none]; exact hx j hj) hs hl
/-- A made row's block. -/
theorem made_block {w1 : World} {g base e n : Nat} {xs : List Value} (hown : w1.ownsRow base e 1 (.slice (some ⟨g, 0, none⟩) n n) n xs) : ∃ cur : List Value, cur.length = n ∧ w1.heap[g]? = some (.cells cur.toArray e (0, 0)) := by
  rcases hown.2 with ⟨h', _⟩ | ⟨g', cap', cur, h', _, hg, _, _, hcs, _⟩
  · simp at h'
  · simp only [Value.slice.injEq, Option.some.injEq, Addr.mk.injEq, and_true, true_and] at h'
    obtain ⟨rfl, rfl⟩ := h'
    exact ⟨cur.toList, by simpa using hcs, by simpa using hg⟩
theorem sz9 : Option.map (fun x => x.size) (Try.prog.info? 9) = some 1 := by kernel_rfl
/-- What the copy has left: nothing old has turned, the strings lie in the new block. -/
def Copied (w0 : World) (xs : List ByteArray) (w2 : World) : Prop :=
  Below w0.heap.size w0 w2 ∧ w0.heap.size < w2.heap.size ∧ ∀ j (h : j < xs.length), w2.cell? ⟨w0.heap.size, j, none⟩ = some (.string xs[j])
/-- 'copy(zzc, msgs)' into a row just made. -/
theorem copy_run {w0 w1 : World} {a : Addr} {cap : Nat} {xs : List ByteArray} (hx : ∀ j (h : j < xs.length), w0.cell? (a.add j) = some (.string xs[j])) (hb1 : Below w0.heap.size w0 w1) {vs : List Value}
    (hown : w1.ownsRow w0.heap.size 9 1 (.slice (some ⟨w0.heap.size, 0, none⟩) xs.length xs.length) xs.length vs) :
    ∃ w2, (Builtin.copy_ #[22, 22] 3 #[.slice (some ⟨w0.heap.size, 0, none⟩) xs.length xs.length, .slice (some a) xs.length cap]).run Try.prog w1 = .ok (.int .i64 xs.length) w2 ∧ Copied w0 xs w2 := by
  obtain ⟨cur, hcl, hg⟩ := made_block hown
  have hlt : w0.heap.size < w1.heap.size := (Array.getElem?_eq_some_iff.1 hg).1
  have hrun := run_copy_row (P := Try.prog) w1 22 22 3 9 w0.heap.size 0 xs.length xs.length a xs.length cap cur.toArray 9 (xs.map Value.string) Try.underlying22 sz9 hg (by simp) (fun j v hv => by
      rw [List.getElem?_map] at hv
      obtain ⟨x, hx1, rfl⟩ := Option.map_eq_some_iff.1 hv
      obtain ⟨hj, rfl⟩ := List.getElem?_eq_some_iff.1 hx1
      rw [hb1.cell (p := a.add j) (lt_of_cell (hx j hj))]
      exact hx j hj) (by simp [hcl]) (fun v hv => by
      obtain ⟨s, _, rfl⟩ := List.mem_map.1 hv
      rfl)
  have e : (cur.toArray.toList.take 0 ++ xs.map Value.string ++ cur.toArray.toList.drop (0 + (xs.map Value.string).length)) = xs.map Value.string := by
    rw [List.take_zero, List.nil_append, List.drop_of_length_le (by simp [hcl]), List.append_nil]
  rw [e, List.length_map] at hrun
  have hs2 : (w1.setRow w0.heap.size (xs.map Value.string).toArray).heap[w0.heap.size]? = some (.cells (xs.map Value.string).toArray 9 (0, 0)) := setRow_heap _ _ _ _ _ _ hg
  refine ⟨_, hrun, below_setRow hb1 (Nat.le_refl _) _, (Array.getElem?_eq_some_iff.1 hs2).1, fun j hj => ?_⟩
  simp [World.cell?, hs2, hj]
end Go.Proofs.Qxb6613022a
