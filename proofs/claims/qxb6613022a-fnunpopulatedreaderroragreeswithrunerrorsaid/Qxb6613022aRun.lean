/-
  zzRun: a RunError over the errors of the strings.
-/
import Derived.Test.Qxb6613022aErr
import Derived.Test.Qxb6613022aParts
import Derived.WalkSpells
namespace Go.Proofs.Qxb6613022a
open Go.ChangeShapes Go.WideShapes Go.ChangeAt Go.RowKit
theorem Try.info34 : (Try.prog.info? 34).map (fun i => (i.zero, i.size, i.bytes)) = some (some .nilIface, 1, 16) := by kernel_rfl
theorem Try.info9 : (Try.prog.info? 9).map (fun i => (i.zero, i.size, i.bytes)) = some (some (.string ⟨#[]⟩), 1, 16) := by kernel_rfl
set_option maxHeartbeats 400000 in
theorem run14 (b off cap : Nat) (xs : List ByteArray) (w : World) (hb : b < w.heap.size) (hx : ∀ j (h : j < xs.length), w.cell? ⟨b, off + j, none⟩ = some (.string xs[j])) (hl : xs.length ≤ 65536) :
    Calls Try.prog 14 #[.slice (some ⟨b, off, none⟩) xs.length cap] w (RunMade xs w) := by
  obtain ⟨i0, hi, hz0, hz1, hz2⟩ := info_parts Try.info34
  have q22 : ∀ (w : World) (a : Option Addr) (n c n' c' : Nat), (binOp .neq 22 (.slice a n c) (.slice none n' c')).run Try.prog w = .ok (.bool (!a.isNone)) w := fun w a n c n' c' => run_neq_slice_nil_any w _ _ a n c n' c' Try.underlying22
  go_enter Try.func14, Try.ntmps14
  go_wp2_with (at_make; refine wpList_make_full _ rfl (.tmp 8) (.tmp 8) 38 rfl w.heap.size 34 i0 .nilIface 1 Try.underlying38 hi hz0 hz1 .i64 .i64 xs.length xs.length xs.length rfl rfl rfl rfl (by rw [hz2]; omega) (by unfold maxLen; omega) (Nat.le_refl _) ?_; intro w1 hown hgrow)
  have hrow1 := Row.made hown
  have hbel1 : Below w.heap.size w w1 := (Below.refl _ _).grown hgrow (Nat.le_refl _) (fun k hk => by cases hk)
  clear hown hgrow hi hz0 hz1 hz2
  go_loopw [4] (fun i wr => ∃ k : Nat, k ≤ xs.length ∧ i = .int .i64 k ∧ Below w.heap.size w wr ∧ Row wr w.heap.size xs.length ∧ Filled wr w.heap.size k xs) (fun i _ => xs.length - (intOf i).toNat)
  case atStart => exact ⟨0, Nat.zero_le _, rfl, hbel1, hrow1, fun j _ h => absurd h (Nat.not_lt_zero _)⟩
  case round =>
    obtain ⟨k, hk, rfl, hbel, hrow, hfil⟩ := hrel
    by_cases hlt : k < xs.length
    · have hcell : wr.cell? ⟨b, off + k, none⟩ = some (.string xs[k]) := (hbel.cell (p := ⟨b, off + k, none⟩) hb).trans (hx k hlt)
      have hfree := hrow.free k
      obtain ⟨v0, hv0⟩ := Option.isSome_iff_exists.1 (hrow.there k hlt)
      have hlt2 := hrow.lt
      have HR := @run_step w wr w.heap.size k xs hlt hbel (Nat.le_refl _) hrow hfil
      have HR' : Hid (∀ {ws : World}, ws = (wr.setCell ⟨w.heap.size, k, none⟩ (.iface 42 (.pointer (some ⟨wr.heap.size, 0, none⟩)))).alloc (.cells #[.string xs[k]] 44) → Below w.heap.size w ws ∧ Row ws w.heap.size xs.length ∧ Filled ws w.heap.size (k + 1) xs) := HR
      clear HR hbel hrow hfil hx
      generalize xs[k] = x at hcell HR'
      go_wp2_with (go_at_call 17; refine (errNew _ _).mono ?_; rintro e w' ⟨rfl, rfl⟩)
      go_roundw
      case rel => exact ⟨k + 1, by omega, by go_num, HR'.out rfl⟩
      case measure => simp [intOf]; omega
    · obtain rfl : k = xs.length := by omega
      have hsz := hbel.size
      go_wp2
      go_ret
      have hb2 := below_alloc wr (.cells #[.slice (some ⟨w.heap.size, 0, none⟩) xs.length xs.length] 40)
      refine ⟨wr.heap.size, rfl, hbel.trans (hb2.mono hsz), by simp, some ⟨w.heap.size, 0, none⟩, by simp, Or.inr ⟨w.heap.size, rfl, by have := hrow.lt; simp; omega, hfil.below hrow.lt hb2⟩⟩

set_option maxHeartbeats 400000 in
theorem run14_nil (w : World) : Calls Try.prog 14 #[.slice none 0 0] w (RunMade [] w) := by
  have q22 : ∀ (w : World) (a : Option Addr) (n c n' c' : Nat), (binOp .neq 22 (.slice a n c) (.slice none n' c')).run Try.prog w = .ok (.bool (!a.isNone)) w := fun w a n c n' c' => run_neq_slice_nil_any w _ _ a n c n' c' Try.underlying22
  go_enter Try.func14, Try.ntmps14
  go_wp2
  go_ret
  exact ⟨w.heap.size, rfl, below_alloc _ _, by simp, none, by simp, Or.inl rfl⟩
end Go.Proofs.Qxb6613022a
