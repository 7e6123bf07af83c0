/-
  lawItoa: the decimal numeral of every int64.
-/
import Derived.Test.Qxb6613022aDoorRows
import Derived.Test.Qxb6613022aDoorPlain
import Derived.Test.Qxb6613022aDoorHas
import Derived.Lib.ItoaLen
import Derived.Laws.IdiomStrings
import Derived.Handy
namespace Go.Proofs.Qxb6613022aDoor
open Go.ChangeShapes Go.WideShapes Go.ChangeAt Go.RowKit
theorem off_ne {b k j : Nat} (h : k ≠ j) : (⟨b, k, none⟩ : Addr) ≠ ⟨b, j, none⟩ := fun e => h (Addr.mk.inj e).2.1
theorem add_none (b off j : Nat) : (⟨b, off, none⟩ : Addr).add j = ⟨b, off + j, none⟩ := Lib.add_plain b off j
/-- Block 'b' is there, its first 'n' cells can be read and written. -/
structure Row (w : World) (b n : Nat) : Prop where
  lt : b < w.heap.size
  there : ∀ j, j < n → (w.cell? ⟨b, j, none⟩).isSome = true
  free : ∀ j, w.frozen? ⟨b, j, none⟩ = false
theorem Row.setCell {w : World} {b n : Nat} (h : Row w b n) (k : Nat) (v : Value) : Row (w.setCell ⟨b, k, none⟩ v) b n := by
  refine ⟨by simpa [World.setCell] using h.lt, fun j hj => ?_, fun j => by rw [World.frozen?_setCell]; exact h.free j⟩
  by_cases e : k = j
  · subst e
    rw [World.cell?_setCell_same' _ _ _ (h.there k hj)]; rfl
  · rw [World.cell?_setCell_other _ _ _ _ (off_ne e)]; exact h.there j hj
/-- The digits, none for 0. -/
def digs (x : Nat) : List UInt8 := if x = 0 then [] else Lib.decDigits x
theorem digs_step (x : Nat) (h : 0 < x) : digs x = digs (x / 10) ++ [UInt8.ofNat (48 + x % 10)] := by
  unfold digs
  rw [if_neg (by omega), Lib.decDigits]
  by_cases h1 : x < 10
  · rw [dif_pos h1, if_pos (by omega), Nat.mod_eq_of_lt h1]; rfl
  · rw [dif_neg h1, if_neg (by omega)]
theorem digs_len (x : Nat) (h : x < 18446744073709551616) : (digs x).length ≤ 20 := by
  unfold digs
  split
  · simp
  · rw [Lib.decDigits_length]; exact Lib.nDigits_le20 x h
/-- What the buffer holds: the digits that were written, from place k on. -/
def Buf (w : World) (b k : Nat) (suf : List UInt8) : Prop := ∀ t (h : t < suf.length), w.cell? ⟨b, k + t, none⟩ = some (.int .u8 (suf[t].toNat : Int))
theorem buf_step {w : World} {b k x : Nat} {suf : List UInt8} (hrow : Row w b 20) (hk : k + suf.length = 20) (hk1 : 1 ≤ k) (hb : Buf w b k suf) :
    Buf (w.setCell ⟨b, k - 1, none⟩ (.int .u8 (48 + (x % 10 : Nat) : Int))) b (k - 1) (UInt8.ofNat (48 + x % 10) :: suf) := by
  intro t ht
  cases t with
  | zero =>
    rw [Nat.add_zero, World.cell?_setCell_same' _ _ _ (hrow.there (k - 1) (by omega))]
    simp only [List.getElem_cons_zero, UInt8.toNat_ofNat']
    congr 2
    omega
  | succ t =>
    rw [List.length_cons] at ht
    rw [World.cell?_setCell_other _ _ _ _ (off_ne (by omega)), List.getElem_cons_succ, show k - 1 + (t + 1) = k + t by omega]
    exact hb t (by omega)
theorem str_eq {s : ByteArray} {l : List UInt8} (h : s.data.toList = l) : Ending.returned (.string s) = .returned (.string ⟨l.toArray⟩) := by
  subst h; rfl
theorem dt_append (a b : ByteArray) : (a ++ b).data.toList = a.data.toList ++ b.data.toList := by
  rw [ByteArray.data_append, Array.toList_append]
theorem slice33 (g k : Nat) (w : World) (h : k < 20) : (Instr.sliceAt 33 (.pointer (some ⟨g, 0, none⟩)) (some (.int .i64 (k : Int))) none none).run Tryd.prog w = .ok (.slice (some ⟨g, k, none⟩) (20 - k) (20 - k)) w := by
  have hal : Tryd.prog.arrayLen 33 = 20 := by kernel_rfl
  have hne : ¬ 20 = k := by omega
  rw [run_sliceAt_array_l w 33 ⟨g, 0, none⟩ (by kernel_rfl) .i64 (k : Int) (by omega) (by rw [hal]; omega), hal]
  have hel : Tryd.prog.elem 33 = 5 := by kernel_rfl
  rw [hel]
  simp [Tryd.sizeOf5, slicedAt, hne, add_none]
/-- The buffer's new block. -/
theorem row_new (w : World) : Row (w.alloc (.cells #[.int .u8 0, .int .u8 0, .int .u8 0, .int .u8 0, .int .u8 0, .int .u8 0, .int .u8 0, .int .u8 0, .int .u8 0, .int .u8 0, .int .u8 0, .int .u8 0, .int .u8 0, .int .u8 0, .int .u8 0, .int .u8 0, .int .u8 0, .int .u8 0, .int .u8 0, .int .u8 0] 33)) w.heap.size 20 := by
  refine ⟨by simp, fun j hj => ?_, fun j => World.frozen?_alloc_new _ _ _ _⟩
  rw [World.cell?_alloc_new]
  have e : (#[.int .u8 0, .int .u8 0, .int .u8 0, .int .u8 0, .int .u8 0, .int .u8 0, .int .u8 0, .int .u8 0, .int .u8 0, .int .u8 0, .int .u8 0, .int .u8 0, .int .u8 0, .int .u8 0, .int .u8 0, .int .u8 0, .int .u8 0, .int .u8 0, .int .u8 0, .int .u8 0] : Array Value) = Array.replicate 20 (.int .u8 0) := rfl
  rw [e, Array.getElem?_replicate, if_pos hj]
  rfl
set_option maxHeartbeats 1000000 in
theorem itoa7_pos (U : Nat) (w : World) (h0 : 0 < U) (h1 : (U : Int) ≤ 9223372036854775807) :
    Calls Tryd.prog 7 #[.int .i64 U] w fun e w' => e = .returned (.string ⟨(Lib.itoa U).toArray⟩) ∧ Below w.heap.size w w' := by
  have hz : ((U : Int) == 0) = false := beq_eq_false_iff_ne.2 (by omega)
  have hn : decide ((U : Int) < 0) = false := decide_eq_false (by omega)
  go_enter Tryd.func7, Tryd.ntmps7
  go_wp2
  go_loopw [6, 4] (fun i u wr => ∃ (x k : Nat) (suf : List UInt8), u = .int .u64 x ∧ x ≤ 9300000000000000000 ∧ i = .int .i64 k ∧ k + suf.length = 20 ∧ Hid (digs U = digs x ++ suf) ∧ Below w.heap.size w wr ∧ Row wr w.heap.size 20 ∧ Buf wr w.heap.size k suf) (fun _ u _ => (intOf u).toNat)
  case atStart => exact ⟨U, 20, [], by go_num, by omega, rfl, rfl, (List.append_nil _).symm, (Below.refl _ _).alloc (Nat.le_refl _) _, row_new w, fun t ht => absurd ht (Nat.not_lt_zero _)⟩
  case round =>
    obtain ⟨x, k, suf, rfl, hx, rfl, hk, HD, hbel, hrow, hbuf⟩ := hrel
    by_cases hx0 : 0 < x
    · have hk1 : 1 ≤ k := by
        have h2 := congrArg List.length HD.out
        have h3 := digs_len U (by omega)
        rw [List.length_append, digs_step x hx0, List.length_append, List.length_singleton] at h2
        omega
      have HD2 : Hid (digs U = digs (x / 10) ++ (UInt8.ofNat (48 + x % 10) :: suf)) := by
        show _ = _
        rw [HD.out, digs_step x hx0, List.append_assoc]; rfl
      have hbuf2 := buf_step (x := x) hrow hk hk1 hbuf
      have hrow2 := hrow.setCell (k - 1) (.int .u8 (48 + (x % 10 : Nat) : Int))
      have hbel2 := hbel.setCell (p := ⟨w.heap.size, k - 1, none⟩) (Nat.le_refl _) (.int .u8 (48 + (x % 10 : Nat) : Int))
      have HB : Hid (Buf (wr.setCell ⟨w.heap.size, k - 1, none⟩ (.int .u8 (48 + (x % 10 : Nat) : Int))) w.heap.size (k - 1) (UInt8.ofNat (48 + x % 10) :: suf)) := hbuf2
      have hfree := hrow.free (k - 1)
      obtain ⟨v0, hv0⟩ := Option.isSome_iff_exists.1 (hrow.there (k - 1) (by omega))
      have hlt := hrow.lt
      have hx1 : (0 : Int) < x := by omega
      have hkk : (1 : Int) ≤ k := by omega
      have hk20 : (k : Int) ≤ 20 := by omega
      clear hbuf2 HD hbuf hrow hbel
      go_wp2
      go_roundw
      case rel => exact ⟨x / 10, k - 1, UInt8.ofNat (48 + x % 10) :: suf, by go_num, by omega, by go_num, by rw [List.length_cons]; omega, HD2, hbel2, hrow2, HB.out⟩
      case measure => simp [intOf]; omega
    · obtain rfl : x = 0 := by omega
      have hsuf : digs U = suf := by rw [HD.out]; rfl
      have HSUF : Hid (digs U = suf) := hsuf
      have hk20 : k < 20 := by
        have h2 : digs U ≠ [] := by
          unfold digs
          rw [if_neg (by omega)]; exact dec_ne U
        have h3 : 0 < suf.length := by rw [← hsuf]; exact List.length_pos_iff.2 h2
        omega
      have hk20' : (k : Int) < 20 := by omega
      have hk21 : ¬ 20 = k := by omega
      have hls : suf.length ≤ 20 := by omega
      have hsl : suf.length = 20 - k := by omega
      have hconv : (convert 34 9 (.slice (some ⟨w.heap.size, k, none⟩) (20 - k) (20 - k))).run Tryd.prog wr = .ok (.string ⟨suf.toArray⟩) wr := by
        rw [← hsl]
        exact run_convert_bytes_back wr 34 9 5 ⟨w.heap.size, k, none⟩ suf.length suf Tryd.underlying34 Tryd.underlying5 Tryd.underlying9 (fun j hj => by rw [add_none]; exact hbuf j hj)
      have hslice := slice33 w.heap.size k wr hk20
      clear hsuf HD hbuf hrow hsl
      have hss : (⟨suf.toArray⟩ : ByteArray).size ≤ 20 := hls
      go_wp2
      go_ret
      refine ⟨str_eq ?_, hbel⟩
      rw [Lib.itoa_nonneg]
      have h3 := HSUF.out
      unfold digs at h3
      rw [if_neg (by omega)] at h3
      exact h3.symm
set_option maxHeartbeats 1000000 in
theorem itoa7_neg (U : Nat) (v : Int) (w : World) (h0 : 0 < U) (hv : v + U ≤ 0) (hv' : 0 ≤ v + U) (h1 : -9223372036854775808 ≤ v) :
    Calls Tryd.prog 7 #[.int .i64 v] w fun e w' => e = .returned (.string ⟨(Lib.itoa (-(U : Int))).toArray⟩) ∧ Below w.heap.size w w' := by
  have hz : (-(v + 1) + 1 == 0) = false := beq_eq_false_iff_ne.2 (by omega)
  have hn : decide (v < 0) = true := decide_eq_true (by omega)
  go_enter Tryd.func7, Tryd.ntmps7
  go_wp2
  go_loopw [6, 4] (fun i u wr => ∃ (x k : Nat) (suf : List UInt8), u = .int .u64 x ∧ x ≤ 9300000000000000000 ∧ i = .int .i64 k ∧ k + suf.length = 20 ∧ Hid (digs U = digs x ++ suf) ∧ Below w.heap.size w wr ∧ Row wr w.heap.size 20 ∧ Buf wr w.heap.size k suf) (fun _ u _ => (intOf u).toNat)
  case atStart => exact ⟨U, 20, [], by go_num, by omega, rfl, rfl, (List.append_nil _).symm, (Below.refl _ _).alloc (Nat.le_refl _) _, row_new w, fun t ht => absurd ht (Nat.not_lt_zero _)⟩
  case round =>
    obtain ⟨x, k, suf, rfl, hx, rfl, hk, HD, hbel, hrow, hbuf⟩ := hrel
    by_cases hx0 : 0 < x
    · have hk1 : 1 ≤ k := by
        have h2 := congrArg List.length HD.out
        have h3 := digs_len U (by omega)
        rw [List.length_append, digs_step x hx0, List.length_append, List.length_singleton] at h2
        omega
      have HD2 : Hid (digs U = digs (x / 10) ++ (UInt8.ofNat (48 + x % 10) :: suf)) := by
        show _ = _
        rw [HD.out, digs_step x hx0, List.append_assoc]; rfl
      have hbuf2 := buf_step (x := x) hrow hk hk1 hbuf
      have hrow2 := hrow.setCell (k - 1) (.int .u8 (48 + (x % 10 : Nat) : Int))
      have hbel2 := hbel.setCell (p := ⟨w.heap.size, k - 1, none⟩) (Nat.le_refl _) (.int .u8 (48 + (x % 10 : Nat) : Int))
      have HB : Hid (Buf (wr.setCell ⟨w.heap.size, k - 1, none⟩ (.int .u8 (48 + (x % 10 : Nat) : Int))) w.heap.size (k - 1) (UInt8.ofNat (48 + x % 10) :: suf)) := hbuf2
      have hfree := hrow.free (k - 1)
      obtain ⟨v0, hv0⟩ := Option.isSome_iff_exists.1 (hrow.there (k - 1) (by omega))
      have hlt := hrow.lt
      have hx1 : (0 : Int) < x := by omega
      have hkk : (1 : Int) ≤ k := by omega
      have hk20 : (k : Int) ≤ 20 := by omega
      clear hbuf2 HD hbuf hrow hbel
      go_wp2
      go_roundw
      case rel => exact ⟨x / 10, k - 1, UInt8.ofNat (48 + x % 10) :: suf, by go_num, by omega, by go_num, by rw [List.length_cons]; omega, HD2, hbel2, hrow2, HB.out⟩
      case measure => simp [intOf]; omega
    · obtain rfl : x = 0 := by omega
      have hsuf : digs U = suf := by rw [HD.out]; rfl
      have HSUF : Hid (digs U = suf) := hsuf
      have hk20 : k < 20 := by
        have h2 : digs U ≠ [] := by
          unfold digs
          rw [if_neg (by omega)]; exact dec_ne U
        have h3 : 0 < suf.length := by rw [← hsuf]; exact List.length_pos_iff.2 h2
        omega
      have hk20' : (k : Int) < 20 := by omega
      have hk21 : ¬ 20 = k := by omega
      have hls : suf.length ≤ 20 := by omega
      have hsl : suf.length = 20 - k := by omega
      have hconv : (convert 34 9 (.slice (some ⟨w.heap.size, k, none⟩) (20 - k) (20 - k))).run Tryd.prog wr = .ok (.string ⟨suf.toArray⟩) wr := by
        rw [← hsl]
        exact run_convert_bytes_back wr 34 9 5 ⟨w.heap.size, k, none⟩ suf.length suf Tryd.underlying34 Tryd.underlying5 Tryd.underlying9 (fun j hj => by rw [add_none]; exact hbuf j hj)
      have hslice := slice33 w.heap.size k wr hk20
      clear hsuf HD hbuf hrow hsl
      have hss : (⟨suf.toArray⟩ : ByteArray).size ≤ 20 := hls
      go_wp2
      go_ret
      refine ⟨str_eq ?_, hbel⟩
      rw [Lib.itoa_neg U (by omega), dt_append]
      have h3 := HSUF.out
      unfold digs at h3
      rw [if_neg (by omega)] at h3
      rw [h3]
      rfl
/-- lawItoa. -/
theorem itoa7 (v : Int) (w : World) (h0 : -9223372036854775808 ≤ v) (h1 : v ≤ 9223372036854775807) :
    Calls Tryd.prog 7 #[.int .i64 v] w fun e w' => e = .returned (.string ⟨(Lib.itoa v).toArray⟩) ∧ Below w.heap.size w w' := by
  rcases Int.lt_trichotomy v 0 with h | rfl | h
  · obtain ⟨U, hU⟩ : ∃ U : Nat, v = -(U : Int) := ⟨v.natAbs, by omega⟩
    have := itoa7_neg U v w (by omega) (by omega) (by omega) h0
    rwa [← hU] at this
  · rw [itoa_zero]
    go_enter Tryd.func7, Tryd.ntmps7
    go_wp2
    go_ret
    exact ⟨rfl, Below.refl _ _⟩
  · obtain ⟨U, rfl⟩ : ∃ U : Nat, v = (U : Int) := ⟨v.toNat, by omega⟩
    exact itoa7_pos U w (by omega) h1
end Go.Proofs.Qxb6613022aDoor
