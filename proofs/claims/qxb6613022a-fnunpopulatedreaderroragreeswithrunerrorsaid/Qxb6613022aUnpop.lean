/-
  FnUnpopulatedReadErrorAgreesWithRunError, walked: it returns true, whatever the messages.
-/
import Derived.Test.Qxb6613022aSplit
import Derived.Deep.RegionHeld3
namespace Go.Proofs.Qxb6613022a
open Go.ChangeShapes Go.WideShapes Go.ChangeAt Go.RowKit
theorem unpopRun9' (ad : Option Addr) (cap n : Nat) (xs : List ByteArray) (w : World) (hn : xs.length = n) (h : Strs w ad cap xs) (hl : xs.length ≤ 65536) (hs : sz xs ≤ 16777216) :
    Calls Try.prog 9 #[.slice ad n cap] w fun e w' => e = .returned (.string (jn xs)) ∧ Below w.heap.size w w' := by
  subst hn; exact unpopRun9 ad cap xs w h hl hs
set_option maxHeartbeats 1000000 in
theorem unpop4 (a : Addr) (cap : Nat) (xs : List ByteArray) (w : World) (hx : ∀ j (h : j < xs.length), w.cell? (a.add j) = some (.string xs[j])) (hs : ∀ j (h : j < xs.length), xs[j].size ≤ 9223372036854775807) (hl : xs.length ≤ 9223372036854775807) :
    Calls Try.prog 4 #[.slice (some a) xs.length cap] w fun e w' => e = .returned (.bool true) ∧ Below w.heap.size w w' := by
  have q22 : ∀ (w : World) (a : Option Addr) (n c n' c' : Nat), (binOp .neq 22 (.slice a n c) (.slice none n' c')).run Try.prog w = .ok (.bool (!a.isNone)) w := fun w a n c n' c' => run_neq_slice_nil_any w _ _ a n c n' c' Try.underlying22
  obtain ⟨i0, hi, hz0, hz1, hz2⟩ := info_parts Try.info9
  have HX : Hid (∀ j (h : j < xs.length), w.cell? (a.add j) = some (.string xs[j])) := hx
  have HSS : Hid (∀ j (h : j < xs.length), xs[j].size ≤ 9223372036854775807) := hs
  clear hx hs
  go_enter Try.func4, Try.ntmps4
  go_wp2_with fail
  refine (bytes8_any a cap xs w HX.out HSS.out hl).mono ?_
  rintro e w0 ⟨r, rfl, rfl, hr⟩
  cases r
  · go_wp2
    go_ret
    exact ⟨rfl, Below.refl _ _⟩
  have hsum := hr rfl
  clear hr HSS
  by_cases hbig : (65536 : Int) < xs.length
  · go_wp2
    go_ret
    exact ⟨rfl, Below.refl _ _⟩
  have hle : (xs.length : Int) ≤ 65536 := by omega
  clear hbig
  go_wp2_with (at_make; refine wpList_make_full _ rfl (.tmp 16) (.tmp 16) 22 rfl w0.heap.size 9 i0 (.string ⟨#[]⟩) 1 Try.underlying22 hi hz0 hz1 .i64 .i64 xs.length xs.length xs.length rfl rfl rfl rfl (by rw [hz2]; omega) (by unfold maxLen; omega) (Nat.le_refl _) ?_; intro w1 hown hgrow; obtain ⟨w2, hcp, hw2⟩ := copy_run (cap := cap) HX.out ((Below.refl _ _).grown hgrow (Nat.le_refl _) (fun k hk => by cases hk)) hown; clear hown hgrow)
  clear hcp hi hz0 hz1 hz2 HX
  obtain ⟨hb2, hlt2, hc2⟩ := hw2
  have HC2 : Hid (∀ j (h : j < xs.length), w2.cell? ⟨w0.heap.size, j, none⟩ = some (.string xs[j])) := hc2
  clear hc2
  go_loop [4, 5] (fun n i => ∃ k : Nat, k ≤ xs.length ∧ i = .int .i64 k ∧ n = .int .i64 ((16 * k + sz (xs.take k) : Nat) : Int)) (fun _ i => xs.length - (intOf i).toNat)
  case atStart => exact ⟨0, Nat.zero_le _, rfl, rfl⟩
  case round =>
    obtain ⟨k, hk, rfl, rfl⟩ := hrel
    by_cases hlt : k < xs.length
    · have hcell := HC2.out k hlt
      have hsz := sz_get_le xs k hlt
      have hst := sz_take_le xs k
      have HS : Hid (sz (xs.take (k + 1)) = sz (xs.take k) + xs[k].size) := sz_take_succ xs k hlt
      generalize hX : xs[k] = x at hcell hsz HS
      clear hX
      generalize sz (xs.take k) = n0 at HS hst ⊢
      go_wp2
      · go_ret
        exact ⟨rfl, hb2⟩
      · go_round
        case rel => exact ⟨k + 1, by omega, by go_num, by rw [HS.out]; go_num⟩
        case measure => simp [intOf]; omega
    · generalize sz (xs.take k) = n0
      go_wp2_with fail
      refine (unpopRun9' _ _ _ xs w2 rfl (strs_all _ hlt2 HC2.out) (by omega) (by omega)).mono ?_
      rintro e w3 ⟨rfl, hb3⟩
      have HC3 : Hid (∀ j (h : j < xs.length), w3.cell? ⟨w0.heap.size, j, none⟩ = some (.string xs[j])) := cells_below hb3 hlt2 HC2.out
      have hlt3 : w0.heap.size < w3.heap.size := Nat.lt_of_lt_of_le hlt2 hb3.size
      have hb03 : Below w0.heap.size w0 w3 := hb2.trans (hb3.mono (by omega))
      clear hb3 HC2 hlt2 hb2
      go_wp2_with fail
      refine (text7' _ _ _ xs w3 rfl (strs_all _ hlt3 HC3.out) (by omega) (by omega)).mono ?_
      rintro e w4 ⟨rfl, hb4⟩
      have HC4 : Hid (∀ j (h : j < xs.length), w4.cell? ⟨w0.heap.size, j, none⟩ = some (.string xs[j])) := cells_below hb4 hlt3 HC3.out
      have hlt4 : w0.heap.size < w4.heap.size := Nat.lt_of_lt_of_le hlt3 hb4.size
      have hb04 : Below w0.heap.size w0 w4 := hb03.trans (hb4.mono (by omega))
      clear hb4 HC3 hlt3 hb03
      go_wp2_with fail
      go_loopw [6] (fun i wr => ∃ k : Nat, k ≤ xs.length ∧ i = .int .i64 k ∧ Below w0.heap.size w0 wr ∧ w0.heap.size < wr.heap.size ∧ Hid (∀ j (h : j < xs.length), wr.cell? ⟨w0.heap.size, j, none⟩ = some (.string xs[j]))) (fun i _ => xs.length - (intOf i).toNat)
      case atStart => exact ⟨0, Nat.zero_le _, rfl, hb04, hlt4, HC4⟩
      case round =>
        clear HC4 hlt4 hb04
        obtain ⟨k2, hk2, rfl, hbr, hltr, HCR⟩ := hrel
        by_cases hlt2 : k2 < xs.length
        · have hcell := HCR.out k2 hlt2
          generalize hX : xs[k2] = x at hcell
          clear hX
          have hk3 : (0 : Int) ≤ k2 := by omega
          have hk4 : (k2 : Int) < xs.length := by omega
          go_wp2_with fail
          go_region_held3 (fun w' => w'.cell? ⟨w0.heap.size, k2, none⟩ = some (.string x)) (first | assumption | go_keep) ((go_at_call 10; refine (unpop10 _ _).mono ?_; rintro e w6 ⟨rfl, hb6⟩; have hc6 := (hb6.cell (p := ⟨w0.heap.size, k2, none⟩) (by simpa using hltr)).trans (by simpa using hcell)))
          have hbr6 : Below w0.heap.size w0 w6 := hbr.drew.trans (hb6.mono (Nat.le_of_lt hltr))
          have hlt6 : w0.heap.size < w6.heap.size := Nat.lt_of_lt_of_le hltr hb6.size
          have HC6 : Hid (∀ j (h : j < xs.length), w6.cell? ⟨w0.heap.size, j, none⟩ = some (.string xs[j])) := cells_below (w := wr.drew) hb6 hltr HCR.out
          clear hbr hltr HCR hb6 hcell
          go_wp2
          go_roundw
          case rel => exact ⟨k2 + 1, by omega, by go_num, hbr6, hlt6, HC6⟩
          case measure => simp [intOf]; omega
        · go_wp2
          go_ret
          exact ⟨rfl, hbr⟩
set_option maxHeartbeats 1000000 in
theorem unpop4_nil (w : World) :
    Calls Try.prog 4 #[.slice none 0 0] w fun e w' => e = .returned (.bool true) ∧ Below w.heap.size w w' := by
  have q22 : ∀ (w : World) (a : Option Addr) (n c n' c' : Nat), (binOp .neq 22 (.slice a n c) (.slice none n' c')).run Try.prog w = .ok (.bool (!a.isNone)) w := fun w a n c n' c' => run_neq_slice_nil_any w _ _ a n c n' c' Try.underlying22
  go_enter Try.func4, Try.ntmps4
  go_wp2_with fail
  refine (bytes8_nil none 0 w).mono ?_
  rintro e w0 ⟨r, rfl, rfl, hr⟩
  cases r
  · go_wp2
    go_ret
    exact ⟨rfl, Below.refl _ _⟩
  clear hr
  go_wp2
  refine wp_loop_rounds 1 ?_
  rw [rounds_succ]
  go_wp2_with fail
  refine (unpopRun9' none 0 0 [] w0 rfl (strs_nil _) (by simp) (by simp [sz])).mono ?_
  rintro e w3 ⟨rfl, hb3⟩
  go_wp2_with fail
  refine (text7' none 0 0 [] w3 rfl (strs_nil _) (by simp) (by simp [sz])).mono ?_
  rintro e w4 ⟨rfl, hb4⟩
  have hb04 := hb3.trans (hb4.mono hb3.size)
  clear hb3 hb4
  go_wp2_with fail
  refine wp_loop_rounds 1 ?_
  rw [rounds_succ]
  go_wp2
  go_ret
  exact ⟨rfl, hb04⟩
end Go.Proofs.Qxb6613022a
