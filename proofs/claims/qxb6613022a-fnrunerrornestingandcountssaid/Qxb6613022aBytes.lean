/-
  The three 'zzBytes_..' functions (one body each, the same): they hand back a bool that is true only where the lengths add up to at most 2^20; the world stands.
-/
import Derived.Test.Qxb6613022aRows
import Derived.Test.Qxb6613022aPlain
import Derived.WalkKit
import Derived.ProofKit
namespace Go.Proofs.Qxb6613022a
open Go.ChangeShapes Go.WideShapes Go.ChangeAt Go.RowKit
/-- A bool that is true only where the strings' number and lengths add up to at most 2^20; the world as it was. -/
def Bounded (xs : List ByteArray) (w : World) (e : Ending) (w' : World) : Prop := ∃ r : Bool, e = .returned (.bool r) ∧ w' = w ∧ (r = true → xs.length + sz xs ≤ 1048576)
set_option maxHeartbeats 400000 in
theorem bytes6 (b off cap : Nat) (xs : List ByteArray) (m : Int) (w : World) (hx : ∀ j (h : j < xs.length), w.cell? ⟨b, off + j, none⟩ = some (.string xs[j])) (hs : ∀ j (h : j < xs.length), xs[j].size ≤ 9223372036854775807) (hl : xs.length ≤ 9223372036854775807) :
    Calls Try.prog 6 #[.slice (some ⟨b, off, none⟩) xs.length cap, .int .i64 m] w (Bounded xs w) := by
  by_cases hbig : (1048576 : Int) < xs.length
  · go_enter Try.func6, Try.ntmps6
    go_wp2
    go_ret
    exact ⟨false, rfl, rfl, by simp⟩
  have hle : (xs.length : Int) ≤ 1048576 := by omega
  clear hbig
  go_enter Try.func6, Try.ntmps6
  go_wp2
  go_loop [5, 6] (fun n i => ∃ k : Nat, k ≤ xs.length ∧ i = .int .i64 k ∧ n = .int .i64 ((xs.length + sz (xs.take k) : Nat) : Int) ∧ ((xs.length + sz (xs.take k) : Nat) : Int) ≤ 1048576) (fun _ i => xs.length - (intOf i).toNat)
  case atStart => exact ⟨0, Nat.zero_le _, rfl, by simp [sz], by simp [sz]; omega⟩
  case round =>
    obtain ⟨k, hk, rfl, rfl, hsum⟩ := hrel
    by_cases hlt : k < xs.length
    · have hcell := hx k hlt
      have hsz := hs k hlt
      have HS : Hid (sz (xs.take (k + 1)) = sz (xs.take k) + xs[k].size) := sz_take_succ xs k hlt
      generalize hX : xs[k] = x at hcell hsz HS
      clear hX hx hs
      generalize sz (xs.take k) = n0 at hsum HS ⊢
      go_wp2
      · go_ret
        exact ⟨false, rfl, rfl, by simp⟩
      · go_ret
        exact ⟨false, rfl, rfl, by simp⟩
      · go_round
        case rel => exact ⟨k + 1, by omega, by go_num, by rw [HS.out]; go_num, by rw [HS.out]; omega⟩
        case measure => simp [intOf]; omega
    · have he : xs.take k = xs := List.take_of_length_le (by omega)
      rw [he] at hsum
      clear hx hs he
      go_wp2
      go_ret
      exact ⟨true, rfl, rfl, fun _ => by omega⟩
theorem bytes6_nil (ad : Option Addr) (cap : Nat) (m : Int) (w : World) : Calls Try.prog 6 #[.slice ad 0 cap, .int .i64 m] w (Bounded [] w) := by
  go_enter Try.func6, Try.ntmps6
  go_wp2
  refine wp_loop_rounds 1 ?_
  rw [rounds_succ]
  go_wp2
  go_ret
  exact ⟨true, rfl, rfl, fun _ => by simp [sz]⟩
set_option maxHeartbeats 400000 in
theorem bytes8 (b off cap : Nat) (xs : List ByteArray) (w : World) (hx : ∀ j (h : j < xs.length), w.cell? ⟨b, off + j, none⟩ = some (.string xs[j])) (hs : ∀ j (h : j < xs.length), xs[j].size ≤ 9223372036854775807) (hl : xs.length ≤ 9223372036854775807) :
    Calls Try.prog 8 #[.slice (some ⟨b, off, none⟩) xs.length cap] w (Bounded xs w) := by
  by_cases hbig : (1048576 : Int) < xs.length
  · go_enter Try.func8, Try.ntmps8
    go_wp2
    go_ret
    exact ⟨false, rfl, rfl, by simp⟩
  have hle : (xs.length : Int) ≤ 1048576 := by omega
  clear hbig
  go_enter Try.func8, Try.ntmps8
  go_wp2
  go_loop [3, 4] (fun n i => ∃ k : Nat, k ≤ xs.length ∧ i = .int .i64 k ∧ n = .int .i64 ((xs.length + sz (xs.take k) : Nat) : Int) ∧ ((xs.length + sz (xs.take k) : Nat) : Int) ≤ 1048576) (fun _ i => xs.length - (intOf i).toNat)
  case atStart => exact ⟨0, Nat.zero_le _, rfl, by simp [sz], by simp [sz]; omega⟩
  case round =>
    obtain ⟨k, hk, rfl, rfl, hsum⟩ := hrel
    by_cases hlt : k < xs.length
    · have hcell := hx k hlt
      have hsz := hs k hlt
      have HS : Hid (sz (xs.take (k + 1)) = sz (xs.take k) + xs[k].size) := sz_take_succ xs k hlt
      generalize hX : xs[k] = x at hcell hsz HS
      clear hX hx hs
      generalize sz (xs.take k) = n0 at hsum HS ⊢
      go_wp2
      · go_ret
        exact ⟨false, rfl, rfl, by simp⟩
      · go_ret
        exact ⟨false, rfl, rfl, by simp⟩
      · go_round
        case rel => exact ⟨k + 1, by omega, by go_num, by rw [HS.out]; go_num, by rw [HS.out]; omega⟩
        case measure => simp [intOf]; omega
    · have he : xs.take k = xs := List.take_of_length_le (by omega)
      rw [he] at hsum
      clear hx hs he
      go_wp2
      go_ret
      exact ⟨true, rfl, rfl, fun _ => by omega⟩
theorem bytes8_nil (ad : Option Addr) (cap : Nat) (w : World) : Calls Try.prog 8 #[.slice ad 0 cap] w (Bounded [] w) := by
  go_enter Try.func8, Try.ntmps8
  go_wp2
  refine wp_loop_rounds 1 ?_
  rw [rounds_succ]
  go_wp2
  go_ret
  exact ⟨true, rfl, rfl, fun _ => by simp [sz]⟩
set_option maxHeartbeats 400000 in
theorem bytes11 (b off cap : Nat) (xs : List ByteArray) (m : Int) (w : World) (hx : ∀ j (h : j < xs.length), w.cell? ⟨b, off + j, none⟩ = some (.string xs[j])) (hs : ∀ j (h : j < xs.length), xs[j].size ≤ 9223372036854775807) (hl : xs.length ≤ 9223372036854775807) :
    Calls Try.prog 11 #[.slice (some ⟨b, off, none⟩) xs.length cap, .int .i64 m] w (Bounded xs w) := by
  by_cases hbig : (1048576 : Int) < xs.length
  · go_enter Try.func11, Try.ntmps11
    go_wp2
    go_ret
    exact ⟨false, rfl, rfl, by simp⟩
  have hle : (xs.length : Int) ≤ 1048576 := by omega
  clear hbig
  go_enter Try.func11, Try.ntmps11
  go_wp2
  go_loop [5, 6] (fun n i => ∃ k : Nat, k ≤ xs.length ∧ i = .int .i64 k ∧ n = .int .i64 ((xs.length + sz (xs.take k) : Nat) : Int) ∧ ((xs.length + sz (xs.take k) : Nat) : Int) ≤ 1048576) (fun _ i => xs.length - (intOf i).toNat)
  case atStart => exact ⟨0, Nat.zero_le _, rfl, by simp [sz], by simp [sz]; omega⟩
  case round =>
    obtain ⟨k, hk, rfl, rfl, hsum⟩ := hrel
    by_cases hlt : k < xs.length
    · have hcell := hx k hlt
      have hsz := hs k hlt
      have HS : Hid (sz (xs.take (k + 1)) = sz (xs.take k) + xs[k].size) := sz_take_succ xs k hlt
      generalize hX : xs[k] = x at hcell hsz HS
      clear hX hx hs
      generalize sz (xs.take k) = n0 at hsum HS ⊢
      go_wp2
      · go_ret
        exact ⟨false, rfl, rfl, by simp⟩
      · go_ret
        exact ⟨false, rfl, rfl, by simp⟩
      · go_round
        case rel => exact ⟨k + 1, by omega, by go_num, by rw [HS.out]; go_num, by rw [HS.out]; omega⟩
        case measure => simp [intOf]; omega
    · have he : xs.take k = xs := List.take_of_length_le (by omega)
      rw [he] at hsum
      clear hx hs he
      go_wp2
      go_ret
      exact ⟨true, rfl, rfl, fun _ => by omega⟩
theorem bytes11_nil (ad : Option Addr) (cap : Nat) (m : Int) (w : World) : Calls Try.prog 11 #[.slice ad 0 cap, .int .i64 m] w (Bounded [] w) := by
  go_enter Try.func11, Try.ntmps11
  go_wp2
  refine wp_loop_rounds 1 ?_
  rw [rounds_succ]
  go_wp2
  go_ret
  exact ⟨true, rfl, rfl, fun _ => by simp [sz]⟩
end Go.Proofs.Qxb6613022a
