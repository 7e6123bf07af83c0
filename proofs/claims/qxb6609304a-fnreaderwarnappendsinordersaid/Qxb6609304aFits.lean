/-
  zzBytes_.., zzAddStrings, zzWarnFits: each hands back a bool or a number and leaves the world; zzWarnFits says yes only to at most 65536 strings a list.
-/
import Derived.Test.Qxb6609304aWarn
namespace Go.Proofs.Qxb6609304a
open Go.ChangeShapes Go.WideShapes Go.ChangeAt Go.RowKit
/-- Where a slice's strings lie. -/
def Lies (w : World) (ad : Option Addr) (xs : List ByteArray) : Prop :=
  ∀ j (h : j < xs.length), ∃ b off, ad = some ⟨b, off, none⟩ ∧ b < w.heap.size ∧ w.cell? ⟨b, off + j, none⟩ = some (.string xs[j]) ∧ xs[j].size ≤ 9223372036854775807
def SomeBool (w : World) (e : Ending) (w' : World) : Prop := ∃ r : Bool, e = .returned (.bool r) ∧ w' = w
set_option maxHeartbeats 1000000 in
theorem bytes4 (file : ByteArray) (a1 a2 : Option Addr) (c1 c2 : Nat) (xs ys : List ByteArray) (w : World) (hf : file.size ≤ 9223372036854775807) (hx : Lies w a1 xs) (hy : Lies w a2 ys) (hl1 : xs.length ≤ 9223372036854775807) (hl2 : ys.length ≤ 9223372036854775807) :
    Calls Try.prog 4 #[.string file, .slice a1 xs.length c1, .slice a2 ys.length c2] w (SomeBool w) := by
  have HX : Hid (Lies w a1 xs) := hx
  have HY : Hid (Lies w a2 ys) := hy
  clear hx hy
  by_cases q1 : (1048576 : Int) < file.size
  · go_enter Try.func4, Try.ntmps4
    go_wp2
    go_ret
    exact ⟨_, rfl, rfl⟩
  by_cases q2 : (1048576 : Int) < xs.length
  · go_enter Try.func4, Try.ntmps4
    go_wp2
    go_ret
    exact ⟨_, rfl, rfl⟩
  by_cases q3 : (1048576 : Int) < file.size + xs.length
  · go_enter Try.func4, Try.ntmps4
    go_wp2
    go_ret
    exact ⟨_, rfl, rfl⟩
  go_enter Try.func4, Try.ntmps4
  go_wp2
  go_loop [7, 8] (fun n i => ∃ k z : Nat, k ≤ xs.length ∧ i = .int .i64 k ∧ n = .int .i64 z ∧ z ≤ 1048576) (fun _ i => xs.length - (intOf i).toNat)
  case atStart => exact ⟨0, file.size + xs.length, Nat.zero_le _, rfl, by go_num, by omega⟩
  case round =>
    obtain ⟨k, z, hk, rfl, rfl, hz⟩ := hrel
    by_cases hlt : k < xs.length
    · obtain ⟨b, off, had, hb, hc, hs⟩ := HX.out k hlt
      subst had
      generalize xs[k] = x at hc hs
      go_wp2
      · go_ret
        exact ⟨_, rfl, rfl⟩
      · go_ret
        exact ⟨_, rfl, rfl⟩
      · go_round
        case rel => exact ⟨k + 1, z + x.size, by omega, by go_num, by go_num, by omega⟩
        case measure => simp [intOf]; omega
    · by_cases q4 : (1048576 : Int) < ys.length
      · go_wp2
        go_ret
        exact ⟨_, rfl, rfl⟩
      by_cases q5 : (1048576 : Int) < z + ys.length
      · go_wp2
        go_ret
        exact ⟨_, rfl, rfl⟩
      go_wp2
      go_loop [7, 9] (fun n i => ∃ k z : Nat, k ≤ ys.length ∧ i = .int .i64 k ∧ n = .int .i64 z ∧ z ≤ 1048576) (fun _ i => ys.length - (intOf i).toNat)
      case atStart => exact ⟨0, z + ys.length, Nat.zero_le _, rfl, by go_num, by omega⟩
      case round =>
        obtain ⟨k2, z2, hk2, rfl, rfl, hz2⟩ := hrel
        by_cases hlt2 : k2 < ys.length
        · obtain ⟨b, off, had, hb, hc, hs⟩ := HY.out k2 hlt2
          subst had
          generalize ys[k2] = x at hc hs
          go_wp2
          · go_ret
            exact ⟨_, rfl, rfl⟩
          · go_ret
            exact ⟨_, rfl, rfl⟩
          · go_round
            case rel => exact ⟨k2 + 1, z2 + x.size, by omega, by go_num, by go_num, by omega⟩
            case measure => simp [intOf]; omega
        · go_wp2
          go_ret
          exact ⟨_, rfl, rfl⟩
/-- Some number; the world as it was. -/
def SomeInt (w : World) (e : Ending) (w' : World) : Prop := ∃ t : Int, 0 ≤ t ∧ t ≤ 20000000 ∧ e = .returned (.int .i64 t) ∧ w' = w
set_option maxHeartbeats 1000000 in
theorem add10 (t : Int) (a1 : Option Addr) (c1 : Nat) (xs : List ByteArray) (w : World) (ht0 : 0 ≤ t) (ht1 : t ≤ 20000000) (hx : Lies w a1 xs) (hl1 : xs.length ≤ 9223372036854775807) :
    Calls Try.prog 10 #[.int .i64 t, .slice a1 xs.length c1] w (SomeInt w) := by
  have HX : Hid (Lies w a1 xs) := hx
  clear hx
  by_cases q1 : (1048576 : Int) < t
  · go_enter Try.func10, Try.ntmps10
    go_wp2
    go_ret
    exact ⟨_, by omega, by omega, rfl, rfl⟩
  by_cases q2 : (1048576 : Int) < xs.length
  · go_enter Try.func10, Try.ntmps10
    go_wp2
    go_ret
    exact ⟨_, by omega, by omega, rfl, rfl⟩
  go_enter Try.func10, Try.ntmps10
  go_wp2
  go_loop [0, 5] (fun n i => ∃ (k : Nat) (z : Int), k ≤ xs.length ∧ i = .int .i64 k ∧ n = .int .i64 z ∧ 0 ≤ z ∧ z ≤ 20000000) (fun _ i => xs.length - (intOf i).toNat)
  case atStart => exact ⟨0, t + 16 * xs.length, Nat.zero_le _, rfl, rfl, by omega, by omega⟩
  case round =>
    obtain ⟨k, z, hk, rfl, rfl, hz0, hz1⟩ := hrel
    by_cases hlt : k < xs.length
    · obtain ⟨b, off, had, hb, hc, hs⟩ := HX.out k hlt
      subst had
      generalize xs[k] = x at hc hs
      by_cases q3 : (1048576 : Int) < z
      · go_wp2
        go_ret
        exact ⟨_, by omega, by omega, rfl, rfl⟩
      by_cases q4 : (1048576 : Int) < x.size
      · go_wp2
        go_ret
        exact ⟨_, by omega, by omega, rfl, rfl⟩
      go_wp2
      go_round
      case rel => exact ⟨k + 1, z + x.size, by omega, by go_num, rfl, by omega, by omega⟩
      case measure => simp [intOf]; omega
    · go_wp2
      go_ret
      exact ⟨z, hz0, hz1, rfl, rfl⟩
/-- A bool that is true only where each list holds at most 65536. -/
def FitsBool (m n : Nat) (w : World) (e : Ending) (w' : World) : Prop := ∃ r : Bool, e = .returned (.bool r) ∧ w' = w ∧ (r = true → m ≤ 65536 ∧ n ≤ 65536)
set_option maxHeartbeats 1000000 in
theorem fits5 (file : ByteArray) (a1 a2 : Option Addr) (c1 c2 : Nat) (xs ys : List ByteArray) (w : World) (hf : file.size ≤ 9223372036854775807) (hx : Lies w a1 xs) (hy : Lies w a2 ys) (hl1 : xs.length ≤ 9223372036854775807) (hl2 : ys.length ≤ 9223372036854775807) :
    Calls Try.prog 5 #[.string file, .slice a1 xs.length c1, .slice a2 ys.length c2] w (FitsBool xs.length ys.length w) := by
  have HX : Hid (Lies w a1 xs) := hx
  have HY : Hid (Lies w a2 ys) := hy
  clear hx hy
  by_cases q1 : (1048576 : Int) < file.size
  · go_enter Try.func5, Try.ntmps5
    go_wp2
    go_ret
    exact ⟨false, rfl, rfl, by simp⟩
  by_cases q2 : (65536 : Int) < xs.length
  · go_enter Try.func5, Try.ntmps5
    go_wp2
    go_ret
    exact ⟨false, rfl, rfl, by simp⟩
  by_cases q3 : (65536 : Int) < ys.length
  · go_enter Try.func5, Try.ntmps5
    go_wp2
    go_ret
    exact ⟨false, rfl, rfl, by simp⟩
  go_enter Try.func5, Try.ntmps5
  go_wp2_with fail
  refine (add10 file.size a1 c1 xs w (by omega) (by omega) HX.out hl1).mono ?_
  rintro e w1 ⟨t, ht0, ht1, rfl, rfl⟩
  go_wp2_with fail
  refine (add10 t a2 c2 ys w1 ht0 ht1 HY.out hl2).mono ?_
  rintro e w2 ⟨u, hu0, hu1, rfl, rfl⟩
  go_wp2
  go_ret
  exact ⟨_, rfl, rfl, fun _ => by omega⟩
end Go.Proofs.Qxb6609304a
