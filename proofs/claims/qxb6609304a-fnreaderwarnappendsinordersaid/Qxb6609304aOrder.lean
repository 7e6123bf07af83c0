/-
  FnReaderWarnAppendsInOrder, walked: it returns true, whatever the file, the places and the reasons.
-/
import Derived.Test.Qxb6609304aFits
import Derived.Deep.RegionHeld3
import Derived.BigQuiet
import Derived.WalkSmall
namespace Go.Proofs.Qxb6609304a
open Go.ChangeShapes Go.WideShapes Go.ChangeAt Go.RowKit
/-- The cells of the first k warnings. -/
def probs (file : ByteArray) (xs ys : List ByteArray) : Nat → List Value
  | 0 => []
  | k + 1 => probs file xs ys k ++ prob file (xs.getD k ByteArray.empty) (ys.getD k ByteArray.empty)
theorem probs_length (file : ByteArray) (xs ys : List ByteArray) : ∀ k, (probs file xs ys k).length = k * 4
  | 0 => rfl
  | k + 1 => by rw [probs, List.length_append, probs_length file xs ys k]; simp [prob]; omega
theorem probs_at (file : ByteArray) (xs ys : List ByteArray) (k j : Nat) (hj : j < 4) : ∀ n, k < n → (probs file xs ys n)[k * 4 + j]? = (prob file (xs.getD k ByteArray.empty) (ys.getD k ByteArray.empty))[j]?
  | 0, h => absurd h (Nat.not_lt_zero _)
  | n + 1, h => by
    have hl := probs_length file xs ys n
    rw [probs]
    by_cases hk : k = n
    · subst hk
      rw [List.getElem?_append_right (by omega), hl]
      congr 1; omega
    · rw [List.getElem?_append_left (by omega)]
      exact probs_at file xs ys k j hj n (by omega)
theorem getD_eq (xs : List ByteArray) (k : Nat) (h : k < xs.length) : xs.getD k ByteArray.empty = xs[k] := by
  rw [List.getD_eq_getElem?_getD, List.getElem?_eq_getElem h]; rfl
theorem Rdr.drew {w : World} {R : Nat} {file : ByteArray} {oa : Option Addr} {n oc : Nat} {xs : List Value} (h : Rdr w R file oa n oc xs) : Rdr w.drew R file oa n oc xs :=
  ⟨h.lt, h.file, h.probs, h.warns, h.free, h.own.drew⟩
theorem Rdr.drewN {w : World} {R : Nat} {file : ByteArray} {oa : Option Addr} {n oc : Nat} {xs : List Value} (h : Rdr w R file oa n oc xs) : ∀ q, Rdr (w.drewN q) R file oa n oc xs := by
  intro q
  refine ⟨h.lt, h.file, h.probs, h.warns, h.free, ?_⟩
  exact h.own
theorem Lies.below {w w' : World} {B : Nat} {ad : Option Addr} {xs : List ByteArray} (h : Lies w ad xs) (hB : w.heap.size ≤ B) (hb : Below B w w') : Lies w' ad xs := by
  intro j hj
  obtain ⟨b, off, h1, h2, h3, h4⟩ := h j hj
  exact ⟨b, off, h1, Nat.lt_of_lt_of_le h2 hb.size, (hb.cell (p := ⟨b, off + j, none⟩) (by exact Nat.lt_of_lt_of_le h2 hB)).trans h3, h4⟩
theorem own_some {w : World} {R n oc : Nat} {oa : Option Addr} {xs : List Value} (h : w.ownsRow (R + 1) 30 4 (.slice oa n oc) n xs) (hn : 0 < n) : ∃ g, oa = some ⟨g, 0, none⟩ := by
  rcases h.2 with ⟨_, h0⟩ | ⟨g, cap, cur, hv, _⟩
  · omega
  · exact ⟨g, (Value.slice.inj hv).1⟩
set_option maxHeartbeats 2000000 in
theorem order3_l (file : ByteArray) (a1 a2 : Option Addr) (c1 c2 : Nat) (xs ys : List ByteArray) (w : World) (hf : file.size ≤ 9223372036854775807) (hx : Lies w a1 xs) (hy : Lies w a2 ys) (hl1 : xs.length ≤ 9223372036854775807) (hl2 : ys.length ≤ 9223372036854775807) (hmn : (ys.length : Int) < xs.length) :
    Calls Try.prog 3 #[.string file, .slice a1 xs.length c1, .slice a2 ys.length c2] w fun e w' => e = .returned (.bool true) ∧ Below w.heap.size w w' := by
  have HX : Hid (Lies w a1 xs) := hx
  have HY : Hid (Lies w a2 ys) := hy
  clear hx hy
  go_enter Try.func3, Try.ntmps3
  go_wp2_with fail
  refine (bytes4 file a1 a2 c1 c2 xs ys w hf HX.out HY.out hl1 hl2).mono ?_
  rintro e w0 ⟨r, rfl, rfl⟩
  cases r
  · go_wp2
    go_ret
    exact ⟨rfl, Below.refl _ _⟩
  go_wp2_with fail
  refine (fits5 file a1 a2 c1 c2 xs ys w0 hf HX.out HY.out hl1 hl2).mono ?_
  rintro e w0 ⟨r, rfl, rfl, hr⟩
  cases r
  · go_wp2
    go_ret
    exact ⟨rfl, Below.refl _ _⟩
  obtain ⟨hm1, hm2⟩ := hr rfl
  clear hr
  go_wp2_with fail
  refine (new6 file w0).mono ?_
  rintro e w1 ⟨rfl, hrd, hb1⟩
  go_wp2_with fail
  go_loopw [9] (fun i wr => ∃ (k : Nat) (oa : Option Addr) (oc : Nat), k ≤ ys.length ∧ i = .int .i64 k ∧ Hid (Rdr wr w0.heap.size file oa k oc (probs file xs ys k)) ∧ Below w0.heap.size w0 wr) (fun i _ => ys.length - (intOf i).toNat)
  case atStart => exact ⟨0, none, 0, Nat.zero_le _, rfl, hrd, hb1⟩
  case round =>
    clear hrd hb1
    obtain ⟨k, oa, oc, hk, rfl, HR, hbel⟩ := hrel
    by_cases hlt : k < ys.length
    · obtain ⟨b1, o1, e1, hb1, hc1, _⟩ := HX.out k (by omega)
      obtain ⟨b2, o2, e2, hb2, hc2, _⟩ := HY.out k hlt
      subst e1 e2
      have hcx : wr.cell? ⟨b1, o1 + k, none⟩ = some (.string (xs.getD k ByteArray.empty)) := by rw [getD_eq xs k (by omega)]; exact (hbel.cell (p := ⟨b1, o1 + k, none⟩) hb1).trans hc1
      have hcy : wr.cell? ⟨b2, o2 + k, none⟩ = some (.string (ys.getD k ByteArray.empty)) := by rw [getD_eq ys k hlt]; exact (hbel.cell (p := ⟨b2, o2 + k, none⟩) hb2).trans hc2
      have HW := warn7 w0.heap.size file (xs.getD k ByteArray.empty) (ys.getD k ByteArray.empty) oa k oc (probs file xs ys k) wr.drew HR.out.drew (by omega)
      have hp : Hid (probs file xs ys (k + 1) = probs file xs ys k ++ prob file (xs.getD k ByteArray.empty) (ys.getD k ByteArray.empty)) := rfl
      clear hc1 hc2
      generalize xs.getD k ByteArray.empty = x at hcx HW hp
      generalize ys.getD k ByteArray.empty = y at hcy HW hp
      have i1 : (0 : Int) ≤ k := by omega
      have i2 : (k : Int) < xs.length := by omega
      have i3 : (k : Int) < ys.length := by omega
      have HWH : Hid (Calls Try.prog 7 #[.pointer (some ⟨w0.heap.size, 0, none⟩), .string x, .string y] wr.drew fun e w' => e = .returned (.tuple #[]) ∧ ∃ oa' oc', Rdr w' w0.heap.size file oa' (k + 1) oc' (probs file xs ys k ++ prob file x y) ∧ Below w0.heap.size wr.drew w') := HW
      clear HW HR
      go_wp2_with fail
      go_region_held3 (fun w' => w'.cell? ⟨b1, o1 + k, none⟩ = some (.string x) ∧ w'.cell? ⟨b2, o2 + k, none⟩ = some (.string y)) (first | go_keep | exact ⟨hc6x, hc6y⟩) ((go_at_call 7; refine HWH.out.mono ?_; rintro e w6 ⟨rfl, oa6, oc6, hr6, hb6⟩; have hc6x : w6.cell? ⟨b1, o1 + k, none⟩ = some (.string x) := (hb6.cell (p := ⟨b1, o1 + k, none⟩) hb1).trans hcx; have hc6y : w6.cell? ⟨b2, o2 + k, none⟩ = some (.string y) := (hb6.cell (p := ⟨b2, o2 + k, none⟩) hb2).trans hcy))
      have HR6 : Hid (Rdr w6 w0.heap.size file oa6 (k + 1) oc6 (probs file xs ys (k + 1))) := by show Rdr _ _ _ _ _ _ _; rw [hp.out]; exact hr6
      have hbel6 : Below w0.heap.size w0 w6 := hbel.drew.trans hb6
      clear hr6 hb6 hbel hcx hcy hc6x hc6y HWH hp
      go_wp2_with fail
      refine (warnings8 w0.heap.size file oa6 (k + 1) oc6 _ w6 HR6.out).mono ?_
      rintro e w7 ⟨rfl, rfl⟩
      go_wp2
      go_roundw
      case rel => exact ⟨k + 1, oa6, oc6, by omega, by go_num, HR6, hbel6⟩
      case measure => simp [intOf]; omega
    · obtain rfl : k = ys.length := by omega
      go_wp2_with fail
      refine (warnings8 w0.heap.size file oa ys.length oc _ wr HR.out).mono ?_
      rintro e w7 ⟨rfl, rfl⟩
      go_wp2_with fail
      go_loopw [11] (fun i wr => ∃ (k q : Nat), k ≤ ys.length ∧ i = .int .i64 k ∧ wr = w7.drewN q) (fun i _ => ys.length - (intOf i).toNat)
      case atStart => exact ⟨0, 0, Nat.zero_le _, rfl, rfl⟩
      case round =>
        obtain ⟨k, q, hk2, rfl, rfl⟩ := hrel
        by_cases hlt2 : k < ys.length
        · obtain ⟨b1, o1, e1, hb1, hc1, _⟩ := HX.out k (by omega)
          obtain ⟨b2, o2, e2, hb2, hc2, _⟩ := HY.out k hlt2
          obtain ⟨g, e3⟩ := own_some HR.out.own (by omega)
          subst e1 e2 e3
          have hcx : w7.cell? ⟨b1, o1 + k, none⟩ = some (.string (xs.getD k ByteArray.empty)) := by rw [getD_eq xs k (by omega)]; exact (hbel.cell (p := ⟨b1, o1 + k, none⟩) hb1).trans hc1
          have hcy : w7.cell? ⟨b2, o2 + k, none⟩ = some (.string (ys.getD k ByteArray.empty)) := by rw [getD_eq ys k hlt2]; exact (hbel.cell (p := ⟨b2, o2 + k, none⟩) hb2).trans hc2
          have hcell : ∀ j, j < 4 → w7.cell? ⟨g, k * 4 + j, none⟩ = (prob file (xs.getD k ByteArray.empty) (ys.getD k ByteArray.empty))[j]? := fun j hj => by
            rw [HR.out.own.cellAt (k * 4 + j) (by omega)]
            exact probs_at file xs ys k j hj ys.length hlt2
          have p0 := hcell 0 (by omega)
          have p1 := hcell 1 (by omega)
          have p2 := hcell 2 (by omega)
          have p3 := hcell 3 (by omega)
          clear hc1 hc2 hcell
          generalize xs.getD k ByteArray.empty = x at hcx p0 p1 p2 p3
          generalize ys.getD k ByteArray.empty = y at hcy p0 p1 p2 p3
          simp only [prob, Nat.add_zero, List.getElem?_cons_zero, List.getElem?_cons_succ] at p0 p1 p2 p3
          have i1 : (0 : Int) ≤ k := by omega
          have i2 : (k : Int) < xs.length := by omega
          have i3 : (k : Int) < ys.length := by omega
          go_wp2
          go_quiet (fail)
          go_wp2
          go_roundw
          case rel => exact ⟨k + 1, q + nq, by omega, by go_num, rfl⟩
          case measure => simp [intOf]; omega
        · go_wp2_with fail
          refine (problems9 w0.heap.size file oa ys.length oc _ _ (HR.out.drewN q)).mono ?_
          rintro e w8 ⟨rfl, rfl⟩
          go_wp2
          go_ret
          exact ⟨rfl, below_drewN hbel q⟩
set_option maxHeartbeats 2000000 in
theorem order3_r (file : ByteArray) (a1 a2 : Option Addr) (c1 c2 : Nat) (xs ys : List ByteArray) (w : World) (hf : file.size ≤ 9223372036854775807) (hx : Lies w a1 xs) (hy : Lies w a2 ys) (hl1 : xs.length ≤ 9223372036854775807) (hl2 : ys.length ≤ 9223372036854775807) (hmn : (xs.length : Int) ≤ ys.length) :
    Calls Try.prog 3 #[.string file, .slice a1 xs.length c1, .slice a2 ys.length c2] w fun e w' => e = .returned (.bool true) ∧ Below w.heap.size w w' := by
  have HX : Hid (Lies w a1 xs) := hx
  have HY : Hid (Lies w a2 ys) := hy
  clear hx hy
  go_enter Try.func3, Try.ntmps3
  go_wp2_with fail
  refine (bytes4 file a1 a2 c1 c2 xs ys w hf HX.out HY.out hl1 hl2).mono ?_
  rintro e w0 ⟨r, rfl, rfl⟩
  cases r
  · go_wp2
    go_ret
    exact ⟨rfl, Below.refl _ _⟩
  go_wp2_with fail
  refine (fits5 file a1 a2 c1 c2 xs ys w0 hf HX.out HY.out hl1 hl2).mono ?_
  rintro e w0 ⟨r, rfl, rfl, hr⟩
  cases r
  · go_wp2
    go_ret
    exact ⟨rfl, Below.refl _ _⟩
  obtain ⟨hm1, hm2⟩ := hr rfl
  clear hr
  go_wp2_with fail
  refine (new6 file w0).mono ?_
  rintro e w1 ⟨rfl, hrd, hb1⟩
  go_wp2_with fail
  go_loopw [9] (fun i wr => ∃ (k : Nat) (oa : Option Addr) (oc : Nat), k ≤ xs.length ∧ i = .int .i64 k ∧ Hid (Rdr wr w0.heap.size file oa k oc (probs file xs ys k)) ∧ Below w0.heap.size w0 wr) (fun i _ => xs.length - (intOf i).toNat)
  case atStart => exact ⟨0, none, 0, Nat.zero_le _, rfl, hrd, hb1⟩
  case round =>
    clear hrd hb1
    obtain ⟨k, oa, oc, hk, rfl, HR, hbel⟩ := hrel
    by_cases hlt : k < xs.length
    · obtain ⟨b1, o1, e1, hb1, hc1, _⟩ := HX.out k (by omega)
      obtain ⟨b2, o2, e2, hb2, hc2, _⟩ := HY.out k (by omega)
      subst e1 e2
      have hcx : wr.cell? ⟨b1, o1 + k, none⟩ = some (.string (xs.getD k ByteArray.empty)) := by rw [getD_eq xs k (by omega)]; exact (hbel.cell (p := ⟨b1, o1 + k, none⟩) hb1).trans hc1
      have hcy : wr.cell? ⟨b2, o2 + k, none⟩ = some (.string (ys.getD k ByteArray.empty)) := by rw [getD_eq ys k (by omega)]; exact (hbel.cell (p := ⟨b2, o2 + k, none⟩) hb2).trans hc2
      have HW := warn7 w0.heap.size file (xs.getD k ByteArray.empty) (ys.getD k ByteArray.empty) oa k oc (probs file xs ys k) wr.drew HR.out.drew (by omega)
      have hp : Hid (probs file xs ys (k + 1) = probs file xs ys k ++ prob file (xs.getD k ByteArray.empty) (ys.getD k ByteArray.empty)) := rfl
      clear hc1 hc2
      generalize xs.getD k ByteArray.empty = x at hcx HW hp
      generalize ys.getD k ByteArray.empty = y at hcy HW hp
      have i1 : (0 : Int) ≤ k := by omega
      have i2 : (k : Int) < ys.length := by omega
      have i3 : (k : Int) < xs.length := by omega
      have HWH : Hid (Calls Try.prog 7 #[.pointer (some ⟨w0.heap.size, 0, none⟩), .string x, .string y] wr.drew fun e w' => e = .returned (.tuple #[]) ∧ ∃ oa' oc', Rdr w' w0.heap.size file oa' (k + 1) oc' (probs file xs ys k ++ prob file x y) ∧ Below w0.heap.size wr.drew w') := HW
      clear HW HR
      go_wp2_with fail
      go_region_held3 (fun w' => w'.cell? ⟨b1, o1 + k, none⟩ = some (.string x) ∧ w'.cell? ⟨b2, o2 + k, none⟩ = some (.string y)) (first | go_keep | exact ⟨hc6x, hc6y⟩) ((go_at_call 7; refine HWH.out.mono ?_; rintro e w6 ⟨rfl, oa6, oc6, hr6, hb6⟩; have hc6x : w6.cell? ⟨b1, o1 + k, none⟩ = some (.string x) := (hb6.cell (p := ⟨b1, o1 + k, none⟩) hb1).trans hcx; have hc6y : w6.cell? ⟨b2, o2 + k, none⟩ = some (.string y) := (hb6.cell (p := ⟨b2, o2 + k, none⟩) hb2).trans hcy))
      have HR6 : Hid (Rdr w6 w0.heap.size file oa6 (k + 1) oc6 (probs file xs ys (k + 1))) := by show Rdr _ _ _ _ _ _ _; rw [hp.out]; exact hr6
      have hbel6 : Below w0.heap.size w0 w6 := hbel.drew.trans hb6
      clear hr6 hb6 hbel hcx hcy hc6x hc6y HWH hp
      go_wp2_with fail
      refine (warnings8 w0.heap.size file oa6 (k + 1) oc6 _ w6 HR6.out).mono ?_
      rintro e w7 ⟨rfl, rfl⟩
      go_wp2
      go_roundw
      case rel => exact ⟨k + 1, oa6, oc6, by omega, by go_num, HR6, hbel6⟩
      case measure => simp [intOf]; omega
    · obtain rfl : k = xs.length := by omega
      go_wp2_with fail
      refine (warnings8 w0.heap.size file oa xs.length oc _ wr HR.out).mono ?_
      rintro e w7 ⟨rfl, rfl⟩
      go_wp2_with fail
      go_loopw [11] (fun i wr => ∃ (k q : Nat), k ≤ xs.length ∧ i = .int .i64 k ∧ wr = w7.drewN q) (fun i _ => xs.length - (intOf i).toNat)
      case atStart => exact ⟨0, 0, Nat.zero_le _, rfl, rfl⟩
      case round =>
        obtain ⟨k, q, hk2, rfl, rfl⟩ := hrel
        by_cases hlt2 : k < xs.length
        · obtain ⟨b1, o1, e1, hb1, hc1, _⟩ := HX.out k (by omega)
          obtain ⟨b2, o2, e2, hb2, hc2, _⟩ := HY.out k (by omega)
          obtain ⟨g, e3⟩ := own_some HR.out.own (by omega)
          subst e1 e2 e3
          have hcx : w7.cell? ⟨b1, o1 + k, none⟩ = some (.string (xs.getD k ByteArray.empty)) := by rw [getD_eq xs k (by omega)]; exact (hbel.cell (p := ⟨b1, o1 + k, none⟩) hb1).trans hc1
          have hcy : w7.cell? ⟨b2, o2 + k, none⟩ = some (.string (ys.getD k ByteArray.empty)) := by rw [getD_eq ys k (by omega)]; exact (hbel.cell (p := ⟨b2, o2 + k, none⟩) hb2).trans hc2
          have hcell : ∀ j, j < 4 → w7.cell? ⟨g, k * 4 + j, none⟩ = (prob file (xs.getD k ByteArray.empty) (ys.getD k ByteArray.empty))[j]? := fun j hj => by
            rw [HR.out.own.cellAt (k * 4 + j) (by omega)]
            exact probs_at file xs ys k j hj xs.length hlt2
          have p0 := hcell 0 (by omega)
          have p1 := hcell 1 (by omega)
          have p2 := hcell 2 (by omega)
          have p3 := hcell 3 (by omega)
          clear hc1 hc2 hcell
          generalize xs.getD k ByteArray.empty = x at hcx p0 p1 p2 p3
          generalize ys.getD k ByteArray.empty = y at hcy p0 p1 p2 p3
          simp only [prob, Nat.add_zero, List.getElem?_cons_zero, List.getElem?_cons_succ] at p0 p1 p2 p3
          have i1 : (0 : Int) ≤ k := by omega
          have i2 : (k : Int) < ys.length := by omega
          have i3 : (k : Int) < xs.length := by omega
          go_wp2
          go_quiet (fail)
          go_wp2
          go_roundw
          case rel => exact ⟨k + 1, q + nq, by omega, by go_num, rfl⟩
          case measure => simp [intOf]; omega
        · go_wp2_with fail
          refine (problems9 w0.heap.size file oa xs.length oc _ _ (HR.out.drewN q)).mono ?_
          rintro e w8 ⟨rfl, rfl⟩
          go_wp2
          go_ret
          exact ⟨rfl, below_drewN hbel q⟩
/-- FnReaderWarnAppendsInOrder. -/
theorem order3 (file : ByteArray) (a1 a2 : Option Addr) (c1 c2 : Nat) (xs ys : List ByteArray) (w : World) (hf : file.size ≤ 9223372036854775807) (hx : Lies w a1 xs) (hy : Lies w a2 ys) (hl1 : xs.length ≤ 9223372036854775807) (hl2 : ys.length ≤ 9223372036854775807) :
    Calls Try.prog 3 #[.string file, .slice a1 xs.length c1, .slice a2 ys.length c2] w fun e w' => e = .returned (.bool true) ∧ Below w.heap.size w w' := by
  by_cases hmn : (ys.length : Int) < xs.length
  · exact order3_l file a1 a2 c1 c2 xs ys w hf hx hy hl1 hl2 hmn
  · exact order3_r file a1 a2 c1 c2 xs ys w hf hx hy hl1 hl2 (by omega)
end Go.Proofs.Qxb6609304a
