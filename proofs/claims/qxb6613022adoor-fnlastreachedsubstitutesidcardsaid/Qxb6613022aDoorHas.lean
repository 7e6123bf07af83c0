/-
  lawHasAt and lawCount: 'does p stand in s at place i'; 'how often does p stand in s'.
-/
import Derived.Test.Qxb6613022aDoorRows
import Derived.Test.Qxb6613022aDoorPlain
import Derived.WalkKit
import Derived.ProofKit
import Derived.BigQuiet
import Derived.WalkSmall
namespace Go.Proofs.Qxb6613022aDoor
open Go.ChangeShapes Go.WideShapes Go.ChangeAt Go.RowKit
theorem size_toList (x : ByteArray) : x.data.toList.length = x.size := rfl
/-- The first j bytes of p stand in s from place i on. -/
theorem pre_step (s p : ByteArray) (i j : Nat) (hj : j < p.size) (hs : i + j < s.size) (h : (s.data.toList.drop i).take j = p.data.toList.take j) (e : s[i + j] = p[j]) : (s.data.toList.drop i).take (j + 1) = p.data.toList.take (j + 1) := by
  have hj' : j < p.data.toList.length := hj
  have hs' : i + j < s.data.toList.length := hs
  rw [List.take_succ_eq_append_getElem (l := p.data.toList) hj', List.take_succ_eq_append_getElem (l := s.data.toList.drop i) (by rw [List.length_drop]; omega), h, List.getElem_drop]
  have e1 : s.data.toList[i + j] = s[i + j] := rfl
  have e2 : p.data.toList[j] = p[j] := rfl
  rw [e1, e2, e]
theorem pre_end (s p : List UInt8) (i : Nat) (h : (s.drop i).take p.length = p.take p.length) : p.isPrefixOf (s.drop i) = true := by
  rw [List.take_length] at h
  exact List.isPrefixOf_iff_prefix.2 (h ▸ List.take_prefix _ _)
theorem pre_no (s p : ByteArray) (i j : Nat) (hj : j < p.size) (hs : i + j < s.size) (e : s[i + j] ≠ p[j]) : p.data.toList.isPrefixOf (s.data.toList.drop i) = false := by
  rw [Bool.eq_false_iff]
  intro hp
  have h1 := List.isPrefixOf_iff_prefix.1 hp
  have hj' : j < p.data.toList.length := hj
  have h2 : (s.data.toList.drop i)[j]? = some p.data.toList[j] := by
    obtain ⟨t, ht⟩ := h1
    rw [← ht, List.getElem?_append_left hj', List.getElem?_eq_getElem hj']
  rw [List.getElem?_drop, List.getElem?_eq_getElem (show i + j < s.data.toList.length from hs)] at h2
  exact e (Option.some.inj h2)
theorem byte_ne {x y : UInt8} (h : ((x.toNat : Int) != (y.toNat : Int)) = true) : x ≠ y := fun e => by rw [e] at h; simp at h
theorem byte_eq {x y : UInt8} (h : ((x.toNat : Int) != (y.toNat : Int)) = false) : x = y := by
  have h1 : (x.toNat : Int) = y.toNat := by simpa using h
  exact UInt8.toNat_inj.1 (by omega)
theorem ret_int {k : IntKind} {a b : Int} (h : a = b) : Ending.returned (.int k a) = .returned (.int k b) := by rw [h]
theorem ret_bool {a b : Bool} (h : a = b) : Ending.returned (.bool a) = .returned (.bool b) := by rw [h]
set_option maxHeartbeats 400000 in
theorem hasAt (s p : ByteArray) (i : Nat) (w : World) (hi : i ≤ 1000000) (hs : s.size ≤ 1000000) (hp : p.size ≤ 1000000) (hp0 : p.size ≠ 0) :
    Calls Tryd.prog 13 #[.string s, .int .i64 i, .string p] w fun e w' => e = .returned (.bool (p.data.toList.isPrefixOf (s.data.toList.drop i))) ∧ Below w.heap.size w w' := by
  by_cases hbig : (s.size : Int) < i + p.size
  · go_enter Tryd.func13, Tryd.ntmps13
    go_wp2
    go_ret
    refine ⟨ret_bool ?_, Below.refl _ _⟩
    rw [no_hit _ _ _ (by rw [size_toList, size_toList]; omega) (by intro e; have := congrArg List.length e; rw [size_toList] at this; exact hp0 this)]
  go_enter Tryd.func13, Tryd.ntmps13
  go_wp2
  go_loopw [7] (fun t wr => ∃ j : Nat, j ≤ p.size ∧ t = .int .i64 j ∧ Hid ((s.data.toList.drop i).take j = p.data.toList.take j) ∧ Below w.heap.size w wr) (fun t _ => p.size - (intOf t).toNat)
  case atStart => exact ⟨0, Nat.zero_le _, rfl, rfl, Below.refl _ _⟩
  case round =>
    obtain ⟨j, hj, rfl, HP, hbel⟩ := hrel
    by_cases hlt : j < p.size
    · have hij : i + j < s.size := by omega
      have h1 : (0 : Int) ≤ (i : Int) + j := by omega
      have h2 : (i : Int) + j < s.size := by omega
      have h3 : (0 : Int) ≤ (j : Int) := by omega
      have h4 : (j : Int) < p.size := by omega
      go_wp2
      go_quiet (fail)
      go_wp2
      · go_ret
        refine ⟨ret_bool ?_, below_drewN hbel nq⟩
        rw [pre_no s p i j hlt hij (byte_ne (by assumption))]
      · have heq : s[i + j] = p[j] := byte_eq (by assumption)
        go_roundw
        case rel => exact ⟨j + 1, by omega, by go_num, pre_step s p i j hlt hij HP.out heq, below_drewN hbel nq⟩
        case measure => simp [intOf]; omega
    · go_wp2
      go_ret
      refine ⟨ret_bool ?_, hbel⟩
      rw [pre_end _ _ _ (by rw [size_toList]; obtain rfl : j = p.size := (by omega); exact HP.out)]
set_option maxHeartbeats 400000 in
theorem count8 (s p : ByteArray) (w : World) (hs : s.size ≤ 100000) (hp : p.size ≤ 100000) (hp0 : p.size ≠ 0) :
    Calls Tryd.prog 8 #[.string s, .string p] w fun e w' => e = .returned (.int .i64 (occ p.data.toList s.data.toList)) ∧ Below w.heap.size w w' := by
  have hne : ((p.size : Int) == 0) = false := beq_eq_false_iff_ne.2 (by omega)
  have hpl : p.data.toList ≠ [] := by intro e; have := congrArg List.length e; rw [size_toList] at this; exact hp0 this
  have HP : Hid (p.data.toList ≠ []) := hpl
  clear hpl
  go_enter Tryd.func8, Tryd.ntmps8
  go_wp2
  go_loopw [5, 6] (fun n i wr => ∃ k : Nat, k ≤ s.size ∧ i = .int .i64 k ∧ n = .int .i64 (hits p.data.toList s.data.toList k : Nat) ∧ Below w.heap.size w wr) (fun _ i _ => s.size - (intOf i).toNat)
  case atStart => exact ⟨0, Nat.zero_le _, rfl, rfl, Below.refl _ _⟩
  case round =>
    obtain ⟨k, hk, rfl, rfl, hbel⟩ := hrel
    have hh := hits_le p.data.toList s.data.toList k
    by_cases hlt : (k : Int) + p.size ≤ s.size
    · have HS : Hid (hits p.data.toList s.data.toList (k + 1) = hits p.data.toList s.data.toList k + (if p.data.toList.isPrefixOf (s.data.toList.drop k) then 1 else 0)) := rfl
      generalize hits p.data.toList s.data.toList k = n0 at hh HS ⊢
      go_wp2_with fail
      refine (hasAt s p k wr (by omega) (by omega) (by omega) hp0).mono ?_
      rintro e w1 ⟨rfl, hb1⟩
      have hbel1 := hbel.trans (hb1.mono hbel.size)
      clear hbel hb1
      generalize p.data.toList.isPrefixOf (s.data.toList.drop k) = b at HS ⊢
      cases b
      · go_wp2
        go_roundw
        case rel => exact ⟨k + 1, by omega, by go_num, by rw [HS.out]; rfl, hbel1⟩
        case measure => simp [intOf]; omega
      · go_wp2
        go_roundw
        case rel => exact ⟨k + 1, by omega, by go_num, by rw [HS.out]; go_num, hbel1⟩
        case measure => simp [intOf]; omega
    · go_wp2
      go_ret
      exact ⟨ret_int (by rw [hits_end _ _ HP.out k (by rw [size_toList, size_toList]; omega) (by rw [size_toList]; omega)]), hbel⟩
end Go.Proofs.Qxb6613022aDoor
