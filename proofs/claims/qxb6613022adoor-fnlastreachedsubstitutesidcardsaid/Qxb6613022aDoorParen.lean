/-
  lawOneParenExpr at a string that is one parenthesised expression.
-/
import Derived.Test.Qxb6613022aDoorItoa
namespace Go.Proofs.Qxb6613022aDoor
open Go.ChangeShapes Go.WideShapes Go.ChangeAt Go.RowKit
theorem paren_inv {c : UInt8} {r : List UInt8} {e : Nat} (h : paren (c :: r) e = true) : ∃ e', next c e = some e' ∧ paren r e' = true ∧ (e' = 0 → r = []) := by
  rw [paren] at h
  split at h
  · exact absurd h (by simp)
  · rename_i e' he
    refine ⟨e', he, ?_⟩
    split at h
    · exact absurd h (by simp)
    · rename_i hc
      refine ⟨h, fun h0 => ?_⟩
      subst h0
      simpa using hc
theorem byte_beq {x : UInt8} {n : Nat} (h : x.toNat = n) : ((x.toNat : Int) == (n : Int)) = true := by rw [h]; simp
theorem byte_bne {x : UInt8} {n : Nat} (h : x.toNat ≠ n) : ((x.toNat : Int) == (n : Int)) = false := beq_eq_false_iff_ne.2 (by omega)
theorem next_open {c : UInt8} {e e' : Nat} (hc : c.toNat = 40) (h : next c e = some e') : e' = e + 1 := by
  obtain rfl : c = 40 := UInt8.toNat_inj.1 hc
  simpa [next] using h.symm
theorem next_close {c : UInt8} {e e' : Nat} (hc : c.toNat = 41) (h : next c e = some e') : e = e' + 1 := by
  obtain rfl : c = 41 := UInt8.toNat_inj.1 hc
  simp only [next] at h
  rw [if_neg (by decide), if_pos (by decide)] at h
  by_cases h0 : e = 0
  · rw [if_pos h0] at h; simp at h
  · rw [if_neg h0] at h
    have := Option.some.inj h
    omega
theorem next_else {c : UInt8} {e e' : Nat} (h1 : c.toNat ≠ 40) (h2 : c.toNat ≠ 41) (h : next c e = some e') : e' = e := by
  have g1 : (c == 40) = false := beq_eq_false_iff_ne.2 (fun e => h1 (by rw [e]; rfl))
  have g2 : (c == 41) = false := beq_eq_false_iff_ne.2 (fun e => h2 (by rw [e]; rfl))
  simp only [next, g1, g2] at h
  exact (Option.some.inj h).symm
theorem drop_cons (s : ByteArray) (k : Nat) (h : k < s.size) : s.data.toList.drop k = s[k] :: s.data.toList.drop (k + 1) := List.drop_eq_getElem_cons (show k < s.data.toList.length from h)
set_option maxHeartbeats 1000000 in
theorem paren10 (s : ByteArray) (w : World) (hs : s.size ≤ 100000) (h0 : 0 < s.size) (h40 : s[0].toNat = 40) (hp : paren s.data.toList 0 = true) :
    Calls Tryd.prog 10 #[.string s] w fun e w' => e = .returned (.bool true) ∧ w' = w := by
  have hz : ((s.size : Int) == 0) = false := beq_eq_false_iff_ne.2 (by omega)
  have hz0 : ((s[0].toNat : Int) != 40) = false := by rw [h40]; rfl
  have HP : Hid (paren s.data.toList 0 = true) := hp
  clear hp h40
  go_enter Tryd.func10, Tryd.ntmps10
  go_wp2
  go_loop [3, 4] (fun d i => ∃ k e : Nat, k ≤ s.size ∧ i = .int .i64 k ∧ d = .int .i64 e ∧ e ≤ k ∧ Hid (paren (s.data.toList.drop k) e = true)) (fun _ i => s.size - (intOf i).toNat)
  case atStart => exact ⟨0, 0, Nat.zero_le _, rfl, rfl, Nat.le_refl _, HP⟩
  case round =>
    clear HP hz0
    obtain ⟨k, e, hk, rfl, rfl, hek, HPk⟩ := hrel
    by_cases hlt : k < s.size
    · have hinv : ∃ e', next s[k] e = some e' ∧ paren (s.data.toList.drop (k + 1)) e' = true ∧ (e' = 0 → s.data.toList.drop (k + 1) = []) := paren_inv (by rw [← drop_cons s k hlt]; exact HPk.out)
      obtain ⟨e', hn, hp', hz'⟩ := hinv
      have hend : e' = 0 → k + 1 = s.size := fun h => by
        have h1 := congrArg List.length (hz' h)
        rw [List.length_drop, size_toList, List.length_nil] at h1
        omega
      have HP' : Hid (paren (s.data.toList.drop (k + 1)) e' = true) := hp'
      clear hp' hz' HPk
      by_cases hc1 : s[k].toNat = 40
      · have he := next_open hc1 hn
        subst he
        have b1 := byte_beq hc1
        have b2 : ((e : Int) + 1 == 0) = false := beq_eq_false_iff_ne.2 (by omega)
        clear hn hend hc1
        go_wp2
        go_round
        case rel => exact ⟨k + 1, e + 1, by omega, by go_num, by go_num, by omega, HP'⟩
        case measure => simp [intOf]; omega
      · have b1 := byte_bne hc1
        by_cases hc2 : s[k].toNat = 41
        · have he := next_close hc2 hn
          subst he
          have b2 := byte_beq hc2
          clear hn hc1 hc2
          by_cases h0' : e' = 0
          · have hke := hend h0'
            subst h0'
            have b3 : ((k : Int) != (s.size : Int) - 1) = false := by
              have : (k : Int) = (s.size : Int) - 1 := by omega
              rw [this]; simp
            clear hend
            go_wp2
            go_round
            case rel => exact ⟨k + 1, 0, by omega, by go_num, by go_num, by omega, HP'⟩
            case measure => simp [intOf]; omega
          · have b3 : ((e' : Int) == 0) = false := beq_eq_false_iff_ne.2 (by omega)
            clear hend
            go_wp2
            go_round
            case rel => exact ⟨k + 1, e', by omega, by go_num, by go_num, by omega, HP'⟩
            case measure => simp [intOf]; omega
        · have he := next_else hc1 hc2 hn
          subst he
          have b2 := byte_bne hc2
          clear hn hc1 hc2
          by_cases h0' : e' = 0
          · have hke := hend h0'
            subst h0'
            have b3 : ((k : Int) != (s.size : Int) - 1) = false := by
              have : (k : Int) = (s.size : Int) - 1 := by omega
              rw [this]; simp
            clear hend
            go_wp2
            go_round
            case rel => exact ⟨k + 1, 0, by omega, by go_num, by go_num, by omega, HP'⟩
            case measure => simp [intOf]; omega
          · have b3 : ((e' : Int) == 0) = false := beq_eq_false_iff_ne.2 (by omega)
            clear hend
            go_wp2
            go_round
            case rel => exact ⟨k + 1, e', by omega, by go_num, by go_num, by omega, HP'⟩
            case measure => simp [intOf]; omega
    · have hd : s.data.toList.drop k = [] := List.drop_eq_nil_of_le (by rw [size_toList]; omega)
      have he : e = 0 := by
        have := HPk.out
        rw [hd] at this
        simpa [paren] using this
      subst he
      clear hd HPk
      go_wp2
      go_ret
      exact ⟨rfl, rfl⟩
end Go.Proofs.Qxb6613022aDoor
