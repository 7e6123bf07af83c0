/-
  lawReplaceAll: each occurrence replaced, left to right.
-/
import Derived.Test.Qxb6613022aDoorParen
import Derived.Lib.AppendStr
namespace Go.Proofs.Qxb6613022aDoor
open Go.ChangeShapes Go.WideShapes Go.ChangeAt Go.RowKit
theorem Tryd.info5 : (Tryd.prog.info? 5).map (fun i => (i.zero, i.size, i.bytes)) = some (some (.int .u8 0), 1, 1) := by kernel_rfl
/-- Bytes as cells. -/
def bc (l : List UInt8) : List Value := l.map fun b => Value.int .u8 b.toNat
theorem bc_append (l m : List UInt8) : bc (l ++ m) = bc l ++ bc m := by simp [bc]
theorem ownsRow_below {w w' : World} {base e size n : Nat} {v : Value} {xs : List Value} (h : w.ownsRow base e size v n xs) (hb : Below w.heap.size w w') : w'.ownsRow base e size v n xs := by
  obtain ⟨h1, h2⟩ := h
  refine ⟨h1, ?_⟩
  rcases h2 with h2 | ⟨g, cap, cur, hv, hg, hh, r⟩
  · exact Or.inl h2
  · exact Or.inr ⟨g, cap, cur, hv, hg, (hb.block g (Array.getElem?_eq_some_iff.1 hh).1).trans hh, r⟩
theorem own_form {w : World} {base e n : Nat} {v : Value} {xs : List Value} (h : w.ownsRow base e 1 v n xs) (hn : 0 < n) : ∃ g cap, v = .slice (some ⟨g, 0, none⟩) n cap := by
  rcases h.2 with ⟨_, h0⟩ | ⟨g, cap, cur, hv, _⟩
  · omega
  · exact ⟨g, cap, hv⟩
theorem own_block {w : World} {base e n k : Nat} {v : Value} {xs : List Value} (h : w.ownsRow base e 1 v n xs) (hk : v.ownBlock = some k) : base ≤ k := by
  rcases h.2 with ⟨hv, _⟩ | ⟨g, cap, cur, hv, hg, _⟩
  · rw [hv] at hk; cases hk
  · rw [hv] at hk; cases hk; exact hg
/-- The two steps of the loop, on lists. -/
theorem rep_miss {ol rl acc l : List UInt8} {c : UInt8} {t total : List UInt8} (hl : l = c :: t) (hb : ol.isPrefixOf l = false) (h : acc ++ rep ol rl 0 l = total) : (acc ++ [c]) ++ rep ol rl 0 t = total := by
  subst hl
  rw [rep, hb] at h
  simpa using h
theorem rep_found {ol rl acc l : List UInt8} {total : List UInt8} (h0 : ol ≠ []) (hb : ol.isPrefixOf l = true) (h : acc ++ rep ol rl 0 l = total) : (acc ++ rl) ++ rep ol rl 0 (l.drop ol.length) = total := by
  cases l with
  | nil =>
    have := List.isPrefixOf_iff_prefix.1 hb
    exact absurd (List.prefix_nil.1 this) h0
  | cons c t =>
    rw [rep, if_pos hb, rep_drop] at h
    have hol : ol.length - 1 + 1 = ol.length := by have := List.length_pos_iff.2 h0; omega
    rw [← hol, List.drop_succ_cons, List.append_assoc]
    exact h
set_option maxHeartbeats 1000000 in
theorem replace11 (s old r : ByteArray) (w : World) (hs : s.size ≤ 100000) (ho : old.size ≤ 100000) (ho0 : old.size ≠ 0) (ht : (rep old.data.toList r.data.toList 0 s.data.toList).length ≤ 10000000) (ht0 : 0 < (rep old.data.toList r.data.toList 0 s.data.toList).length) :
    Calls Tryd.prog 11 #[.string s, .string old, .string r] w fun e w' => e = .returned (.string ⟨(rep old.data.toList r.data.toList 0 s.data.toList).toArray⟩) ∧ Below w.heap.size w w' := by
  obtain ⟨i0, hi, hz0, hz1, hz2⟩ := info_parts Tryd.info5
  have hol : old.data.toList ≠ [] := by intro e; have := congrArg List.length e; rw [size_toList] at this; exact ho0 this
  have HOL : Hid (old.data.toList ≠ []) := hol
  obtain ⟨T, hT⟩ : ∃ T, T = rep old.data.toList r.data.toList 0 s.data.toList := ⟨_, rfl⟩
  rw [← hT] at ht ht0 ⊢
  have HT : Hid (T = rep old.data.toList r.data.toList 0 s.data.toList) := hT
  clear hT hol
  go_enter Tryd.func11, Tryd.ntmps11
  go_wp2_with (at_make; refine wpList_make_own _ rfl (.const (.int .i64 0)) (.tmp 10) 34 rfl w.heap.size 5 i0 (.int .u8 0) 1 Tryd.underlying34 hi hz0 hz1 .i64 .i64 s.size s.size rfl rfl rfl (by rw [hz2]; omega) (by unfold maxLen; omega) (Nat.le_refl _) ?_; intro w1 hown1 hgrow1)
  have hb1 : Below w.heap.size w w1 := (Below.refl _ _).grown hgrow1 (Nat.le_refl _) (fun k hk => by cases hk)
  clear hgrow1
  go_loopw [7, 8] (fun v i wr => ∃ (k : Nat) (acc : List UInt8), k ≤ s.size ∧ i = .int .i64 k ∧ wr.ownsRow w.heap.size 5 1 v acc.length (bc acc) ∧ Hid (acc ++ rep old.data.toList r.data.toList 0 (s.data.toList.drop k) = T) ∧ Below w.heap.size w wr) (fun _ i _ => s.size - (intOf i).toNat)
  case atStart => exact ⟨0, [], Nat.zero_le _, rfl, hown1, HT.out.symm, hb1⟩
  case round =>
    clear hb1 hown1
    obtain ⟨k, acc, hk, rfl, hown, HA, hbel⟩ := hrel
    have hlen := congrArg List.length HA.out
    rw [List.length_append] at hlen
    by_cases hlt : k < s.size
    · go_wp2_with fail
      refine (hasAt s old k wr (by omega) (by omega) (by omega) ho0).mono ?_
      rintro e w2 ⟨rfl, hb2⟩
      have hown2 := ownsRow_below hown hb2
      have hbel2 := hbel.trans (hb2.mono hbel.size)
      have hsz2 := hbel2.size
      clear hown hbel hb2
      cases hB : old.data.toList.isPrefixOf (s.data.toList.drop k) with
      | false =>
        have HM : Hid ((acc ++ [s[k]]) ++ rep old.data.toList r.data.toList 0 (s.data.toList.drop (k + 1)) = T) := rep_miss (drop_cons s k hlt) hB HA.out
        have hl2 := congrArg List.length HM.out
        rw [List.length_append, List.length_append, List.length_singleton] at hl2
        clear HA hB hlen
        go_wp2_with (at_builtin; refine wpList_append_own _ rfl (.tmp 27) (.tmp 31) 34 rfl w.heap.size 5 i0 (.int .u8 0) 1 1 Tryd.underlying34 hi hz0 hz1 hz2 rfl (by decide) _ _ _ rfl (hown2.alloc _) ⟨w2.heap.size, 0, none⟩ 1 1 [.int .u8 s[k].toNat] rfl rfl ?c1 ?c2 ?c3 ?c4 ?c5 ?_)
        case c1 =>
          intro j u hj
          match j, hj with
          | 0, hj => simp at hj; subst hj; simp [Addr.add]
        case c2 => intro u hu; simp at hu; subst hu; rfl
        case c3 => unfold maxLen; omega
        case c4 => omega
        case c5 => simp; omega
        intro v' w3 hown3 hgrow3 _
        have hb3 : Below w.heap.size w w3 := (hbel2.alloc hsz2 _).grown hgrow3 (by simp; omega) (fun b hb => own_block hown2 hb)
        have hown3' : w3.ownsRow w.heap.size 5 1 v' (acc ++ [s[k]]).length (bc (acc ++ [s[k]])) := by
          rw [List.length_append, List.length_singleton, bc_append]; exact hown3
        clear hown2 hbel2 hgrow3 hown3
        go_wp2
        go_roundw
        case rel => exact ⟨k + 1, acc ++ [s[k]], by omega, by go_num, hown3', HM, hb3⟩
        case measure => simp [intOf]; omega
      | true =>
        have HM : Hid ((acc ++ r.data.toList) ++ rep old.data.toList r.data.toList 0 ((s.data.toList.drop k).drop old.data.toList.length) = T) := rep_found HOL.out hB HA.out
        have hl2 := congrArg List.length HM.out
        rw [List.length_append, List.length_append, size_toList] at hl2
        have hk2 : k + old.size ≤ s.size := by
          have h1 := (List.isPrefixOf_iff_prefix.1 hB).length_le
          rw [List.length_drop, size_toList, size_toList] at h1
          omega
        clear HA hB hlen
        go_wp2_with (at_builtin; refine Lib.wpList_append_own_string _ rfl (.tmp 20) (.tmp 21) 34 9 rfl w.heap.size 5 i0 Tryd.underlying34 Tryd.underlying9 hi hz0 hz1 hz2 _ _ _ rfl hown2 r rfl (by unfold maxLen; omega) (by omega) hsz2 ?_; intro v' w3 hown3 hgrow3 hnil3)
        have hb3 : Below w.heap.size w w3 := hbel2.grown hgrow3 hsz2 (fun b hb => own_block hown2 hb)
        have hown3' : w3.ownsRow w.heap.size 5 1 v' (acc ++ r.data.toList).length (bc (acc ++ r.data.toList)) := by
          rw [List.length_append, size_toList, bc_append]; exact hown3
        rw [List.drop_drop, size_toList] at HM
        clear hown2 hbel2 hgrow3 hown3 hnil3
        go_wp2
        go_roundw
        case rel => exact ⟨k + old.size, acc ++ r.data.toList, by omega, by go_num, hown3', HM, hb3⟩
        case measure => simp [intOf]; omega
    · have hd : s.data.toList.drop k = [] := List.drop_eq_nil_of_le (by rw [size_toList]; omega)
      have hacc : acc = T := by
        have := HA.out
        rw [hd, rep, List.append_nil] at this
        exact this
      subst hacc
      obtain ⟨g, c, hv⟩ := own_form hown ht0
      subst hv
      have hconv : (convert 34 9 (.slice (some ⟨g, 0, none⟩) acc.length c)).run Tryd.prog wr = .ok (.string ⟨acc.toArray⟩) wr :=
        run_convert_bytes_back wr 34 9 5 ⟨g, 0, none⟩ c acc Tryd.underlying34 Tryd.underlying5 Tryd.underlying9 (fun j hj => by
          rw [add_none, Nat.zero_add]
          rw [hown.cellAt j (by omega)]
          simp [bc, hj])
      clear HA hd hown
      go_wp2
      go_ret
      exact ⟨rfl, hbel⟩
end Go.Proofs.Qxb6613022aDoor
