/-
  The reader: ZZnewReader, (*reader).warn, ZZreaderWarn, ZZreaderWarnings, ZZreaderProblems.
-/
import Derived.Test.Qxb6609304aRows
import Derived.WalkKit
import Derived.ProofKit
import Derived.WalkSpells
import Derived.Deep.RegionLaw
import Derived.Deep.AppendLies
namespace Go.Proofs.Qxb6609304a
open Go.ChangeShapes Go.WideShapes Go.ChangeAt Go.RowKit
theorem Try.info30 : (Try.prog.info? 30).map (fun i => (i.zero, i.size, i.bytes)) = some (some (.agg #[.string ⟨#[]⟩, .string ⟨#[]⟩, .string ⟨#[]⟩, .string ⟨#[]⟩]), 4, 64) := by kernel_rfl
/-- A Problem's cells. -/
def prob (file at_ rs : ByteArray) : List Value := [.string file, .string at_, .string ⟨#[]⟩, .string rs]
/-- The reader in block R: its file, no problem, and n warnings with the cells xs. -/
structure Rdr (w : World) (R : Nat) (file : ByteArray) (oa : Option Addr) (n oc : Nat) (xs : List Value) : Prop where
  lt : R < w.heap.size
  file : w.cell? ⟨R, 2, none⟩ = some (.string file)
  probs : w.cell? ⟨R, 3, none⟩ = some (.slice none 0 0)
  warns : w.cell? ⟨R, 4, none⟩ = some (.slice oa n oc)
  free : w.frozen? ⟨R, 4, none⟩ = false
  own : w.ownsRow (R + 1) 30 4 (.slice oa n oc) n xs
theorem own_ne {w : World} {R n : Nat} {v : Value} {xs : List Value} (h : w.ownsRow (R + 1) 30 4 v n xs) : v.ownBlock ≠ some R := by
  intro hk
  rcases h.2 with ⟨hv, _⟩ | ⟨g, cap, cur, hv, hg, _⟩
  · rw [hv] at hk; cases hk
  · rw [hv] at hk
    have hk' : g = R := Option.some.inj hk
    omega
theorem off_ne {b k j : Nat} (h : k ≠ j) : (⟨b, k, none⟩ : Addr) ≠ ⟨b, j, none⟩ := fun e => h (Addr.mk.inj e).2.1
/-- Behind the append and the store. -/
theorem warn_end {R n oc gg cap : Nat} {file at_ rs : ByteArray} {oa : Option Addr} {xs : List Value} {w w1 : World} (h : Rdr w R file oa n oc xs)
    (hown1 : w1.ownsRow (R + 1) 30 4 (.slice (some ⟨gg, 0, none⟩) (n + 1) cap) (n + 1) (xs ++ [.string file, .string at_, .string ⟨#[]⟩, .string rs]))
    (hgrow : (w.alloc (.cells #[.string file, .string at_, .string ⟨#[]⟩, .string rs] 30)).drew.grownBy w1 (Value.slice oa n oc).ownBlock) :
    ∃ oa' oc', Rdr (w1.setCell ⟨R, 4, none⟩ (.slice (some ⟨gg, 0, none⟩) (n + 1) cap)) R file oa' (n + 1) oc' (xs ++ prob file at_ rs) ∧ Below R w (w1.setCell ⟨R, 4, none⟩ (.slice (some ⟨gg, 0, none⟩) (n + 1) cap)) := by
  obtain ⟨hlt, hF, hP, hV, hfree, hown⟩ := h
  have ag := own_ne hown
  have hsz : w.heap.size + 1 ≤ w1.heap.size := by have := hgrow.size; simp at this; omega
  have hcell : ∀ j, w1.cell? ⟨R, j, none⟩ = w.cell? ⟨R, j, none⟩ := fun j => (hgrow.cell_far ⟨R, j, none⟩ (by simp; omega) (Ne.symm ag)).trans (World.cell?_alloc_past _ R j hlt)
  have hfr : w1.frozen? ⟨R, 4, none⟩ = false := ((hgrow.frozen_far ⟨R, 4, none⟩ (by simp; omega) (Ne.symm ag)).trans (World.frozen?_alloc_past _ R 4 hlt)).trans hfree
  refine ⟨some ⟨gg, 0, none⟩, cap, ⟨by simp; omega, ?_, ?_, ?_, ?_, ?_⟩, ?_⟩
  · rw [World.cell?_setCell_other _ _ _ _ (off_ne (by decide)), hcell]; exact hF
  · rw [World.cell?_setCell_other _ _ _ _ (off_ne (by decide)), hcell]; exact hP
  · rw [World.cell?_setCell_same' _ _ _ (by rw [hcell, hV]; rfl)]
  · rw [World.frozen?_setCell]; exact hfr
  · exact ownsRow_setCell_below hown1 (a := ⟨R, 4, none⟩) (Nat.lt_succ_self R) _
  · have hb : Below R w (w.alloc (.cells #[.string file, .string at_, .string ⟨#[]⟩, .string rs] 30)).drew := ((Below.refl R w).alloc (by omega) _).drew
    refine Below.setCell (hb.grown hgrow (by simp; omega) (fun k hk => ?_)) (p := ⟨R, 4, none⟩) (Nat.le_refl R) _
    rcases hown.2 with ⟨hv, _⟩ | ⟨g, cap', cur, hv, hg, _⟩
    · rw [hv] at hk; cases hk
    · rw [hv] at hk
      have hk' : g = k := Option.some.inj hk
      omega
set_option maxRecDepth 100000 in
set_option maxHeartbeats 1000000 in
theorem warn11 (R : Nat) (file at_ rs : ByteArray) (oa : Option Addr) (n oc : Nat) (xs : List Value) (w : World) (h : Rdr w R file oa n oc xs) (hn : n ≤ 1000000) :
    Calls Try.prog 11 #[.pointer (some ⟨R, 0, none⟩), .string at_, .string rs] w fun e w' => e = .returned (.tuple #[]) ∧ ∃ oa' oc', Rdr w' R file oa' (n + 1) oc' (xs ++ prob file at_ rs) ∧ Below R w w' := by
  obtain ⟨i0, hi0, hz0, hz1, hz2⟩ := info_parts Try.info30
  obtain ⟨hlt, hF, hP, hV, hfree, hown⟩ := h
  have ag := own_ne hown
  have hfz : ∀ o, (w.alloc o).frozen? ⟨R, 4, none⟩ = false := fun o => (World.frozen?_alloc_past o R 4 hlt).trans hfree
  have hcz : ∀ o, (w.alloc o).cell? ⟨R, 4, none⟩ = some (.slice oa n oc) := fun o => (World.cell?_alloc_past o R 4 hlt).trans hV
  go_enter Try.func11, Try.ntmps11
  go_wp2_with fail
  go_region_law ((refine step_append_lies _ (by rfl) _ _ _ (by rfl) (R + 1) 30 i0 _ 4 64 Try.underlying27 hi0 hz0 hz1 hz2 rfl (by omega) (.slice oa n oc) n xs (by rfl) ((hown.alloc _).drew) ⟨w.heap.size, 0, none⟩ 1 1 [.string file, .string at_, .string ⟨#[]⟩, .string rs] (by rfl) (by rfl) (World.news_of_block (cs := #[.string file, .string at_, .string ⟨#[]⟩, .string rs]) (t := 30) (fr := (0, 0)) (heap_alloc_new w _)) (by simp [Value.oneCell']) (by omega) (by unfold maxLen; omega) (by omega) (by simp; omega) (w.heap.size + 1) (by simp) ?_; intro gg cap w1 hown1 hgrow hat hlt1; have hf1 : w1.frozen? ⟨R, 4, none⟩ = false := (hgrow.frozen_far ⟨R, 4, none⟩ (by simp; omega) (Ne.symm ag)).trans (hfz _); have hc1 : w1.cell? ⟨R, 4, none⟩ = some (.slice oa n oc) := (hgrow.cell_far ⟨R, 4, none⟩ (by simp; omega) (Ne.symm ag)).trans (hcz _)))
  all_goals go_wp2
  all_goals go_end0
  all_goals exact ⟨rfl, warn_end ⟨hlt, hF, hP, hV, hfree, hown⟩ hown1 hgrow⟩
set_option maxHeartbeats 400000 in
theorem warn7 (R : Nat) (file at_ rs : ByteArray) (oa : Option Addr) (n oc : Nat) (xs : List Value) (w : World) (h : Rdr w R file oa n oc xs) (hn : n ≤ 1000000) :
    Calls Try.prog 7 #[.pointer (some ⟨R, 0, none⟩), .string at_, .string rs] w fun e w' => e = .returned (.tuple #[]) ∧ ∃ oa' oc', Rdr w' R file oa' (n + 1) oc' (xs ++ prob file at_ rs) ∧ Below R w w' := by
  have H : Hid (Rdr w R file oa n oc xs) := h
  clear h
  go_enter Try.func7, Try.ntmps7
  go_wp2_with fail
  refine (warn11 R file at_ rs oa n oc xs w H.out hn).mono ?_
  rintro e w1 ⟨rfl, hr⟩
  go_wp2
  go_end0
  exact ⟨rfl, hr⟩
set_option maxHeartbeats 400000 in
theorem new6 (file : ByteArray) (w : World) :
    Calls Try.prog 6 #[.string file] w fun e w' => e = .returned (.pointer (some ⟨w.heap.size, 0, none⟩)) ∧ Rdr w' w.heap.size file none 0 0 [] ∧ Below w.heap.size w w' := by
  go_enter Try.func6, Try.ntmps6
  go_wp2
  go_ret
  refine ⟨rfl, ⟨by simp, by simp, by simp, by simp, by simp, World.ownsRow_nil _ _ _ _⟩, (Below.refl _ _).alloc (Nat.le_refl _) _⟩
set_option maxHeartbeats 400000 in
theorem warnings8 (R : Nat) (file : ByteArray) (oa : Option Addr) (n oc : Nat) (xs : List Value) (w : World) (h : Rdr w R file oa n oc xs) :
    Calls Try.prog 8 #[.pointer (some ⟨R, 0, none⟩)] w fun e w' => e = .returned (.slice oa n oc) ∧ w' = w := by
  have hV := h.warns
  clear h
  go_enter Try.func8, Try.ntmps8
  go_wp2
  go_ret
  exact ⟨rfl, rfl⟩
set_option maxHeartbeats 400000 in
theorem problems9 (R : Nat) (file : ByteArray) (oa : Option Addr) (n oc : Nat) (xs : List Value) (w : World) (h : Rdr w R file oa n oc xs) :
    Calls Try.prog 9 #[.pointer (some ⟨R, 0, none⟩)] w fun e w' => e = .returned (.slice none 0 0) ∧ w' = w := by
  have hV := h.probs
  clear h
  go_enter Try.func9, Try.ntmps9
  go_wp2
  go_ret
  exact ⟨rfl, rfl⟩
end Go.Proofs.Qxb6609304a
