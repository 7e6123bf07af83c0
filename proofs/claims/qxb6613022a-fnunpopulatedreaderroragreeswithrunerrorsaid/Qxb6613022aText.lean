/-
  (*RunError).Error over elements of one pointer type whose method Error is known by a contract.
-/
import Derived.Test.Qxb6613022aRun
import Derived.Test.Qxb6613022aShelf
namespace Go.Proofs.Qxb6613022a
open Go.ChangeShapes Go.WideShapes Go.ChangeAt Go.RowKit
/-- The element at 'g': its method Error, function 'f', hands back 't', whatever has been laid since. -/
def Speaks (f : Nat) (w : World) (g : Nat) (t : ByteArray) : Prop :=
  ∀ W, Below w.heap.size w W → Calls Try.prog f #[.pointer (some ⟨g, 0, none⟩)] W fun e W' => e = .returned (.string t) ∧ Below W.heap.size W W'

/-- The lines so far: the first 'k' places of block 'b' hold the texts. -/
def Lines (w : World) (b k : Nat) (ts : List ByteArray) : Prop := ∀ j (h : j < ts.length), j < k → w.cell? ⟨b, j, none⟩ = some (.string ts[j])

/-- ONE ROUND of Error: the element speaks (new blocks alone), its text is stored at place k. -/
theorem lines_step {w wr w2 : World} {k : Nat} {ts : List ByteArray} (hk : k < ts.length) (hbel : Below w.heap.size w wr) (hrow : Row wr w.heap.size ts.length) (hf : Lines wr w.heap.size k ts) (hb2 : Below wr.heap.size wr w2) :
    Below w.heap.size w (w2.setCell ⟨w.heap.size, k, none⟩ (.string ts[k])) ∧ Row (w2.setCell ⟨w.heap.size, k, none⟩ (.string ts[k])) w.heap.size ts.length ∧ Lines (w2.setCell ⟨w.heap.size, k, none⟩ (.string ts[k])) w.heap.size (k + 1) ts := by
  have hr2 := hrow.below hb2
  refine ⟨(hbel.trans (hb2.mono hbel.size)).setCell (p := ⟨w.heap.size, k, none⟩) (Nat.le_refl _) _, hr2.setCell k _, ?_⟩
  intro j hj hj'
  by_cases e : j = k
  · subst e
    rw [World.cell?_setCell_same' _ _ _ (hr2.there j hj)]
  · rw [World.cell?_setCell_other _ _ _ _ (off_ne (by omega)), hb2.cell (p := ⟨w.heap.size, j, none⟩) hrow.lt]
    exact hf j hj (by omega)

theorem method42 (a : Addr) (w : World) : (method 170 42 (.pointer (some a)) "Error").run Try.prog w = .ok (41, .pointer (some a)) w := by kernel_rfl
set_option maxHeartbeats 400000 in
theorem error15_42 (ts : List ByteArray) (p eb : Nat) (w : World) (hplt : p < w.heap.size) (hp : w.cell? ⟨p, 0, none⟩ = some (.slice (some ⟨eb, 0, none⟩) ts.length ts.length)) (heb : eb < w.heap.size)
    (hel : ∀ j (h : j < ts.length), ∃ g, w.cell? ⟨eb, j, none⟩ = some (.iface 42 (.pointer (some ⟨g, 0, none⟩))) ∧ Speaks 41 w g ts[j]) (hl : ts.length ≤ 65536) (hs : sz ts ≤ 16777216) :
    Calls Try.prog 15 #[.pointer (some ⟨p, 0, none⟩)] w fun e w' => e = .returned (.string (jn ts)) ∧ Below w.heap.size w w' := by
  obtain ⟨i0, hi, hz0, hz1, hz2⟩ := info_parts Try.info9
  have hm := method42
  have HEL : Hid (∀ j (h : j < ts.length), ∃ g, w.cell? ⟨eb, j, none⟩ = some (.iface 42 (.pointer (some ⟨g, 0, none⟩))) ∧ Speaks 41 w g ts[j]) := hel
  clear hel
  go_enter Try.func15, Try.ntmps15
  go_wp2_with (at_make; refine wpList_make_full _ rfl (.tmp 10) (.tmp 10) 22 rfl w.heap.size 9 i0 (.string ⟨#[]⟩) 1 Try.underlying22 hi hz0 hz1 .i64 .i64 ts.length ts.length ts.length rfl rfl rfl rfl (by rw [hz2]; omega) (by unfold maxLen; omega) (Nat.le_refl _) ?_; intro w1 hown hgrow; have hb1 : Below w.heap.size w w1 := (Below.refl _ _).grown hgrow (Nat.le_refl _) (fun k hk => by cases hk); have hp1 := (hb1.cell (p := ⟨p, 0, none⟩) hplt).trans hp)
  have hrow1 := Row.made hown
  clear hown hgrow hi hz0 hz1 hz2 hp hp1
  go_loopw [17] (fun i wr => ∃ k : Nat, k ≤ ts.length ∧ i = .int .i64 k ∧ Below w.heap.size w wr ∧ Row wr w.heap.size ts.length ∧ Lines wr w.heap.size k ts) (fun i _ => ts.length - (intOf i).toNat)
  case atStart => exact ⟨0, Nat.zero_le _, rfl, hb1, hrow1, fun j _ h => absurd h (Nat.not_lt_zero _)⟩
  case round =>
    obtain ⟨k, hk, rfl, hbel, hrow, hfil⟩ := hrel
    by_cases hlt : k < ts.length
    · obtain ⟨g, hg, hsp⟩ := HEL.out k hlt
      have hcell : wr.cell? ⟨eb, k, none⟩ = some (.iface 42 (.pointer (some ⟨g, 0, none⟩))) := (hbel.cell (p := ⟨eb, k, none⟩) heb).trans hg
      clear hg
      go_wp2_with fail
      refine (hsp wr hbel).mono ?_
      rintro e w2 ⟨rfl, hb2⟩
      have hrow2 := hrow.below hb2
      have hfree := hrow2.free k
      obtain ⟨v0, hv0⟩ := Option.isSome_iff_exists.1 (hrow2.there k hlt)
      have HR := lines_step hlt hbel hrow hfil hb2
      clear hbel hrow hfil hb2 hrow2 hsp
      generalize hT : ts[k] = t at HR ⊢
      clear hT
      go_wp2
      go_roundw
      case rel => exact ⟨k + 1, by omega, by go_num, HR⟩
      case measure => simp [intOf]; omega
    · obtain rfl : k = ts.length := by omega
      have hrl := hrow.lt
      have hJ := Try.strings_Join w.heap.size 0 ts.length ts ⟨#[10]⟩ wr (fun j x hx => by obtain ⟨hj, rfl⟩ := List.getElem?_eq_some_iff.1 hx; simpa using hfil j hj hj) hrl (by omega) (Nat.le_refl _) (by have := jl_length ts; unfold jl at this; simp only [] at this ⊢; omega)
      have HJ := hJ
      clear hJ hfil hrow
      go_wp2_with fail
      refine HJ.mono ?_
      rintro e w2 ⟨rfl, hb2⟩
      go_wp2
      go_ret
      exact ⟨rfl, hbel.trans (hb2.mono (by omega))⟩
theorem method29 (a : Addr) (w : World) : (method 170 29 (.pointer (some a)) "Error").run Try.prog w = .ok (15, .pointer (some a)) w := by kernel_rfl
set_option maxHeartbeats 400000 in
theorem error15_29 (ts : List ByteArray) (p eb : Nat) (w : World) (hplt : p < w.heap.size) (hp : w.cell? ⟨p, 0, none⟩ = some (.slice (some ⟨eb, 0, none⟩) ts.length ts.length)) (heb : eb < w.heap.size)
    (hel : ∀ j (h : j < ts.length), ∃ g, w.cell? ⟨eb, j, none⟩ = some (.iface 29 (.pointer (some ⟨g, 0, none⟩))) ∧ Speaks 15 w g ts[j]) (hl : ts.length ≤ 65536) (hs : sz ts ≤ 16777216) :
    Calls Try.prog 15 #[.pointer (some ⟨p, 0, none⟩)] w fun e w' => e = .returned (.string (jn ts)) ∧ Below w.heap.size w w' := by
  obtain ⟨i0, hi, hz0, hz1, hz2⟩ := info_parts Try.info9
  have hm := method29
  have HEL : Hid (∀ j (h : j < ts.length), ∃ g, w.cell? ⟨eb, j, none⟩ = some (.iface 29 (.pointer (some ⟨g, 0, none⟩))) ∧ Speaks 15 w g ts[j]) := hel
  clear hel
  go_enter Try.func15, Try.ntmps15
  go_wp2_with (at_make; refine wpList_make_full _ rfl (.tmp 10) (.tmp 10) 22 rfl w.heap.size 9 i0 (.string ⟨#[]⟩) 1 Try.underlying22 hi hz0 hz1 .i64 .i64 ts.length ts.length ts.length rfl rfl rfl rfl (by rw [hz2]; omega) (by unfold maxLen; omega) (Nat.le_refl _) ?_; intro w1 hown hgrow; have hb1 : Below w.heap.size w w1 := (Below.refl _ _).grown hgrow (Nat.le_refl _) (fun k hk => by cases hk); have hp1 := (hb1.cell (p := ⟨p, 0, none⟩) hplt).trans hp)
  have hrow1 := Row.made hown
  clear hown hgrow hi hz0 hz1 hz2 hp hp1
  go_loopw [17] (fun i wr => ∃ k : Nat, k ≤ ts.length ∧ i = .int .i64 k ∧ Below w.heap.size w wr ∧ Row wr w.heap.size ts.length ∧ Lines wr w.heap.size k ts) (fun i _ => ts.length - (intOf i).toNat)
  case atStart => exact ⟨0, Nat.zero_le _, rfl, hb1, hrow1, fun j _ h => absurd h (Nat.not_lt_zero _)⟩
  case round =>
    obtain ⟨k, hk, rfl, hbel, hrow, hfil⟩ := hrel
    by_cases hlt : k < ts.length
    · obtain ⟨g, hg, hsp⟩ := HEL.out k hlt
      have hcell : wr.cell? ⟨eb, k, none⟩ = some (.iface 29 (.pointer (some ⟨g, 0, none⟩))) := (hbel.cell (p := ⟨eb, k, none⟩) heb).trans hg
      clear hg
      go_wp2_with fail
      refine (hsp wr hbel).mono ?_
      rintro e w2 ⟨rfl, hb2⟩
      have hrow2 := hrow.below hb2
      have hfree := hrow2.free k
      obtain ⟨v0, hv0⟩ := Option.isSome_iff_exists.1 (hrow2.there k hlt)
      have HR := lines_step hlt hbel hrow hfil hb2
      clear hbel hrow hfil hb2 hrow2 hsp
      generalize hT : ts[k] = t at HR ⊢
      clear hT
      go_wp2
      go_roundw
      case rel => exact ⟨k + 1, by omega, by go_num, HR⟩
      case measure => simp [intOf]; omega
    · obtain rfl : k = ts.length := by omega
      have hrl := hrow.lt
      have hJ := Try.strings_Join w.heap.size 0 ts.length ts ⟨#[10]⟩ wr (fun j x hx => by obtain ⟨hj, rfl⟩ := List.getElem?_eq_some_iff.1 hx; simpa using hfil j hj hj) hrl (by omega) (Nat.le_refl _) (by have := jl_length ts; unfold jl at this; simp only [] at this ⊢; omega)
      have HJ := hJ
      clear hJ hfil hrow
      go_wp2_with fail
      refine HJ.mono ?_
      rintro e w2 ⟨rfl, hb2⟩
      go_wp2
      go_ret
      exact ⟨rfl, hbel.trans (hb2.mono (by omega))⟩
end Go.Proofs.Qxb6613022a
