/-
  The project's functions on the three roads, by their contracts: the text of a RunError over any strings, of a nested one, of an unpopulatedReadError.
-/
import Derived.Test.Qxb6613022aText
import Derived.Handy
namespace Go.Proofs.Qxb6613022a
open Go.ChangeShapes Go.WideShapes Go.ChangeAt Go.RowKit
set_option maxHeartbeats 400000 in
theorem error15_none (p : Nat) (ea : Option Addr) (w : World) (hplt : p < w.heap.size) (hp : w.cell? ⟨p, 0, none⟩ = some (.slice ea 0 0)) :
    Calls Try.prog 15 #[.pointer (some ⟨p, 0, none⟩)] w fun e w' => e = .returned (.string ⟨#[]⟩) ∧ Below w.heap.size w w' := by
  obtain ⟨i0, hi, hz0, hz1, hz2⟩ := info_parts Try.info9
  go_enter Try.func15, Try.ntmps15
  go_wp2_with (at_make; refine wpList_make_full _ rfl (.tmp 10) (.tmp 10) 22 rfl w.heap.size 9 i0 (.string ⟨#[]⟩) 1 Try.underlying22 hi hz0 hz1 .i64 .i64 0 0 0 rfl rfl rfl rfl (by rw [hz2]; omega) (by unfold maxLen; omega) (Nat.le_refl _) ?_; intro w1 hown hgrow; have hb1 : Below w.heap.size w w1 := (Below.refl _ _).grown hgrow (Nat.le_refl _) (fun k hk => by cases hk); have hp1 := (hb1.cell (p := ⟨p, 0, none⟩) hplt).trans hp)
  refine wp_loop_rounds 1 ?_
  rw [rounds_succ]
  go_wp2_with fail
  refine (Try.strings_Join_none _ _ _ _).mono ?_
  rintro e w2 ⟨rfl, rfl⟩
  go_wp2
  go_ret
  exact ⟨rfl, hb1⟩
theorem jn_nil : jn [] = ⟨#[]⟩ := rfl
/-- (*RunError).Error at whatever strings. -/
theorem text15 (xs : List ByteArray) (p : Nat) (w : World) (h : RunOf xs w p) (hl : xs.length ≤ 65536) (hs : sz xs ≤ 16777216) :
    Calls Try.prog 15 #[.pointer (some ⟨p, 0, none⟩)] w fun e w' => e = .returned (.string (jn xs)) ∧ Below w.heap.size w w' := by
  obtain ⟨h1, ea, h2, h3⟩ := h
  rcases h3 with rfl | ⟨eb, rfl, h4, h5⟩
  · exact error15_none p ea w h1 h2
  · refine error15_42 xs p eb w h1 h2 h4 (fun j hj => ?_) hl hs
    obtain ⟨g, _, hg2, hg3, hg4⟩ := h5 j hj hj
    refine ⟨g, hg3, fun W hW => ?_⟩
    refine (errText g xs[j] W ((hW.cell (p := ⟨g, 0, none⟩) hg2).trans hg4)).mono ?_
    rintro e w' ⟨rfl, rfl⟩
    exact ⟨rfl, Below.refl _ _⟩

/-- A slice of strings: nil, or at an address where they lie. -/
def Strs (w : World) (ad : Option Addr) (cap : Nat) (xs : List ByteArray) : Prop :=
  (ad = none ∧ cap = 0 ∧ xs = []) ∨ ∃ b off, ad = some ⟨b, off, none⟩ ∧ b < w.heap.size ∧ ∀ j (h : j < xs.length), w.cell? ⟨b, off + j, none⟩ = some (.string xs[j])
theorem Strs.below {w w' : World} {ad : Option Addr} {cap : Nat} {xs : List ByteArray} (h : Strs w ad cap xs) (hb : Below w.heap.size w w') : Strs w' ad cap xs := by
  rcases h with h | ⟨b, off, h1, h2, h3⟩
  · exact Or.inl h
  · exact Or.inr ⟨b, off, h1, Nat.lt_of_lt_of_le h2 hb.size, fun j hj => (hb.cell (p := ⟨b, off + j, none⟩) h2).trans (h3 j hj)⟩
theorem run14_any (ad : Option Addr) (cap : Nat) (xs : List ByteArray) (w : World) (h : Strs w ad cap xs) (hl : xs.length ≤ 65536) :
    Calls Try.prog 14 #[.slice ad xs.length cap] w (RunMade xs w) := by
  rcases h with ⟨rfl, rfl, rfl⟩ | ⟨b, off, rfl, h2, h3⟩
  · exact run14_nil w
  · exact run14 b off cap xs w h2 h3 hl
set_option maxHeartbeats 400000 in
/-- ZZrunErrorText. -/
theorem text7 (ad : Option Addr) (cap : Nat) (xs : List ByteArray) (w : World) (h : Strs w ad cap xs) (hl : xs.length ≤ 65536) (hs : sz xs ≤ 16777216) :
    Calls Try.prog 7 #[.slice ad xs.length cap] w fun e w' => e = .returned (.string (jn xs)) ∧ Below w.heap.size w w' := by
  have H : Hid (Strs w ad cap xs) := h
  clear h
  go_enter Try.func7, Try.ntmps7
  go_wp2_with fail
  refine (run14_any ad cap xs w H.out hl).mono ?_
  rintro e w1 ⟨p, rfl, hb1, hrun⟩
  go_wp2_with fail
  refine (text15 xs p w1 hrun hl hs).mono ?_
  rintro e w2 ⟨rfl, hb2⟩
  go_wp2
  go_ret
  exact ⟨rfl, hb1.trans (hb2.mono hb1.size)⟩
set_option maxHeartbeats 400000 in
/-- (*unpopulatedReadError).Error around a RunError. -/
theorem unpop16_run (xs : List ByteArray) (q p : Nat) (w : World) (hq : w.cell? ⟨q, 0, none⟩ = some (.iface 29 (.pointer (some ⟨p, 0, none⟩)))) (h : RunOf xs w p) (hl : xs.length ≤ 65536) (hs : sz xs ≤ 16777216) :
    Calls Try.prog 16 #[.pointer (some ⟨q, 0, none⟩)] w fun e w' => e = .returned (.string (jn xs)) ∧ Below w.heap.size w w' := by
  have hm := method29
  have H : Hid (RunOf xs w p) := h
  clear h
  go_enter Try.func16, Try.ntmps16
  go_wp2_with fail
  refine (text15 xs p w H.out hl hs).mono ?_
  rintro e w2 ⟨rfl, hb2⟩
  go_wp2
  go_ret
  exact ⟨rfl, hb2⟩
set_option maxHeartbeats 400000 in
/-- (*unpopulatedReadError).Error around an error of errors.New. -/
theorem unpop16_err (s : ByteArray) (q g : Nat) (w : World) (hq : w.cell? ⟨q, 0, none⟩ = some (.iface 42 (.pointer (some ⟨g, 0, none⟩)))) (hg : w.cell? ⟨g, 0, none⟩ = some (.string s)) :
    Calls Try.prog 16 #[.pointer (some ⟨q, 0, none⟩)] w fun e w' => e = .returned (.string s) ∧ w' = w := by
  have hm := method42
  go_enter Try.func16, Try.ntmps16
  go_wp2_with fail
  refine (errText g s w hg).mono ?_
  rintro e w2 ⟨rfl, rfl⟩
  go_wp2
  go_ret
  exact ⟨rfl, rfl⟩
set_option maxHeartbeats 400000 in
/-- ZZunpopRunText. -/
theorem unpopRun9 (ad : Option Addr) (cap : Nat) (xs : List ByteArray) (w : World) (h : Strs w ad cap xs) (hl : xs.length ≤ 65536) (hs : sz xs ≤ 16777216) :
    Calls Try.prog 9 #[.slice ad xs.length cap] w fun e w' => e = .returned (.string (jn xs)) ∧ Below w.heap.size w w' := by
  have H : Hid (Strs w ad cap xs) := h
  clear h
  go_enter Try.func9, Try.ntmps9
  go_wp2_with fail
  refine (run14_any ad cap xs w H.out hl).mono ?_
  rintro e w1 ⟨p, rfl, hb1, hrun⟩
  go_wp2_with fail
  refine (unpop16_run xs w1.heap.size p _ (by simp) (hrun.below (below_alloc _ _)) hl hs).mono ?_
  rintro e w2 ⟨rfl, hb2⟩
  go_wp2
  go_ret
  exact ⟨rfl, (hb1.alloc hb1.size _).trans (hb2.mono (by have := hb1.size; simp; omega))⟩
set_option maxHeartbeats 400000 in
/-- ZZunpopText. -/
theorem unpop10 (s : ByteArray) (w : World) :
    Calls Try.prog 10 #[.string s] w fun e w' => e = .returned (.string s) ∧ Below w.heap.size w w' := by
  go_enter Try.func10, Try.ntmps10
  go_wp2_with fail
  refine (errNew s w).mono ?_
  rintro e w1 ⟨rfl, rfl⟩
  go_wp2_with fail
  refine (unpop16_err s (w.heap.size + 1) w.heap.size _ (by simp) (by simp)).mono ?_
  rintro e w2 ⟨rfl, rfl⟩
  go_wp2
  go_ret
  exact ⟨rfl, ((Below.refl _ _).alloc (Nat.le_refl _) _).alloc (by simp) _⟩

theorem jn_size (xs : List ByteArray) : (jn xs).size = sz xs + (xs.length - 1) := jl_length xs
/-- The world in which the nested RunError's Error is called. -/
abbrev nestW (w2 : World) (p1 p2 : Nat) : World := (w2.alloc (.cells #[.iface 29 (.pointer (some ⟨p1, 0, none⟩)), .iface 29 (.pointer (some ⟨p2, 0, none⟩))] 34)).alloc (.cells #[.slice (some ⟨w2.heap.size, 0, none⟩) 2 2] 40)
theorem nest_below (w2 : World) (p1 p2 : Nat) : Below w2.heap.size w2 (nestW w2 p1 p2) := (below_alloc _ _).alloc (by simp) _
theorem nest_call (xs ys : List ByteArray) (p1 p2 : Nat) (w2 : World) (hr1 : RunOf xs w2 p1) (hr2 : RunOf ys w2 p2) (hl1 : xs.length ≤ 65536) (hl2 : ys.length ≤ 65536) (hs1 : sz xs ≤ 1048576) (hs2 : sz ys ≤ 1048576) :
    Calls Try.prog 15 #[.pointer (some ⟨w2.heap.size + 1, 0, none⟩)] (nestW w2 p1 p2) fun e w' => e = .returned (.string (jn [jn xs, jn ys])) ∧ Below w2.heap.size w2 w' := by
  have hb := nest_below w2 p1 p2
  have hsz : (nestW w2 p1 p2).heap.size = w2.heap.size + 2 := by simp
  have c0 : (nestW w2 p1 p2).cell? ⟨w2.heap.size + 1, 0, none⟩ = some (.slice (some ⟨w2.heap.size, 0, none⟩) 2 2) := by simp
  have c1 : (nestW w2 p1 p2).cell? ⟨w2.heap.size, 0, none⟩ = some (.iface 29 (.pointer (some ⟨p1, 0, none⟩))) := by simp
  have c2 : (nestW w2 p1 p2).cell? ⟨w2.heap.size, 1, none⟩ = some (.iface 29 (.pointer (some ⟨p2, 0, none⟩))) := by simp
  have hr1' := hr1.below hb
  have hr2' := hr2.below hb
  generalize nestW w2 p1 p2 = W at *
  refine (error15_29 [jn xs, jn ys] (w2.heap.size + 1) w2.heap.size W (by omega) c0 (by omega) (fun j hj => ?_) (by simp) ?_).mono ?_
  · match j, hj with
    | 0, _ => exact ⟨p1, c1, fun V hV => text15 xs p1 V (hr1'.below hV) hl1 (by omega)⟩
    | 1, _ => exact ⟨p2, c2, fun V hV => text15 ys p2 V (hr2'.below hV) hl2 (by omega)⟩
  · rw [sz_cons, sz_cons, sz_nil, jn_size, jn_size]; omega
  · rintro e w' ⟨rfl, hb'⟩
    exact ⟨rfl, hb.trans (hb'.mono (by omega))⟩
set_option maxHeartbeats 400000 in
/-- ZZrunErrorNestedText. -/
theorem nested12 (a1 a2 : Option Addr) (c1 c2 n1 n2 : Nat) (xs ys : List ByteArray) (w : World) (h1 : Strs w a1 c1 xs) (h2 : Strs w a2 c2 ys) (hn1 : xs.length = n1) (hn2 : ys.length = n2) (hl1 : xs.length ≤ 65536) (hl2 : ys.length ≤ 65536) (hs1 : sz xs ≤ 1048576) (hs2 : sz ys ≤ 1048576) :
    Calls Try.prog 12 #[.slice a1 n1 c1, .slice a2 n2 c2] w fun e w' => e = .returned (.string (jn [jn xs, jn ys])) ∧ Below w.heap.size w w' := by
  subst hn1 hn2
  have H1 : Hid (Strs w a1 c1 xs) := h1
  have H2 : Hid (Strs w a2 c2 ys) := h2
  clear h1 h2
  go_enter Try.func12, Try.ntmps12
  go_wp2_with fail
  refine (run14_any a1 c1 xs w H1.out hl1).mono ?_
  rintro e w1 ⟨p1, rfl, hb1, hrun1⟩
  go_wp2_with fail
  refine (run14_any a2 c2 ys w1 (H2.out.below hb1) hl2).mono ?_
  rintro e w2 ⟨p2, rfl, hb2, hrun2⟩
  have hr1 := hrun1.below hb2
  clear hrun1
  go_wp2_with fail
  refine (nest_call xs ys p1 p2 w2 hr1 hrun2 hl1 hl2 hs1 hs2).mono ?_
  rintro e w3 ⟨rfl, hb3⟩
  go_wp2
  go_ret
  have hb12 := hb1.trans (hb2.mono hb1.size)
  exact ⟨rfl, hb12.trans (hb3.mono hb12.size)⟩

/-- How often a byte stands in a list. -/
def cnt (c : UInt8) (l : List UInt8) : Nat := l.count c
theorem cnt_le (c : UInt8) (l : List UInt8) : cnt c l ≤ l.length := List.count_le_length
theorem take_snoc (s : ByteArray) (k : Nat) (h : k < s.size) : s.data.toList.take (k + 1) = s.data.toList.take k ++ [s[k]] := by
  rw [List.take_succ_eq_append_getElem (by simpa using h)]; rfl
theorem cnt_snoc (c : UInt8) (l : List UInt8) (x : UInt8) : cnt c (l ++ [x]) = cnt c l + if x == c then 1 else 0 := by
  simp [cnt, List.count_append, List.count_singleton]
theorem ret_int {k : IntKind} {a b : Int} (h : a = b) : Ending.returned (.int k a) = .returned (.int k b) := by rw [h]
theorem byte_yes {x : UInt8} (h : ((x.toNat : Int) == 10) = true) : (x == 10) = true := by
  have h1 : (x.toNat : Int) = 10 := by simpa using h
  have h2 : x = 10 := UInt8.toNat_inj.1 (by simp; omega)
  simp [h2]
theorem byte_no {x : UInt8} (h : ((x.toNat : Int) == 10) = false) : (x == 10) = false := by
  have h1 : ¬ (x.toNat : Int) = 10 := by simpa using h
  rw [beq_eq_false_iff_ne]
  intro h2
  subst h2
  exact h1 rfl
set_option maxHeartbeats 400000 in
/-- lawCountByte at the newline. -/
theorem count13 (s : ByteArray) (w : World) (hs : s.size ≤ 100000000) :
    Calls Try.prog 13 #[.string s, .int .u8 10] w fun e w' => e = .returned (.int .i64 (cnt 10 s.data.toList)) ∧ w' = w := by
  go_enter Try.func13, Try.ntmps13
  go_wp2
  go_loop [5, 6] (fun n i => ∃ k : Nat, k ≤ s.size ∧ i = .int .i64 k ∧ n = .int .i64 (cnt 10 (s.data.toList.take k))) (fun _ i => s.size - (intOf i).toNat)
  case atStart => exact ⟨0, Nat.zero_le _, rfl, rfl⟩
  case round =>
    obtain ⟨k, hk, rfl, rfl⟩ := hrel
    have hd := cnt_le 10 (s.data.toList.take k)
    have hl : (s.data.toList.take k).length ≤ k := List.length_take_le _ _
    by_cases hlt : k < s.size
    · have hsn := cnt_snoc 10 (s.data.toList.take k) s[k]
      have hts := take_snoc s k hlt
      have HS : Hid (cnt 10 (s.data.toList.take (k + 1)) = cnt 10 (s.data.toList.take k) + if s[k] == 10 then 1 else 0) := by rw [hts]; exact hsn
      clear hsn hts
      go_wp2
      · have ht : (s[k] == 10) = true := byte_yes (by assumption)
        go_round
        case rel => exact ⟨k + 1, by omega, by go_num, by rw [HS.out, ht]; go_num⟩
        case measure => simp [intOf]; omega
      · have ht : (s[k] == 10) = false := byte_no (by assumption)
        go_round
        case rel => exact ⟨k + 1, by omega, by go_num, by rw [HS.out, ht]; go_num⟩
        case measure => simp [intOf]; omega
    · go_wp2
      go_ret
      exact ⟨ret_int (by rw [List.take_of_length_le (by simp; omega)]), rfl⟩
end Go.Proofs.Qxb6613022a
