/-
  FnRunErrorTextSplitsAtAnyCut, walked: it returns true, whatever the messages and the cut.
-/
import Derived.Test.Qxb6613022aCopy
import Derived.Deep.RegionWith
namespace Go.Proofs.Qxb6613022a
open Go.ChangeShapes Go.WideShapes Go.ChangeAt Go.RowKit
theorem text7' (ad : Option Addr) (cap n : Nat) (xs : List ByteArray) (w : World) (hn : xs.length = n) (h : Strs w ad cap xs) (hl : xs.length ≤ 65536) (hs : sz xs ≤ 16777216) :
    Calls Try.prog 7 #[.slice ad n cap] w fun e w' => e = .returned (.string (jn xs)) ∧ Below w.heap.size w w' := by
  subst hn; exact text7 ad cap xs w h hl hs
theorem strs_take {w : World} {g : Nat} {xs : List ByteArray} (q c : Nat) (hg : g < w.heap.size) (h : ∀ j (h : j < xs.length), w.cell? ⟨g, j, none⟩ = some (.string xs[j])) : Strs w (some ⟨g, 0, none⟩) c (xs.take q) := by
  refine Or.inr ⟨g, 0, rfl, hg, fun j hj => ?_⟩
  rw [List.length_take] at hj
  rw [Nat.zero_add, h j (by omega), List.getElem_take]
theorem strs_drop {w : World} {g : Nat} {xs : List ByteArray} (q c : Nat) (hg : g < w.heap.size) (h : ∀ j (h : j < xs.length), w.cell? ⟨g, j, none⟩ = some (.string xs[j])) : Strs w (some ⟨g, q, none⟩) c (xs.drop q) := by
  refine Or.inr ⟨g, q, rfl, hg, fun j hj => ?_⟩
  rw [List.length_drop] at hj
  rw [h (q + j) (by omega), List.getElem_drop]
theorem strs_empty {w : World} {g : Nat} (c : Nat) (hg : g < w.heap.size) : Strs w (some ⟨g, 0, none⟩) c [] := Or.inr ⟨g, 0, rfl, hg, fun _ hj => absurd hj (Nat.not_lt_zero _)⟩
theorem strs_all {w : World} {g : Nat} {xs : List ByteArray} (c : Nat) (hg : g < w.heap.size) (h : ∀ j (h : j < xs.length), w.cell? ⟨g, j, none⟩ = some (.string xs[j])) : Strs w (some ⟨g, 0, none⟩) c xs := by
  refine Or.inr ⟨g, 0, rfl, hg, fun j hj => ?_⟩
  rw [Nat.zero_add, h j hj]
theorem cells_below {w w' : World} {g : Nat} {xs : List ByteArray} (hb : Below w.heap.size w w') (hg : g < w.heap.size) (h : ∀ j (h : j < xs.length), w.cell? ⟨g, j, none⟩ = some (.string xs[j])) : ∀ j (h : j < xs.length), w'.cell? ⟨g, j, none⟩ = some (.string xs[j]) :=
  fun j hj => (hb.cell (p := ⟨g, j, none⟩) hg).trans (h j hj)
theorem jn_one (x : ByteArray) : jn [x] = x := by
  show (⟨(jl [x]).toArray⟩ : ByteArray) = x
  rw [jl_one]
theorem ret_bool {a b : Bool} (h : a = b) : Ending.returned (.bool a) = .returned (.bool b) := by rw [h]
theorem text_one (g cap : Nat) (x : ByteArray) (w : World) (hg : g < w.heap.size) (hc : w.cell? ⟨g, 0, none⟩ = some (.string x)) (hs : x.size ≤ 1048576) :
    Calls Try.prog 7 #[.slice (some ⟨g, 0, none⟩) 1 cap] w fun e w' => e = .returned (.string x) ∧ w'.cell? ⟨g, 0, none⟩ = some (.string x) ∧ Below w.heap.size w w' := by
  refine (text7 (some ⟨g, 0, none⟩) cap [x] w (Or.inr ⟨g, 0, rfl, hg, fun j hj => ?_⟩) (by simp) (by rw [sz_cons, sz_nil]; omega)).mono ?_
  · have : j = 0 := by simpa using hj
    subst this; exact hc
  · rintro e w' ⟨rfl, hb⟩
    exact ⟨by rw [jn_one], (hb.cell (p := ⟨g, 0, none⟩) hg).trans hc, hb⟩
theorem toList_jn (xs : List ByteArray) : (jn xs).toList = jl xs := by
  rw [ByteArray.toList_eq]; rfl
theorem app_eq (a b : ByteArray) : a ++ b = ⟨(a.data.toList ++ b.data.toList).toArray⟩ := by
  apply ByteArray.ext
  rw [ByteArray.data_append]
  simp
theorem split_eq (xs : List ByteArray) (q : Nat) (h0 : 0 < q) (h1 : q < xs.length) : jn (xs.take q) ++ ⟨#[10]⟩ ++ jn (xs.drop q) = jn xs := by
  rw [app_eq, app_eq]
  unfold jn
  rw [jl_split xs q h0 h1]
  simp
set_option maxHeartbeats 1000000 in
theorem split3 (a : Addr) (cap : Nat) (xs : List ByteArray) (m : Int) (w : World) (hx : ∀ j (h : j < xs.length), w.cell? (a.add j) = some (.string xs[j])) (hs : ∀ j (h : j < xs.length), xs[j].size ≤ 9223372036854775807) (hl : xs.length ≤ 9223372036854775807) (hm0 : -9223372036854775808 ≤ m) (hm1 : m ≤ 9223372036854775807) :
    Calls Try.prog 3 #[.slice (some a) xs.length cap, .int .i64 m] w fun e w' => e = .returned (.bool true) ∧ Below w.heap.size w w' := by
  have q22 : ∀ (w : World) (a : Option Addr) (n c n' c' : Nat), (binOp .neq 22 (.slice a n c) (.slice none n' c')).run Try.prog w = .ok (.bool (!a.isNone)) w := fun w a n c n' c' => run_neq_slice_nil_any w _ _ a n c n' c' Try.underlying22
  obtain ⟨i0, hi, hz0, hz1, hz2⟩ := info_parts Try.info9
  have HX : Hid (∀ j (h : j < xs.length), w.cell? (a.add j) = some (.string xs[j])) := hx
  have HSS : Hid (∀ j (h : j < xs.length), xs[j].size ≤ 9223372036854775807) := hs
  clear hx hs
  go_enter Try.func3, Try.ntmps3
  go_wp2_with fail
  refine (bytes6_any a cap xs m w HX.out HSS.out hl).mono ?_
  rintro e w0 ⟨r, rfl, rfl, hr⟩
  cases r
  · go_wp2
    go_ret
    exact ⟨rfl, Below.refl _ _⟩
  have hsum := hr rfl
  clear hr HSS
  by_cases hbig : (65536 : Int) < xs.length
  · go_wp2
    go_ret
    exact ⟨rfl, Below.refl _ _⟩
  have hle : (xs.length : Int) ≤ 65536 := by omega
  clear hbig
  go_wp2_with (at_make; refine wpList_make_full _ rfl (.tmp 22) (.tmp 22) 22 rfl w0.heap.size 9 i0 (.string ⟨#[]⟩) 1 Try.underlying22 hi hz0 hz1 .i64 .i64 xs.length xs.length xs.length rfl rfl rfl rfl (by rw [hz2]; omega) (by unfold maxLen; omega) (Nat.le_refl _) ?_; intro w1 hown hgrow; obtain ⟨w2, hcp, hw2⟩ := copy_run (cap := cap) HX.out ((Below.refl _ _).grown hgrow (Nat.le_refl _) (fun k hk => by cases hk)) hown; clear hown hgrow)
  clear hcp hi hz0 hz1 hz2 HX
  obtain ⟨hb2, hlt2, hc2⟩ := hw2
  have HC2 : Hid (∀ j (h : j < xs.length), w2.cell? ⟨w0.heap.size, j, none⟩ = some (.string xs[j])) := hc2
  clear hc2
  go_loop [6, 7] (fun n i => ∃ k : Nat, k ≤ xs.length ∧ i = .int .i64 k ∧ n = .int .i64 ((16 * k + sz (xs.take k) : Nat) : Int)) (fun _ i => xs.length - (intOf i).toNat)
  case atStart => exact ⟨0, Nat.zero_le _, rfl, rfl⟩
  case round =>
    obtain ⟨k, hk, rfl, rfl⟩ := hrel
    by_cases hlt : k < xs.length
    · have hcell := HC2.out k hlt
      have hsz := sz_get_le xs k hlt
      have hst := sz_take_le xs k
      have HS : Hid (sz (xs.take (k + 1)) = sz (xs.take k) + xs[k].size) := sz_take_succ xs k hlt
      generalize hX : xs[k] = x at hcell hsz HS
      clear hX
      generalize sz (xs.take k) = n0 at HS hst ⊢
      go_wp2
      · go_ret
        exact ⟨rfl, hb2⟩
      · go_round
        case rel => exact ⟨k + 1, by omega, by go_num, by rw [HS.out]; go_num⟩
        case measure => simp [intOf]; omega
    · generalize sz (xs.take k) = n0
      by_cases hneg : m < 0
      · go_wp2
        go_ret
        exact ⟨rfl, hb2⟩
      by_cases hover : (xs.length : Int) < m
      · go_wp2
        go_ret
        exact ⟨rfl, hb2⟩
      obtain ⟨q, rfl⟩ := Int.eq_ofNat_of_zero_le (Int.not_lt.1 hneg)
      have hq : (q : Int) ≤ xs.length := by omega
      clear hneg hover
      have hb02 := hb2
      clear hb2
      by_cases hn0 : 0 < xs.length
      · by_cases hq0 : q = 0
        · subst hq0
          have hj1 : (jn []).size ≤ 2000000 := by rw [jn_size]; simp [sz]
          have hj2 : (jn xs).size ≤ 2000000 := by rw [jn_size]; omega
          clear hm0 hm1
          go_wp2_with fail
          refine (text7' _ _ _ xs w2 rfl (strs_all _ hlt2 HC2.out) (by omega) (by omega)).mono ?_
          rintro e w3 ⟨rfl, hb3⟩
          have HC3 : Hid (∀ j (h : j < xs.length), w3.cell? ⟨w0.heap.size, j, none⟩ = some (.string xs[j])) := cells_below hb3 hlt2 HC2.out
          have hlt3 : w0.heap.size < w3.heap.size := Nat.lt_of_lt_of_le hlt2 hb3.size
          have hb03 : Below w0.heap.size w0 w3 := hb02.trans (hb3.mono (by omega))
          clear hb3 HC2 hlt2 hb02
          go_wp2_with fail
          refine (text7' _ _ _ [] w3 rfl (strs_take 0 _ hlt3 HC3.out) (by simp) (by simp [sz])).mono ?_
          rintro e w4 ⟨rfl, hb4⟩
          have HC4 : Hid (∀ j (h : j < xs.length), w4.cell? ⟨w0.heap.size, j, none⟩ = some (.string xs[j])) := cells_below hb4 hlt3 HC3.out
          have hlt4 : w0.heap.size < w4.heap.size := Nat.lt_of_lt_of_le hlt3 hb4.size
          have hb04 : Below w0.heap.size w0 w4 := hb03.trans (hb4.mono (by omega))
          clear hb4 HC3 hlt3 hb03
          go_wp2_with fail
          refine (text7' _ _ _ xs w4 rfl (strs_all _ hlt4 HC4.out) (by omega) (by omega)).mono ?_
          rintro e w5 ⟨rfl, hb5⟩
          have HC5 : Hid (∀ j (h : j < xs.length), w5.cell? ⟨w0.heap.size, j, none⟩ = some (.string xs[j])) := cells_below hb5 hlt4 HC4.out
          have hlt5 : w0.heap.size < w5.heap.size := Nat.lt_of_lt_of_le hlt4 hb5.size
          have hb05 : Below w0.heap.size w0 w5 := hb04.trans (hb5.mono (by omega))
          clear hb5 HC4 hlt4 hb04
          have hc5 := HC5.out 0 hn0
          have hx0 := sz_get_le xs 0 hn0
          generalize xs[0] = x0 at hc5 hx0
          go_wp2_with fail
          go_region_with (go_at_call 7; refine (text_one w0.heap.size _ x0 _ (by simpa using hlt5) (by simpa using hc5) (by omega)).mono ?_; rintro e w6 ⟨rfl, hc6, hb6⟩)
          all_goals go_wp2
          all_goals go_ret
          all_goals refine ⟨?_, ?_⟩
          all_goals first | exact hb05.drew.trans (hb6.mono (by simp; omega)) | (simp; done) | rfl
        · by_cases hq1 : q = xs.length
          · subst hq1
            have hj1 : (jn xs).size ≤ 2000000 := by rw [jn_size]; omega
            have hj2 : (jn []).size ≤ 2000000 := by rw [jn_size]; simp [sz]
            have hq0' : ((xs.length : Int) == 0) = false := beq_eq_false_iff_ne.2 (by omega)
            clear hm0 hm1 hq
            go_wp2_with fail
            refine (text7' _ _ _ xs w2 rfl (strs_all _ hlt2 HC2.out) (by omega) (by omega)).mono ?_
            rintro e w3 ⟨rfl, hb3⟩
            have HC3 : Hid (∀ j (h : j < xs.length), w3.cell? ⟨w0.heap.size, j, none⟩ = some (.string xs[j])) := cells_below hb3 hlt2 HC2.out
            have hlt3 : w0.heap.size < w3.heap.size := Nat.lt_of_lt_of_le hlt2 hb3.size
            have hb03 : Below w0.heap.size w0 w3 := hb02.trans (hb3.mono (by omega))
            clear hb3 HC2 hlt2 hb02
            go_wp2_with fail
            refine (text7' _ _ _ xs w3 rfl (strs_all _ hlt3 HC3.out) (by omega) (by omega)).mono ?_
            rintro e w4 ⟨rfl, hb4⟩
            have HC4 : Hid (∀ j (h : j < xs.length), w4.cell? ⟨w0.heap.size, j, none⟩ = some (.string xs[j])) := cells_below hb4 hlt3 HC3.out
            have hlt4 : w0.heap.size < w4.heap.size := Nat.lt_of_lt_of_le hlt3 hb4.size
            have hb04 : Below w0.heap.size w0 w4 := hb03.trans (hb4.mono (by omega))
            clear hb4 HC3 hlt3 hb03
            go_wp2_with fail
            refine (text7' _ _ _ [] w4 rfl (strs_take 0 _ hlt4 HC4.out) (by simp) (by simp [sz])).mono ?_
            rintro e w5 ⟨rfl, hb5⟩
            have HC5 : Hid (∀ j (h : j < xs.length), w5.cell? ⟨w0.heap.size, j, none⟩ = some (.string xs[j])) := cells_below hb5 hlt4 HC4.out
            have hlt5 : w0.heap.size < w5.heap.size := Nat.lt_of_lt_of_le hlt4 hb5.size
            have hb05 : Below w0.heap.size w0 w5 := hb04.trans (hb5.mono (by omega))
            clear hb5 HC4 hlt4 hb04
            have hc5 := HC5.out 0 hn0
            have hx0 := sz_get_le xs 0 hn0
            generalize xs[0] = x0 at hc5 hx0
            go_wp2_with fail
            go_region_with (go_at_call 7; refine (text_one w0.heap.size _ x0 _ (by simpa using hlt5) (by simpa using hc5) (by omega)).mono ?_; rintro e w6 ⟨rfl, hc6, hb6⟩)
            all_goals go_wp2
            all_goals go_ret
            all_goals refine ⟨?_, ?_⟩
            all_goals first | exact hb05.drew.trans (hb6.mono (by simp; omega)) | (simp; done) | rfl
          · have htq := sz_take_le xs q
            have hdq := sz_drop_le xs q
            have hq0' : (0 : Int) < q := by omega
            have hq1' : (q : Int) < xs.length := by omega
            have hE : ((jn xs).toList == (jn (xs.take q) ++ ⟨#[10]⟩ ++ jn (xs.drop q)).toList) = true := by rw [split_eq xs q (by omega) (by omega)]; simp
            have hj1 : (jn (xs.take q)).size ≤ 2000000 := by rw [jn_size, List.length_take]; omega
            have hj2 : (jn (xs.drop q)).size ≤ 2000000 := by rw [jn_size, List.length_drop]; omega
            clear hm0 hm1
            go_wp2_with fail
            refine (text7' _ _ _ xs w2 rfl (strs_all _ hlt2 HC2.out) (by omega) (by omega)).mono ?_
            rintro e w3 ⟨rfl, hb3⟩
            have HC3 : Hid (∀ j (h : j < xs.length), w3.cell? ⟨w0.heap.size, j, none⟩ = some (.string xs[j])) := cells_below hb3 hlt2 HC2.out
            have hlt3 : w0.heap.size < w3.heap.size := Nat.lt_of_lt_of_le hlt2 hb3.size
            have hb03 : Below w0.heap.size w0 w3 := hb02.trans (hb3.mono (by omega))
            clear hb3 HC2 hlt2 hb02
            go_wp2_with fail
            refine (text7' _ _ _ (xs.take q) w3 (by rw [List.length_take]; omega) (strs_take q _ hlt3 HC3.out) (by rw [List.length_take]; omega) (by omega)).mono ?_
            rintro e w4 ⟨rfl, hb4⟩
            have HC4 : Hid (∀ j (h : j < xs.length), w4.cell? ⟨w0.heap.size, j, none⟩ = some (.string xs[j])) := cells_below hb4 hlt3 HC3.out
            have hlt4 : w0.heap.size < w4.heap.size := Nat.lt_of_lt_of_le hlt3 hb4.size
            have hb04 : Below w0.heap.size w0 w4 := hb03.trans (hb4.mono (by omega))
            clear hb4 HC3 hlt3 hb03
            go_wp2_with fail
            refine (text7' _ _ _ (xs.drop q) w4 (by rw [List.length_drop]) (strs_drop q _ hlt4 HC4.out) (by rw [List.length_drop]; omega) (by omega)).mono ?_
            rintro e w5 ⟨rfl, hb5⟩
            have HC5 : Hid (∀ j (h : j < xs.length), w5.cell? ⟨w0.heap.size, j, none⟩ = some (.string xs[j])) := cells_below hb5 hlt4 HC4.out
            have hlt5 : w0.heap.size < w5.heap.size := Nat.lt_of_lt_of_le hlt4 hb5.size
            have hb05 : Below w0.heap.size w0 w5 := hb04.trans (hb5.mono (by omega))
            clear hb5 HC4 hlt4 hb04
            have hc5 := HC5.out 0 hn0
            have hx0 := sz_get_le xs 0 hn0
            generalize xs[0] = x0 at hc5 hx0
            go_wp2_with fail
            go_region_with (go_at_call 7; refine (text_one w0.heap.size _ x0 _ (by simpa using hlt5) (by simpa using hc5) (by omega)).mono ?_; rintro e w6 ⟨rfl, hc6, hb6⟩)
            all_goals go_wp2
            all_goals go_ret
            all_goals refine ⟨?_, ?_⟩
            all_goals first | exact hb05.drew.trans (hb6.mono (by simp; omega)) | (simp; done) | rfl
      · obtain rfl : xs = [] := List.eq_nil_of_length_eq_zero (by omega)
        obtain rfl : q = 0 := by simpa using hq
        clear hm0 hm1 hq HC2
        have hj1 : (jn []).size ≤ 2000000 := by rw [jn_size]; simp [sz]
        go_wp2_with fail
        refine (text7' _ _ _ [] w2 rfl (strs_empty _ hlt2) (by simp) (by simp [sz])).mono ?_
        rintro e w3 ⟨rfl, hb3⟩
        have hlt3 : w0.heap.size < w3.heap.size := Nat.lt_of_lt_of_le hlt2 hb3.size
        have hb03 : Below w0.heap.size w0 w3 := hb02.trans (hb3.mono (by omega))
        clear hb3 hlt2 hb02
        go_wp2_with fail
        refine (text7' _ _ _ [] w3 rfl (strs_empty _ hlt3) (by simp) (by simp [sz])).mono ?_
        rintro e w4 ⟨rfl, hb4⟩
        have hlt4 : w0.heap.size < w4.heap.size := Nat.lt_of_lt_of_le hlt3 hb4.size
        have hb04 : Below w0.heap.size w0 w4 := hb03.trans (hb4.mono (by omega))
        clear hb4 hlt3 hb03
        go_wp2_with fail
        refine (text7' _ _ _ [] w4 rfl (strs_empty _ hlt4) (by simp) (by simp [sz])).mono ?_
        rintro e w5 ⟨rfl, hb5⟩
        have hlt5 : w0.heap.size < w5.heap.size := Nat.lt_of_lt_of_le hlt4 hb5.size
        have hb05 : Below w0.heap.size w0 w5 := hb04.trans (hb5.mono (by omega))
        clear hb5 hlt4 hb04
        go_wp2
        all_goals go_ret
        all_goals exact ⟨ret_bool (by rw [toList_jn]; rfl), hb05⟩
theorem strs_nil (w : World) : Strs w none 0 [] := Or.inl ⟨rfl, rfl, rfl⟩
set_option maxHeartbeats 1000000 in
theorem split3_nil (m : Int) (w : World) (hm0 : -9223372036854775808 ≤ m) (hm1 : m ≤ 9223372036854775807) :
    Calls Try.prog 3 #[.slice none 0 0, .int .i64 m] w fun e w' => e = .returned (.bool true) ∧ Below w.heap.size w w' := by
  have q22 : ∀ (w : World) (a : Option Addr) (n c n' c' : Nat), (binOp .neq 22 (.slice a n c) (.slice none n' c')).run Try.prog w = .ok (.bool (!a.isNone)) w := fun w a n c n' c' => run_neq_slice_nil_any w _ _ a n c n' c' Try.underlying22
  go_enter Try.func3, Try.ntmps3
  go_wp2_with fail
  refine (bytes6_nil none 0 m w).mono ?_
  rintro e w0 ⟨r, rfl, rfl, hr⟩
  cases r
  · go_wp2
    go_ret
    exact ⟨rfl, Below.refl _ _⟩
  clear hr
  go_wp2
  refine wp_loop_rounds 1 ?_
  rw [rounds_succ]
  by_cases hneg : m < 0
  · go_wp2
    go_ret
    exact ⟨rfl, Below.refl _ _⟩
  by_cases hover : 0 < m
  · go_wp2
    go_ret
    exact ⟨rfl, Below.refl _ _⟩
  obtain rfl : m = 0 := by omega
  clear hneg hover hm0 hm1
  have hj1 : (jn []).size ≤ 2000000 := by rw [jn_size]; simp [sz]
  go_wp2_with fail
  refine (text7' none 0 0 [] w0 rfl (strs_nil _) (by simp) (by simp [sz])).mono ?_
  rintro e w3 ⟨rfl, hb3⟩
  go_wp2_with fail
  refine (text7' none 0 0 [] w3 rfl (strs_nil _) (by simp) (by simp [sz])).mono ?_
  rintro e w4 ⟨rfl, hb4⟩
  have hb04 := hb3.trans (hb4.mono hb3.size)
  clear hb3 hb4
  go_wp2_with fail
  refine (text7' none 0 0 [] w4 rfl (strs_nil _) (by simp) (by simp [sz])).mono ?_
  rintro e w5 ⟨rfl, hb5⟩
  have hb05 := hb04.trans (hb5.mono hb04.size)
  clear hb04 hb5
  go_wp2
  all_goals go_ret
  all_goals exact ⟨ret_bool (by rw [toList_jn]; rfl), hb05⟩
end Go.Proofs.Qxb6613022a
