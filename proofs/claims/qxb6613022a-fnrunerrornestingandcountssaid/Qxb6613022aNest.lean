/-
  FnRunErrorNestingAndCounts, walked: it returns true, whatever the messages and the cut.
-/
import Derived.Test.Qxb6613022aSplit
import Derived.Deep.RegionHeld3
namespace Go.Proofs.Qxb6613022a
open Go.ChangeShapes Go.WideShapes Go.ChangeAt Go.RowKit
/-- The newlines of all the strings. -/
def nls (xs : List ByteArray) : Nat := (xs.map (fun x => cnt 10 x.data.toList)).sum
theorem nls_nil : nls [] = 0 := rfl
theorem nls_cons (x : ByteArray) (xs : List ByteArray) : nls (x :: xs) = cnt 10 x.data.toList + nls xs := by simp [nls]
theorem nls_append (xs ys : List ByteArray) : nls (xs ++ ys) = nls xs + nls ys := by simp [nls]
theorem nls_take_succ (xs : List ByteArray) (k : Nat) (h : k < xs.length) : nls (xs.take (k + 1)) = nls (xs.take k) + cnt 10 xs[k].data.toList := by
  rw [List.take_succ_eq_append_getElem h, nls_append, nls_cons, nls_nil, Nat.add_zero]
theorem nls_le : ∀ (xs : List ByteArray), nls xs ≤ sz xs
  | [] => Nat.le_refl _
  | x :: xs => by
    rw [nls_cons, sz_cons]
    have h1 := cnt_le 10 x.data.toList
    have h2 := nls_le xs
    rw [size_toList] at h1; omega
theorem cnt_append (l m : List UInt8) : cnt 10 (l ++ m) = cnt 10 l + cnt 10 m := List.count_append
theorem cnt_jl : ∀ (xs : List ByteArray), cnt 10 (jl xs) = nls xs + (xs.length - 1)
  | [] => rfl
  | [x] => by rw [jl_one, nls_cons, nls_nil]; rfl
  | x :: y :: r => by
    rw [jl_cons2, cnt_append, nls_cons]
    have h := cnt_jl (y :: r)
    have h2 : cnt 10 (10 :: jl (y :: r)) = cnt 10 (jl (y :: r)) + 1 := by simp [cnt]
    rw [h2, h]
    simp only [List.length_cons]; omega
theorem nest_text (a b : ByteArray) : jn [a, b] = a ++ ⟨#[10]⟩ ++ b := by
  rw [app_eq, app_eq]
  show (⟨(jl [a, b]).toArray⟩ : ByteArray) = _
  rw [jl_cons2, jl_one]
  simp
theorem nest_first (xs : List ByteArray) : jn [jn [], jn xs] = ⟨#[10]⟩ ++ jn xs := by
  rw [nest_text, app_eq, app_eq, app_eq]; rfl
theorem nest_last (xs : List ByteArray) : jn [jn xs, jn []] = jn xs ++ ⟨#[10]⟩ := by
  rw [nest_text, app_eq, app_eq]
  show (⟨((jn xs).data.toList ++ [10] ++ []).toArray⟩ : ByteArray) = _
  rw [List.append_nil]
theorem nest_mid (xs : List ByteArray) (q : Nat) (h0 : 0 < q) (h1 : q < xs.length) : jn [jn (xs.take q), jn (xs.drop q)] = jn xs := by
  rw [nest_text]; exact split_eq xs q h0 h1
theorem data_jn (xs : List ByteArray) : (jn xs).data.toList = jl xs := rfl
set_option maxHeartbeats 1000000 in
theorem nest5 (a : Addr) (cap : Nat) (xs : List ByteArray) (m : Int) (w : World) (hx : ∀ j (h : j < xs.length), w.cell? (a.add j) = some (.string xs[j])) (hs : ∀ j (h : j < xs.length), xs[j].size ≤ 9223372036854775807) (hl : xs.length ≤ 9223372036854775807) (hm0 : -9223372036854775808 ≤ m) (hm1 : m ≤ 9223372036854775807) :
    Calls Try.prog 5 #[.slice (some a) xs.length cap, .int .i64 m] w fun e w' => e = .returned (.bool true) ∧ Below w.heap.size w w' := by
  have q22 : ∀ (w : World) (a : Option Addr) (n c n' c' : Nat), (binOp .neq 22 (.slice a n c) (.slice none n' c')).run Try.prog w = .ok (.bool (!a.isNone)) w := fun w a n c n' c' => run_neq_slice_nil_any w _ _ a n c n' c' Try.underlying22
  obtain ⟨i0, hi, hz0, hz1, hz2⟩ := info_parts Try.info9
  have HX : Hid (∀ j (h : j < xs.length), w.cell? (a.add j) = some (.string xs[j])) := hx
  have HSS : Hid (∀ j (h : j < xs.length), xs[j].size ≤ 9223372036854775807) := hs
  clear hx hs
  go_enter Try.func5, Try.ntmps5
  go_wp2_with fail
  refine (bytes11_any a cap xs m w HX.out HSS.out hl).mono ?_
  rintro e w0 ⟨r, rfl, rfl, hr⟩
  cases r
  · go_wp2
    go_ret
    exact ⟨rfl, Below.refl _ _⟩
  have hsum := hr rfl
  clear hr HSS
  by_cases hbig : (65536 : Int) < xs.length
  · go_wp2
    go_ret
    exact ⟨rfl, Below.refl _ _⟩
  have hle : (xs.length : Int) ≤ 65536 := by omega
  clear hbig
  go_wp2_with (at_make; refine wpList_make_full _ rfl (.tmp 24) (.tmp 24) 22 rfl w0.heap.size 9 i0 (.string ⟨#[]⟩) 1 Try.underlying22 hi hz0 hz1 .i64 .i64 xs.length xs.length xs.length rfl rfl rfl rfl (by rw [hz2]; omega) (by unfold maxLen; omega) (Nat.le_refl _) ?_; intro w1 hown hgrow; obtain ⟨w2, hcp, hw2⟩ := copy_run (cap := cap) HX.out ((Below.refl _ _).grown hgrow (Nat.le_refl _) (fun k hk => by cases hk)) hown; clear hown hgrow)
  clear hcp hi hz0 hz1 hz2 HX
  obtain ⟨hb2, hlt2, hc2⟩ := hw2
  have HC2 : Hid (∀ j (h : j < xs.length), w2.cell? ⟨w0.heap.size, j, none⟩ = some (.string xs[j])) := hc2
  clear hc2
  go_loop [6, 7] (fun n i => ∃ k : Nat, k ≤ xs.length ∧ i = .int .i64 k ∧ n = .int .i64 ((16 * k + sz (xs.take k) : Nat) : Int)) (fun _ i => xs.length - (intOf i).toNat)
  case atStart => exact ⟨0, Nat.zero_le _, rfl, rfl⟩
  case round =>
    obtain ⟨k, hk, rfl, rfl⟩ := hrel
    by_cases hlt : k < xs.length
    · have hcell := HC2.out k hlt
      have hsz := sz_get_le xs k hlt
      have hst := sz_take_le xs k
      have HS : Hid (sz (xs.take (k + 1)) = sz (xs.take k) + xs[k].size) := sz_take_succ xs k hlt
      generalize hX : xs[k] = x at hcell hsz HS
      clear hX
      generalize sz (xs.take k) = n0 at HS hst ⊢
      go_wp2
      · go_ret
        exact ⟨rfl, hb2⟩
      · go_round
        case rel => exact ⟨k + 1, by omega, by go_num, by rw [HS.out]; go_num⟩
        case measure => simp [intOf]; omega
    · generalize sz (xs.take k) = n0
      by_cases hneg : m < 0
      · go_wp2
        go_ret
        exact ⟨rfl, hb2⟩
      by_cases hover : (xs.length : Int) < m
      · go_wp2
        go_ret
        exact ⟨rfl, hb2⟩
      obtain ⟨q, rfl⟩ := Int.eq_ofNat_of_zero_le (Int.not_lt.1 hneg)
      have hq : (q : Int) ≤ xs.length := by omega
      clear hneg hover
      have hb02 := hb2
      clear hb2
      by_cases hn0 : 0 < xs.length
      · have hB3 : ((xs.length : Int) == 0) = false := beq_eq_false_iff_ne.2 (by omega)
        have hjz : (jn xs).size ≤ 2000000 := by rw [jn_size]; omega
        by_cases hq0 : q = 0
        · subst hq0
          have hn1 : ¬ xs.length = 0 := by omega
          have hE : ((jn [jn [], jn xs]).toList == ((⟨#[10]⟩ : ByteArray) ++ jn xs).toList) = true := by rw [nest_first]; simp
          clear hm0 hm1
          go_wp2_with fail
          refine (text7' _ _ _ xs w2 rfl (strs_all _ hlt2 HC2.out) (by omega) (by omega)).mono ?_
          rintro e w3 ⟨rfl, hb3⟩
          have HC3 : Hid (∀ j (h : j < xs.length), w3.cell? ⟨w0.heap.size, j, none⟩ = some (.string xs[j])) := cells_below hb3 hlt2 HC2.out
          have hlt3 : w0.heap.size < w3.heap.size := Nat.lt_of_lt_of_le hlt2 hb3.size
          have hb03 : Below w0.heap.size w0 w3 := hb02.trans (hb3.mono (by omega))
          clear hb3 HC2 hlt2 hb02
          go_wp2_with fail
          have HCD : Hid (∀ j (h : j < xs.length), w3.drew.cell? ⟨w0.heap.size, j, none⟩ = some (.string xs[j])) := HC3
          have hb03d : Below w0.heap.size w0 w3.drew := hb03.drew
          have hltd : w0.heap.size < w3.drew.heap.size := hlt3
          have HN1 : Hid (([] : List ByteArray).length = 0) := rfl
          have HN2 : Hid (xs.length = xs.length) := rfl
          have HN3 : Hid (([] : List ByteArray).length ≤ 65536) := by show _ ≤ _; simp
          have HN4 : Hid (xs.length ≤ 65536) := by show _ ≤ _; omega
          have HN5 : Hid (sz ([] : List ByteArray) ≤ 1048576) := by show _ ≤ _; simp [sz]
          have HN6 : Hid (sz xs ≤ 1048576) := by show _ ≤ _; omega
          clear HC3 hb03 hlt3
          go_region_held3 (fun _ => True) (exact True.intro) ((go_at_call 12; refine (nested12 (some ⟨w0.heap.size, 0, none⟩) (some ⟨w0.heap.size, 0, none⟩) xs.length xs.length 0 xs.length ([] : List ByteArray) xs _ (strs_empty _ hltd) (strs_all _ hltd HCD.out) HN1.out HN2.out HN3.out HN4.out HN5.out HN6.out).mono ?_; rintro e w4 ⟨rfl, hb4⟩))
          have HC4 : Hid (∀ j (h : j < xs.length), w4.cell? ⟨w0.heap.size, j, none⟩ = some (.string xs[j])) := cells_below hb4 hltd HCD.out
          have hlt4 : w0.heap.size < w4.heap.size := Nat.lt_of_lt_of_le hltd hb4.size
          have hb04 : Below w0.heap.size w0 w4 := hb03d.trans (hb4.mono (Nat.le_of_lt hltd))
          clear hb4 HCD hltd hb03d HN1 HN2 HN3 HN4 HN5 HN6
          have hns := nls_le xs
          have hjs : (jn xs).size = sz xs + (xs.length - 1) := jn_size xs
          have hjc : cnt 10 (jn xs).data.toList = nls xs + (xs.length - 1) := cnt_jl xs
          have HJS : Hid ((jn xs).size = sz xs + (xs.length - 1)) := hjs
          have HJC : Hid (cnt 10 (jn xs).data.toList = nls xs + (xs.length - 1)) := hjc
          have hjb : (jn xs).size ≤ 100000000 := by omega
          clear hjs hjc
          go_wp2_with fail
          go_loopw [11, 12, 13] (fun s c i wr => ∃ k : Nat, wr = w4 ∧ k ≤ xs.length ∧ i = .int .i64 k ∧ s = .int .i64 ((xs.length : Int) - 1 + (sz (xs.take k) : Nat)) ∧ c = .int .i64 ((xs.length : Int) - 1 + (nls (xs.take k) : Nat))) (fun _ _ i _ => xs.length - (intOf i).toNat)
          case atStart => exact ⟨0, rfl, Nat.zero_le _, rfl, by simp [sz], by simp [nls]⟩
          case round =>
            obtain ⟨k2, rfl, hk2, rfl, rfl, rfl⟩ := hrel
            have hst := sz_take_le xs k2
            have hnt := nls_le (xs.take k2)
            by_cases hlt2 : k2 < xs.length
            · have hcell := HC4.out k2 hlt2
              have hsz := sz_get_le xs k2 hlt2
              have hcn := cnt_le 10 xs[k2].data.toList
              rw [size_toList] at hcn
              have HS : Hid (sz (xs.take (k2 + 1)) = sz (xs.take k2) + xs[k2].size) := sz_take_succ xs k2 hlt2
              have HN : Hid (nls (xs.take (k2 + 1)) = nls (xs.take k2) + cnt 10 xs[k2].data.toList) := nls_take_succ xs k2 hlt2
              generalize hX : xs[k2] = x at hcell hsz HS HN hcn
              clear hX
              generalize sz (xs.take k2) = n0 at HS hst hnt ⊢
              generalize nls (xs.take k2) = c0 at HN hnt ⊢
              go_wp2_with (go_at_call 13; refine (count13 _ _ (by omega)).mono ?_; rintro e w' ⟨rfl, rfl⟩)
              go_roundw
              case rel => exact ⟨k2 + 1, True.intro, by omega, by go_num, by rw [HS.out]; go_num, by rw [HN.out]; go_num⟩
              case measure => simp [intOf]; omega
            · have he : xs.take k2 = xs := List.take_of_length_le (by omega)
              rw [he]
              rw [he] at hst hnt
              have hA : ((jn xs).size : Int) = (xs.length : Int) - 1 + (sz xs : Nat) := by rw [HJS.out]; omega
              have hB : (cnt 10 (jn xs).data.toList : Int) = (xs.length : Int) - 1 + (nls xs : Nat) := by rw [HJC.out]; omega
              have HA1 : (((jn xs).size : Int) == (xs.length : Int) - 1 + (sz xs : Nat)) = true := by rw [hA]; simp
              have HB1 : ((cnt 10 (jn xs).data.toList : Int) == (xs.length : Int) - 1 + (nls xs : Nat)) = true := by rw [hB]; simp
              clear hA hB he
              go_wp2_with (go_at_call 13; refine (count13 _ _ hjb).mono ?_; rintro e w' ⟨rfl, rfl⟩)
              all_goals go_ret
              all_goals exact ⟨rfl, hb04⟩
        · by_cases hq1 : q = xs.length
          · subst hq1
            have hE : ((jn [jn xs, jn []]).toList == (jn xs ++ (⟨#[10]⟩ : ByteArray)).toList) = true := by rw [nest_last]; simp
            have hcc : (0 : Int) ≤ xs.length := by omega
            clear hm0 hm1 hq
            go_wp2_with fail
            refine (text7' _ _ _ xs w2 rfl (strs_all _ hlt2 HC2.out) (by omega) (by omega)).mono ?_
            rintro e w3 ⟨rfl, hb3⟩
            have HC3 : Hid (∀ j (h : j < xs.length), w3.cell? ⟨w0.heap.size, j, none⟩ = some (.string xs[j])) := cells_below hb3 hlt2 HC2.out
            have hlt3 : w0.heap.size < w3.heap.size := Nat.lt_of_lt_of_le hlt2 hb3.size
            have hb03 : Below w0.heap.size w0 w3 := hb02.trans (hb3.mono (by omega))
            clear hb3 HC2 hlt2 hb02
            go_wp2_with fail
            have HCD : Hid (∀ j (h : j < xs.length), w3.drew.cell? ⟨w0.heap.size, j, none⟩ = some (.string xs[j])) := HC3
            have hb03d : Below w0.heap.size w0 w3.drew := hb03.drew
            have hltd : w0.heap.size < w3.drew.heap.size := hlt3
            have HN1 : Hid (xs.length = xs.length) := rfl
            have HN2 : Hid (([] : List ByteArray).length = 0) := rfl
            have HN3 : Hid (xs.length ≤ 65536) := by show _ ≤ _; omega
            have HN4 : Hid (([] : List ByteArray).length ≤ 65536) := by show _ ≤ _; simp
            have HN5 : Hid (sz xs ≤ 1048576) := by show _ ≤ _; omega
            have HN6 : Hid (sz ([] : List ByteArray) ≤ 1048576) := by show _ ≤ _; simp [sz]
            clear HC3 hb03 hlt3
            go_region_held3 (fun _ => True) (exact True.intro) ((go_at_call 12; refine (nested12 (some ⟨w0.heap.size, 0, none⟩) (some ⟨w0.heap.size, 0, none⟩) xs.length 0 xs.length 0 xs ([] : List ByteArray) _ (strs_all _ hltd HCD.out) (strs_empty _ hltd) HN1.out HN2.out HN3.out HN4.out HN5.out HN6.out).mono ?_; rintro e w4 ⟨rfl, hb4⟩))
            have HC4 : Hid (∀ j (h : j < xs.length), w4.cell? ⟨w0.heap.size, j, none⟩ = some (.string xs[j])) := cells_below hb4 hltd HCD.out
            have hlt4 : w0.heap.size < w4.heap.size := Nat.lt_of_lt_of_le hltd hb4.size
            have hb04 : Below w0.heap.size w0 w4 := hb03d.trans (hb4.mono (Nat.le_of_lt hltd))
            clear hb4 HCD hltd hb03d HN1 HN2 HN3 HN4 HN5 HN6
            have hns := nls_le xs
            have hjs : (jn xs).size = sz xs + (xs.length - 1) := jn_size xs
            have hjc : cnt 10 (jn xs).data.toList = nls xs + (xs.length - 1) := cnt_jl xs
            have HJS : Hid ((jn xs).size = sz xs + (xs.length - 1)) := hjs
            have HJC : Hid (cnt 10 (jn xs).data.toList = nls xs + (xs.length - 1)) := hjc
            have hjb : (jn xs).size ≤ 100000000 := by omega
            clear hjs hjc
            go_wp2_with fail
            go_loopw [11, 12, 13] (fun s c i wr => ∃ k : Nat, wr = w4 ∧ k ≤ xs.length ∧ i = .int .i64 k ∧ s = .int .i64 ((xs.length : Int) - 1 + (sz (xs.take k) : Nat)) ∧ c = .int .i64 ((xs.length : Int) - 1 + (nls (xs.take k) : Nat))) (fun _ _ i _ => xs.length - (intOf i).toNat)
            case atStart => exact ⟨0, rfl, Nat.zero_le _, rfl, by simp [sz], by simp [nls]⟩
            case round =>
              obtain ⟨k2, rfl, hk2, rfl, rfl, rfl⟩ := hrel
              have hst := sz_take_le xs k2
              have hnt := nls_le (xs.take k2)
              by_cases hlt2 : k2 < xs.length
              · have hcell := HC4.out k2 hlt2
                have hsz := sz_get_le xs k2 hlt2
                have hcn := cnt_le 10 xs[k2].data.toList
                rw [size_toList] at hcn
                have HS : Hid (sz (xs.take (k2 + 1)) = sz (xs.take k2) + xs[k2].size) := sz_take_succ xs k2 hlt2
                have HN : Hid (nls (xs.take (k2 + 1)) = nls (xs.take k2) + cnt 10 xs[k2].data.toList) := nls_take_succ xs k2 hlt2
                generalize hX : xs[k2] = x at hcell hsz HS HN hcn
                clear hX
                generalize sz (xs.take k2) = n0 at HS hst hnt ⊢
                generalize nls (xs.take k2) = c0 at HN hnt ⊢
                go_wp2_with (go_at_call 13; refine (count13 _ _ (by omega)).mono ?_; rintro e w' ⟨rfl, rfl⟩)
                go_roundw
                case rel => exact ⟨k2 + 1, True.intro, by omega, by go_num, by rw [HS.out]; go_num, by rw [HN.out]; go_num⟩
                case measure => simp [intOf]; omega
              · have he : xs.take k2 = xs := List.take_of_length_le (by omega)
                rw [he]
                rw [he] at hst hnt
                have hA : ((jn xs).size : Int) = (xs.length : Int) - 1 + (sz xs : Nat) := by rw [HJS.out]; omega
                have hB : (cnt 10 (jn xs).data.toList : Int) = (xs.length : Int) - 1 + (nls xs : Nat) := by rw [HJC.out]; omega
                have HA1 : (((jn xs).size : Int) == (xs.length : Int) - 1 + (sz xs : Nat)) = true := by rw [hA]; simp
                have HB1 : ((cnt 10 (jn xs).data.toList : Int) == (xs.length : Int) - 1 + (nls xs : Nat)) = true := by rw [hB]; simp
                clear hA hB he
                go_wp2_with (go_at_call 13; refine (count13 _ _ hjb).mono ?_; rintro e w' ⟨rfl, rfl⟩)
                all_goals go_ret
                all_goals exact ⟨rfl, hb04⟩
          · have htq := sz_take_le xs q
            have hdq := sz_drop_le xs q
            have hq0' : (0 : Int) < q := by omega
            have hq1' : (q : Int) < xs.length := by omega
            have hq2' : (0 : Int) ≤ q := by omega
            have hq3' : ¬ xs.length = q := by omega
            have hB1 : ((q : Int) == 0) = false := beq_eq_false_iff_ne.2 (by omega)
            have hB2 : ((q : Int) == (xs.length : Int)) = false := beq_eq_false_iff_ne.2 (by omega)
            have hE : ((jn [jn (xs.take q), jn (xs.drop q)]).toList == (jn xs).toList) = true := by rw [nest_mid xs q (by omega) (by omega)]; simp
            clear hm0 hm1
            go_wp2_with fail
            refine (text7' _ _ _ xs w2 rfl (strs_all _ hlt2 HC2.out) (by omega) (by omega)).mono ?_
            rintro e w3 ⟨rfl, hb3⟩
            have HC3 : Hid (∀ j (h : j < xs.length), w3.cell? ⟨w0.heap.size, j, none⟩ = some (.string xs[j])) := cells_below hb3 hlt2 HC2.out
            have hlt3 : w0.heap.size < w3.heap.size := Nat.lt_of_lt_of_le hlt2 hb3.size
            have hb03 : Below w0.heap.size w0 w3 := hb02.trans (hb3.mono (by omega))
            clear hb3 HC2 hlt2 hb02
            go_wp2_with fail
            have HCD : Hid (∀ j (h : j < xs.length), w3.drew.cell? ⟨w0.heap.size, j, none⟩ = some (.string xs[j])) := HC3
            have hb03d : Below w0.heap.size w0 w3.drew := hb03.drew
            have hltd : w0.heap.size < w3.drew.heap.size := hlt3
            have HN1 : Hid ((xs.take q).length = q) := by show _ = _; rw [List.length_take]; omega
            have HN2 : Hid ((xs.drop q).length = xs.length - q) := List.length_drop
            have HN3 : Hid ((xs.take q).length ≤ 65536) := by show _ ≤ _; rw [List.length_take]; omega
            have HN4 : Hid ((xs.drop q).length ≤ 65536) := by show _ ≤ _; rw [List.length_drop]; omega
            have HN5 : Hid (sz (xs.take q) ≤ 1048576) := by show _ ≤ _; omega
            have HN6 : Hid (sz (xs.drop q) ≤ 1048576) := by show _ ≤ _; omega
            clear HC3 hb03 hlt3
            go_region_held3 (fun _ => True) (exact True.intro) ((go_at_call 12; refine (nested12 (some ⟨w0.heap.size, 0, none⟩) (some ⟨w0.heap.size, q, none⟩) xs.length (xs.length - q) q (xs.length - q) (xs.take q) (xs.drop q) _ (strs_take q _ hltd HCD.out) (strs_drop q _ hltd HCD.out) HN1.out HN2.out HN3.out HN4.out HN5.out HN6.out).mono ?_; rintro e w4 ⟨rfl, hb4⟩))
            have HC4 : Hid (∀ j (h : j < xs.length), w4.cell? ⟨w0.heap.size, j, none⟩ = some (.string xs[j])) := cells_below hb4 hltd HCD.out
            have hlt4 : w0.heap.size < w4.heap.size := Nat.lt_of_lt_of_le hltd hb4.size
            have hb04 : Below w0.heap.size w0 w4 := hb03d.trans (hb4.mono (Nat.le_of_lt hltd))
            clear hb4 HCD hltd hb03d HN1 HN2 HN3 HN4 HN5 HN6
            have hns := nls_le xs
            have hjs : (jn xs).size = sz xs + (xs.length - 1) := jn_size xs
            have hjc : cnt 10 (jn xs).data.toList = nls xs + (xs.length - 1) := cnt_jl xs
            have HJS : Hid ((jn xs).size = sz xs + (xs.length - 1)) := hjs
            have HJC : Hid (cnt 10 (jn xs).data.toList = nls xs + (xs.length - 1)) := hjc
            have hjb : (jn xs).size ≤ 100000000 := by omega
            clear hjs hjc
            go_wp2_with fail
            go_loopw [11, 12, 13] (fun s c i wr => ∃ k : Nat, wr = w4 ∧ k ≤ xs.length ∧ i = .int .i64 k ∧ s = .int .i64 ((xs.length : Int) - 1 + (sz (xs.take k) : Nat)) ∧ c = .int .i64 ((xs.length : Int) - 1 + (nls (xs.take k) : Nat))) (fun _ _ i _ => xs.length - (intOf i).toNat)
            case atStart => exact ⟨0, rfl, Nat.zero_le _, rfl, by simp [sz], by simp [nls]⟩
            case round =>
              obtain ⟨k2, rfl, hk2, rfl, rfl, rfl⟩ := hrel
              have hst := sz_take_le xs k2
              have hnt := nls_le (xs.take k2)
              by_cases hlt2 : k2 < xs.length
              · have hcell := HC4.out k2 hlt2
                have hsz := sz_get_le xs k2 hlt2
                have hcn := cnt_le 10 xs[k2].data.toList
                rw [size_toList] at hcn
                have HS : Hid (sz (xs.take (k2 + 1)) = sz (xs.take k2) + xs[k2].size) := sz_take_succ xs k2 hlt2
                have HN : Hid (nls (xs.take (k2 + 1)) = nls (xs.take k2) + cnt 10 xs[k2].data.toList) := nls_take_succ xs k2 hlt2
                generalize hX : xs[k2] = x at hcell hsz HS HN hcn
                clear hX
                generalize sz (xs.take k2) = n0 at HS hst hnt ⊢
                generalize nls (xs.take k2) = c0 at HN hnt ⊢
                go_wp2_with (go_at_call 13; refine (count13 _ _ (by omega)).mono ?_; rintro e w' ⟨rfl, rfl⟩)
                go_roundw
                case rel => exact ⟨k2 + 1, True.intro, by omega, by go_num, by rw [HS.out]; go_num, by rw [HN.out]; go_num⟩
                case measure => simp [intOf]; omega
              · have he : xs.take k2 = xs := List.take_of_length_le (by omega)
                rw [he]
                rw [he] at hst hnt
                have hA : ((jn xs).size : Int) = (xs.length : Int) - 1 + (sz xs : Nat) := by rw [HJS.out]; omega
                have hB : (cnt 10 (jn xs).data.toList : Int) = (xs.length : Int) - 1 + (nls xs : Nat) := by rw [HJC.out]; omega
                have HA1 : (((jn xs).size : Int) == (xs.length : Int) - 1 + (sz xs : Nat)) = true := by rw [hA]; simp
                have HB1 : ((cnt 10 (jn xs).data.toList : Int) == (xs.length : Int) - 1 + (nls xs : Nat)) = true := by rw [hB]; simp
                clear hA hB he
                go_wp2_with (go_at_call 13; refine (count13 _ _ hjb).mono ?_; rintro e w' ⟨rfl, rfl⟩)
                all_goals go_ret
                all_goals exact ⟨rfl, hb04⟩
      · obtain rfl : xs = [] := List.eq_nil_of_length_eq_zero (by omega)
        obtain rfl : q = 0 := by simpa using hq
        have hE : ((jn [jn [], jn []]).toList == ((⟨#[10]⟩ : ByteArray) ++ jn []).toList) = true := by rw [nest_first]; simp
        have hjz : (jn []).size ≤ 2000000 := by rw [jn_size]; simp [sz]
        clear hm0 hm1 hq HC2
        go_wp2_with fail
        refine (text7' _ _ _ [] w2 rfl (strs_empty _ hlt2) (by simp) (by simp [sz])).mono ?_
        rintro e w3 ⟨rfl, hb3⟩
        have hltd : w0.heap.size < w3.drew.heap.size := Nat.lt_of_lt_of_le hlt2 hb3.size
        have hb03d : Below w0.heap.size w0 w3.drew := (hb02.trans (hb3.mono (by omega))).drew
        clear hb3 hlt2 hb02
        go_wp2_with fail
        go_region_held3 (fun _ => True) (exact True.intro) ((go_at_call 12; refine (nested12 (some ⟨w0.heap.size, 0, none⟩) (some ⟨w0.heap.size, 0, none⟩) 0 0 0 0 [] [] _ (strs_empty _ hltd) (strs_empty _ hltd) rfl rfl (Nat.zero_le _) (Nat.zero_le _) (Nat.zero_le _) (Nat.zero_le _)).mono ?_; rintro e w4 ⟨rfl, hb4⟩))
        have hb04 : Below w0.heap.size w0 w4 := hb03d.trans (hb4.mono (Nat.le_of_lt hltd))
        clear hb4 hltd hb03d
        go_wp2
        all_goals go_ret
        all_goals exact ⟨ret_bool (by rw [toList_jn]; rfl), hb04⟩
set_option maxHeartbeats 1000000 in
theorem nest5_nil (m : Int) (w : World) (hm0 : -9223372036854775808 ≤ m) (hm1 : m ≤ 9223372036854775807) :
    Calls Try.prog 5 #[.slice none 0 0, .int .i64 m] w fun e w' => e = .returned (.bool true) ∧ Below w.heap.size w w' := by
  have q22 : ∀ (w : World) (a : Option Addr) (n c n' c' : Nat), (binOp .neq 22 (.slice a n c) (.slice none n' c')).run Try.prog w = .ok (.bool (!a.isNone)) w := fun w a n c n' c' => run_neq_slice_nil_any w _ _ a n c n' c' Try.underlying22
  go_enter Try.func5, Try.ntmps5
  go_wp2_with fail
  refine (bytes11_nil none 0 m w).mono ?_
  rintro e w0 ⟨r, rfl, rfl, hr⟩
  cases r
  · go_wp2
    go_ret
    exact ⟨rfl, Below.refl _ _⟩
  clear hr
  go_wp2
  refine wp_loop_rounds 1 ?_
  rw [rounds_succ]
  by_cases hneg : m < 0
  · go_wp2
    go_ret
    exact ⟨rfl, Below.refl _ _⟩
  by_cases hover : 0 < m
  · go_wp2
    go_ret
    exact ⟨rfl, Below.refl _ _⟩
  obtain rfl : m = 0 := by omega
  clear hneg hover hm0 hm1
  have hE : ((jn [jn [], jn []]).toList == ((⟨#[10]⟩ : ByteArray) ++ jn []).toList) = true := by rw [nest_first]; simp
  have hjz : (jn []).size ≤ 2000000 := by rw [jn_size]; simp [sz]
  go_wp2_with fail
  refine (text7' none 0 0 [] w0 rfl (strs_nil _) (by simp) (by simp [sz])).mono ?_
  rintro e w3 ⟨rfl, hb3⟩
  have hb03d : Below w0.heap.size w0 w3.drew := hb3.drew
  clear hb3
  go_wp2_with fail
  go_region_held3 (fun _ => True) (exact True.intro) ((go_at_call 12; refine (nested12 none none 0 0 0 0 [] [] _ (strs_nil _) (strs_nil _) rfl rfl (Nat.zero_le _) (Nat.zero_le _) (Nat.zero_le _) (Nat.zero_le _)).mono ?_; rintro e w4 ⟨rfl, hb4⟩))
  have hb04 : Below w0.heap.size w0 w4 := hb03d.trans (hb4.mono hb03d.size)
  clear hb4 hb03d
  go_wp2
  all_goals go_ret
  all_goals exact ⟨ret_bool (by rw [toList_jn]; rfl), hb04⟩
end Go.Proofs.Qxb6613022a
