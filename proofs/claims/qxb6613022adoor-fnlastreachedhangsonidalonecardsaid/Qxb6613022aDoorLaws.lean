/-
  The two laws, walked: each returns true, whatever the arguments.
-/
import Derived.Test.Qxb6613022aDoorText
namespace Go.Proofs.Qxb6613022aDoor
open Go.ChangeShapes Go.WideShapes Go.ChangeAt Go.RowKit
/-- The text, the literal, as strings. -/
def T (n : Int) : ByteArray := ⟨(txt n).toArray⟩
theorem T_list (n : Int) : (T n).data.toList = txt n := rfl
theorem T_size (n : Int) : (T n).size = (txt n).length := rfl
theorem toList_T (n : Int) : (T n).toList = txt n := by rw [ByteArray.toList_eq]; rfl
theorem count_big8 (n : Int) (w : World) (h0 : -9223372036854775808 ≤ n) (h1 : n ≤ 9223372036854775807) :
    Calls Tryd.prog 8 #[.string (T n), .string ⟨#[58, 58, 98, 105, 103, 105, 110, 116]⟩] w fun e w' => e = .returned (.int .i64 2) ∧ Below w.heap.size w w' := by
  have hl := txt_le n h0 h1
  refine (count8 (T n) ⟨#[58, 58, 98, 105, 103, 105, 110, 116]⟩ w (by rw [T_size]; omega) (by decide) (by decide)).mono ?_
  rintro e w' ⟨rfl, hb⟩
  have e1 : occ (⟨#[58, 58, 98, 105, 103, 105, 110, 116]⟩ : ByteArray).data.toList (T n).data.toList = 2 := count_cc n
  exact ⟨ret_int (by rw [e1]; rfl), hb⟩
theorem count_lit8 (n : Int) (w : World) (h0 : -9223372036854775808 ≤ n) (h1 : n ≤ 9223372036854775807) (p : ByteArray) (hp : p.data.toList = lit n) :
    Calls Tryd.prog 8 #[.string (T n), .string p] w fun e w' => e = .returned (.int .i64 2) ∧ Below w.heap.size w w' := by
  have hl := txt_le n h0 h1
  have hl2 := lit_le n h0 h1
  have hps : p.size = (lit n).length := by rw [← hp]; rfl
  have hl3 := lit_length n
  refine (count8 (T n) p w (by rw [T_size]; omega) (by omega) (by omega)).mono ?_
  rintro e w' ⟨rfl, hb⟩
  exact ⟨ret_int (by rw [hp, T_list, count_lit]; rfl), hb⟩
theorem lit_str (n : Int) : ((⟨#[40]⟩ : ByteArray) ++ ⟨(Lib.itoa n).toArray⟩ ++ ⟨#[41, 58, 58, 98, 105, 103, 105, 110, 116]⟩).data.toList = lit n := by
  simp only [dt_append]
  rfl
set_option maxHeartbeats 1000000 in
theorem hangs3 (id : Int) (name : ByteArray) (a b c : Int) (s1 s2 s3 s4 : ByteArray) (o : Int) (w : World) (g0 : name.size ≤ 9223372036854775807) (g1 : s1.size ≤ 9223372036854775807) (g2 : s2.size ≤ 9223372036854775807) (g3 : s3.size ≤ 9223372036854775807) (g4 : s4.size ≤ 9223372036854775807)
    (h0 : -9223372036854775808 ≤ id) (h1 : id ≤ 9223372036854775807) (k0 : -9223372036854775808 ≤ o) (k1 : o ≤ 9223372036854775807) (htab : Tab w) :
    Calls Tryd.prog 3 #[.int .i64 id, .string name, .int .i64 a, .int .i64 b, .int .i64 c, .string s1, .string s2, .string s3, .string s4, .int .i64 o] w fun e w' => e = .returned (.bool true) ∧ Below w.heap.size w w' := by
  have H : Hid (Tab w) := htab
  have hsz : (Lib.itoa id).length ≤ 21 := Lib.itoa_length_le id h0 h1
  clear htab
  go_enter Tryd.func3, Tryd.ntmps3
  go_wp2_with fail
  refine (bytes5 id name a b c s1 s2 s3 s4 o w g0 g1 g2 g3 g4).mono ?_
  rintro e w0 ⟨r, rfl, rfl⟩
  cases r
  · go_wp2
    go_ret
    exact ⟨rfl, Below.refl _ _⟩
  by_cases c0 : (65536 : Int) < name.size
  · go_wp2
    go_ret
    exact ⟨rfl, Below.refl _ _⟩
  by_cases c1 : (65536 : Int) < s1.size
  · go_wp2
    go_ret
    exact ⟨rfl, Below.refl _ _⟩
  by_cases c2 : (65536 : Int) < s2.size
  · go_wp2
    go_ret
    exact ⟨rfl, Below.refl _ _⟩
  by_cases c3 : (65536 : Int) < s3.size
  · go_wp2
    go_ret
    exact ⟨rfl, Below.refl _ _⟩
  by_cases c4 : (65536 : Int) < s4.size
  · go_wp2
    go_ret
    exact ⟨rfl, Below.refl _ _⟩
  go_wp2_with fail
  refine (reached6 id name a b c s1 s2 s3 s4 w0 h0 h1 H.out).mono ?_
  rintro e w1 ⟨rfl, hb1⟩
  go_wp2_with fail
  refine (reached6 o ⟨#[]⟩ 0 0 0 ⟨#[]⟩ ⟨#[]⟩ ⟨#[]⟩ ⟨#[]⟩ w1 k0 k1 (H.out.below hb1)).mono ?_
  rintro e w2 ⟨rfl, hb2⟩
  have hb02 := hb1.trans (hb2.mono hb1.size)
  clear hb1 hb2 H
  have hT : (⟨(txt id).toArray⟩ : ByteArray) = T id := rfl
  have hTo : (⟨(txt o).toArray⟩ : ByteArray) = T o := rfl
  rw [hT, hTo]
  clear hT hTo
  have hfin : ((T id).toList == (T o).toList) = (id == o) := by
    rw [toList_T, toList_T]
    by_cases hio : id = o
    · subst hio; simp
    · rw [beq_eq_false_iff_ne.2 hio, beq_eq_false_iff_ne.2 (fun e => hio (txt_inj e))]
  cases hB : (id == o)
  all_goals
    rw [hB] at hfin
    go_wp2_with fail
    refine (itoa7 id w2 h0 h1).mono ?_
    rintro e w3 ⟨rfl, hb3⟩
    have hb03 := hb02.trans (hb3.mono hb02.size)
    clear hb3
    go_wp2_with fail
    refine (count_big8 id w3 h0 h1).mono ?_
    rintro e w4 ⟨rfl, hb4⟩
    have hb04 := hb03.trans (hb4.mono hb03.size)
    clear hb4
    go_wp2_with fail
    refine (count_lit8 id w4 h0 h1 _ (lit_str id)).mono ?_
    rintro e w5 ⟨rfl, hb5⟩
    have hb05 := hb04.trans (hb5.mono hb04.size)
    clear hb5
    go_wp2
    go_ret
    exact ⟨rfl, hb05⟩
theorem T_zero : ((T 0).size ≤ 405) := by
  rw [T_size]; exact txt_le 0 (by decide) (by decide)
theorem T_first (n : Int) (h : 0 < (T n).size) : (T n)[0].toNat = 40 := rfl
theorem rep_T (n : Int) (p : ByteArray) (hp : p.data.toList = lit n) : rep (⟨#[40, 48, 41, 58, 58, 98, 105, 103, 105, 110, 116]⟩ : ByteArray).data.toList p.data.toList 0 (T 0).data.toList = txt n := by
  rw [hp, T_list]; exact rep_txt n
/-- lawReplaceAll at the text of 0. -/
theorem replace_T (n : Int) (w : World) (h0 : -9223372036854775808 ≤ n) (h1 : n ≤ 9223372036854775807) (p : ByteArray) (hp : p.data.toList = lit n) :
    Calls Tryd.prog 11 #[.string (T 0), .string ⟨#[40, 48, 41, 58, 58, 98, 105, 103, 105, 110, 116]⟩, .string p] w fun e w' => e = .returned (.string (T n)) ∧ Below w.heap.size w w' := by
  have hl := txt_le n h0 h1
  have hz := T_zero
  have hr := rep_T n p hp
  refine (replace11 (T 0) ⟨#[40, 48, 41, 58, 58, 98, 105, 103, 105, 110, 116]⟩ p w (by omega) (by decide) (by decide) (by rw [hr]; omega) (by rw [hr]; exact Nat.succ_pos _)).mono ?_
  rintro e w' ⟨rfl, hb⟩
  rw [hr]
  exact ⟨rfl, hb⟩
set_option maxHeartbeats 1000000 in
theorem subst4 (id : Int) (name : ByteArray) (a b c : Int) (s1 s2 s3 s4 : ByteArray) (w : World) (g0 : name.size ≤ 9223372036854775807) (g1 : s1.size ≤ 9223372036854775807) (g2 : s2.size ≤ 9223372036854775807) (g3 : s3.size ≤ 9223372036854775807) (g4 : s4.size ≤ 9223372036854775807)
    (h0 : -9223372036854775808 ≤ id) (h1 : id ≤ 9223372036854775807) (htab : Tab w) :
    Calls Tryd.prog 4 #[.int .i64 id, .string name, .int .i64 a, .int .i64 b, .int .i64 c, .string s1, .string s2, .string s3, .string s4] w fun e w' => e = .returned (.bool true) ∧ Below w.heap.size w w' := by
  have H : Hid (Tab w) := htab
  have hsz : (Lib.itoa id).length ≤ 21 := Lib.itoa_length_le id h0 h1
  clear htab
  go_enter Tryd.func4, Tryd.ntmps4
  go_wp2_with fail
  refine (bytes9 id name a b c s1 s2 s3 s4 w g0 g1 g2 g3 g4).mono ?_
  rintro e w0 ⟨r, rfl, rfl⟩
  cases r
  · go_wp2
    go_ret
    exact ⟨rfl, Below.refl _ _⟩
  by_cases c0 : (65536 : Int) < name.size
  · go_wp2
    go_ret
    exact ⟨rfl, Below.refl _ _⟩
  by_cases c1 : (65536 : Int) < s1.size
  · go_wp2
    go_ret
    exact ⟨rfl, Below.refl _ _⟩
  by_cases c2 : (65536 : Int) < s2.size
  · go_wp2
    go_ret
    exact ⟨rfl, Below.refl _ _⟩
  by_cases c3 : (65536 : Int) < s3.size
  · go_wp2
    go_ret
    exact ⟨rfl, Below.refl _ _⟩
  by_cases c4 : (65536 : Int) < s4.size
  · go_wp2
    go_ret
    exact ⟨rfl, Below.refl _ _⟩
  go_wp2_with fail
  refine (reached6 id name a b c s1 s2 s3 s4 w0 h0 h1 H.out).mono ?_
  rintro e w1 ⟨rfl, hb1⟩
  go_wp2_with fail
  refine (reached6 0 name a b c s1 s2 s3 s4 w1 (by omega) (by omega) (H.out.below hb1)).mono ?_
  rintro e w2 ⟨rfl, hb2⟩
  have hb02 := hb1.trans (hb2.mono hb1.size)
  clear hb1 hb2 H
  have hT : (⟨(txt id).toArray⟩ : ByteArray) = T id := rfl
  have hTo : (⟨(txt 0).toArray⟩ : ByteArray) = T 0 := rfl
  rw [hT, hTo]
  clear hT hTo
  have hl := txt_le id h0 h1
  have hpos : 0 < (T id).size := Nat.succ_pos _
  have HPT : Hid (paren (T id).data.toList 0 = true) := paren_txt id
  have hls : (T id).size ≤ 405 := hl
  go_wp2_with fail
  refine (paren10 (T id) w2 (by omega) hpos (T_first id hpos) HPT.out).mono ?_
  rintro e w3 ⟨rfl, rfl⟩
  clear HPT hl
  go_wp2_with fail
  refine (itoa7 id w3 h0 h1).mono ?_
  rintro e w4 ⟨rfl, hb4⟩
  have hb04 := hb02.trans (hb4.mono hb02.size)
  clear hb4
  go_wp2_with fail
  refine (replace_T id w4 h0 h1 _ (lit_str id)).mono ?_
  rintro e w5 ⟨rfl, hb5⟩
  have hb05 := hb04.trans (hb5.mono hb04.size)
  clear hb5
  go_wp2
  go_ret
  exact ⟨ret_bool (by simp), hb05⟩
end Go.Proofs.Qxb6613022aDoor
