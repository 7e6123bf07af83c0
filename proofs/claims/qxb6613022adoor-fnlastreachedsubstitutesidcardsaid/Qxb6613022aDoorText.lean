/-
  bigintLiteral, lastJob, lastReached, ZZlastReached: the text, byte for byte; and the two 'zzBytes_..' functions, which hand back a bool and leave the world.
-/
import Derived.Test.Qxb6613022aDoorRep
import Derived.Test.Qxb6613022aDoorShelf
import Derived.WalkSmall
namespace Go.Proofs.Qxb6613022aDoor
open Go.ChangeShapes Go.WideShapes Go.ChangeAt Go.RowKit
/-- The table of powers of ten lies as it is laid. -/
def Tab (w : World) : Prop := Lib.TabIs Tryd.prog w tabName .u64 Lib.pow10Tab
theorem Tab.below {w w' : World} (h : Tab w) (hb : Below w.heap.size w w') : Tab w' := by
  unfold Tab Lib.TabIs World.var? at *
  cases hg : Tryd.prog.globalNamed tabName with
  | none => simp [hg] at h
  | some g =>
    simp only [hg, Option.bind_some] at h ⊢
    have hlt : g < w.heap.size := by
      rcases Nat.lt_or_ge g w.heap.size with h' | h'
      · exact h'
      · rw [Array.getElem?_eq_none h'] at h; simp at h
    rw [hb.block g hlt]
    exact h
theorem below_grow (w : World) (k : Nat) (os : Array Obj) : Below w.heap.size w (Sort.grow (w.drewN k) os) :=
  ⟨rfl, rfl, rfl, by simp [Sort.grow], fun j hj => Sort.heap_grow_old (w.drewN k) os hj⟩
theorem dt_mk (l : List UInt8) : (⟨l.toArray⟩ : ByteArray).data.toList = l := rfl
set_option maxHeartbeats 400000 in
theorem bigint15 (n : Int) (w : World) (h0 : -9223372036854775808 ≤ n) (h1 : n ≤ 9223372036854775807) (htab : Tab w) :
    Calls Tryd.prog 15 #[.int .i64 n] w fun e w' => e = .returned (.string ⟨(lit n).toArray⟩) ∧ Below w.heap.size w w' := by
  have hsz : (Lib.itoa n).length ≤ 21 := Lib.itoa_length_le n h0 h1
  have H : Hid (Tab w) := htab
  clear htab
  go_enter Tryd.func15, Tryd.ntmps15
  go_wp2_with fail
  refine (Tryd.strconv_FormatInt_10 n h0 h1 w H.out).mono ?_
  rintro e w1 ⟨rfl, k, os, rfl⟩
  generalize hW : Sort.grow (w.drewN k) os = W
  have hb : Below w.heap.size w W := by rw [← hW]; exact below_grow w k os
  clear hW
  go_wp2
  go_ret
  refine ⟨str_eq ?_, hb⟩
  rw [dt_append, dt_append, dt_mk]
  rfl
theorem lit_le (n : Int) (h0 : -9223372036854775808 ≤ n) (h1 : n ≤ 9223372036854775807) : (lit n).length ≤ 31 := by
  rw [lit_length]
  have := Lib.itoa_length_le n h0 h1
  omega
set_option maxRecDepth 100000 in
theorem job_le (n : Int) (h0 : -9223372036854775808 ≤ n) (h1 : n ≤ 9223372036854775807) : (job n).length ≤ 400 := by
  have := lit_le n h0 h1
  have e : (job n).length = S1.length + S0.length + S2.length + (lit n).length + S3.length + (lit n).length := by
    unfold job
    simp only [List.length_append]
  have e1 : S1.length + S0.length + S2.length = 133 := by decide
  have e2 : S3.length = 133 := by decide
  omega
theorem txt_le (n : Int) (h0 : -9223372036854775808 ≤ n) (h1 : n ≤ 9223372036854775807) : (txt n).length ≤ 405 := by
  have := job_le n h0 h1
  have e : (txt n).length = 1 + (job n).length + S4.length := by
    unfold txt
    simp only [List.length_append, List.length_singleton]
  have e1 : S4.length = 4 := by decide
  omega
/-- A migration, as a value and as a block. -/
abbrev mig (id : Int) (name : ByteArray) (a b c : Int) (s1 s2 s3 s4 : ByteArray) : Value := .agg #[.int .i64 id, .string name, .int .i64 a, .int .i64 b, .int .i64 c, .string s1, .string s2, .string s3, .string s4]
set_option maxHeartbeats 400000 in
theorem job14 (id : Int) (name : ByteArray) (a b c : Int) (s1 s2 s3 s4 : ByteArray) (w : World) (h0 : -9223372036854775808 ≤ id) (h1 : id ≤ 9223372036854775807) (htab : Tab w) :
    Calls Tryd.prog 14 #[mig id name a b c s1 s2 s3 s4, .string ⟨#[109, 97, 120, 95, 118, 97, 108, 117, 101]⟩] w fun e w' => e = .returned (.string ⟨(job id).toArray⟩) ∧ Below w.heap.size w w' := by
  have H : Hid (Tab w) := htab
  have hsz := lit_le id h0 h1
  clear htab
  go_enter Tryd.func14, Tryd.ntmps14
  go_wp2_with fail
  refine (bigint15 id _ h0 h1 (H.out.below ((Below.refl _ _).alloc (Nat.le_refl _) _))).mono ?_
  rintro e w1 ⟨rfl, hb1⟩
  go_wp2
  go_ret
  refine ⟨str_eq ?_, ((Below.refl _ _).alloc (Nat.le_refl _) _).trans (hb1.mono (by simp))⟩
  simp only [dt_append]
  rfl
set_option maxHeartbeats 400000 in
theorem reached12 (id : Int) (name : ByteArray) (a b c : Int) (s1 s2 s3 s4 : ByteArray) (w : World) (h0 : -9223372036854775808 ≤ id) (h1 : id ≤ 9223372036854775807) (htab : Tab w) :
    Calls Tryd.prog 12 #[mig id name a b c s1 s2 s3 s4] w fun e w' => e = .returned (.string ⟨(txt id).toArray⟩) ∧ Below w.heap.size w w' := by
  have H : Hid (Tab w) := htab
  have hsz := job_le id h0 h1
  clear htab
  go_enter Tryd.func12, Tryd.ntmps12
  go_wp2_with fail
  refine (job14 id name a b c s1 s2 s3 s4 _ h0 h1 (H.out.below ((Below.refl _ _).alloc (Nat.le_refl _) _))).mono ?_
  rintro e w1 ⟨rfl, hb1⟩
  go_wp2
  go_ret
  refine ⟨str_eq ?_, ((Below.refl _ _).alloc (Nat.le_refl _) _).trans (hb1.mono (by simp))⟩
  simp only [dt_append]
  rfl
set_option maxHeartbeats 400000 in
theorem reached6 (id : Int) (name : ByteArray) (a b c : Int) (s1 s2 s3 s4 : ByteArray) (w : World) (h0 : -9223372036854775808 ≤ id) (h1 : id ≤ 9223372036854775807) (htab : Tab w) :
    Calls Tryd.prog 6 #[.int .i64 id, .string name, .int .i64 a, .int .i64 b, .int .i64 c, .string s1, .string s2, .string s3, .string s4] w fun e w' => e = .returned (.string ⟨(txt id).toArray⟩) ∧ Below w.heap.size w w' := by
  have H : Hid (Tab w) := htab
  clear htab
  go_enter Tryd.func6, Tryd.ntmps6
  go_wp2_with fail
  refine (reached12 id name a b c s1 s2 s3 s4 _ h0 h1 H.out).mono ?_
  rintro e w1 ⟨rfl, hb1⟩
  go_wp2
  go_ret
  exact ⟨rfl, hb1⟩
/-- Some bool; the world as it was. -/
def SomeBool (w : World) (e : Ending) (w' : World) : Prop := ∃ r : Bool, e = .returned (.bool r) ∧ w' = w
set_option maxHeartbeats 400000 in
theorem bytes5 (id : Int) (name : ByteArray) (a b c : Int) (s1 s2 s3 s4 : ByteArray) (o : Int) (w : World) (g0 : name.size ≤ 9223372036854775807) (g1 : s1.size ≤ 9223372036854775807) (g2 : s2.size ≤ 9223372036854775807) (g3 : s3.size ≤ 9223372036854775807) (g4 : s4.size ≤ 9223372036854775807) :
    Calls Tryd.prog 5 #[.int .i64 id, .string name, .int .i64 a, .int .i64 b, .int .i64 c, .string s1, .string s2, .string s3, .string s4, .int .i64 o] w (SomeBool w) := by
  go_enter Tryd.func5, Tryd.ntmps5
  go_wp2
  all_goals go_ret
  all_goals exact ⟨_, rfl, rfl⟩
set_option maxHeartbeats 400000 in
theorem bytes9 (id : Int) (name : ByteArray) (a b c : Int) (s1 s2 s3 s4 : ByteArray) (w : World) (g0 : name.size ≤ 9223372036854775807) (g1 : s1.size ≤ 9223372036854775807) (g2 : s2.size ≤ 9223372036854775807) (g3 : s3.size ≤ 9223372036854775807) (g4 : s4.size ≤ 9223372036854775807) :
    Calls Tryd.prog 9 #[.int .i64 id, .string name, .int .i64 a, .int .i64 b, .int .i64 c, .string s1, .string s2, .string s3, .string s4] w (SomeBool w) := by
  go_enter Tryd.func9, Tryd.ntmps9
  go_wp2
  all_goals go_ret
  all_goals exact ⟨_, rfl, rfl⟩
end Go.Proofs.Qxb6613022aDoor
