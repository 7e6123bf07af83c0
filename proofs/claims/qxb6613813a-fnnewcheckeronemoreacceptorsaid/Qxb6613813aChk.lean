/-
  The contracts of the checker's small functions: 'Quorum', 'newChecker', the exported makers and readers.
-/
import Derived.Test.Qxb6613813aRows
import Derived.WalkKit
import Derived.ProofKit
import Derived.OpenShut
import Derived.ShutString
import Derived.WalkSpells
namespace Go.Proofs.Qxb6613813a
open Go.ChangeShapes Go.WideShapes Go.ChangeAt Go.RowKit
/-- What 'newChecker' hands back for 'n' acceptors, its map in block 'm'. -/
abbrev chk (n : Int) (m : Nat) : Value := .agg #[.int .i64 (n / 2 + 1), .map (some m), .int .u64 0, .int .u64 0, .string ⟨#[]⟩, .int .i64 0]
def zeroChk : Obj := .cells #[.int .i64 0, .map none, .int .u64 0, .int .u64 0, .string ⟨#[]⟩, .int .i64 0] 29
abbrev objChk (n : Int) (m : Nat) : Obj := .cells #[.int .i64 (n / 2 + 1), .map (some m), .int .u64 0, .int .u64 0, .string ⟨#[]⟩, .int .i64 0] 29
set_option maxHeartbeats 400000 in
theorem quorum_any (n : Int) (w : World) (h0 : 0 ≤ n) (h1 : n ≤ 9223372036854775807) :
    Calls Try.prog 19 #[.int .i64 n] w fun e w' => e = .returned (.int .i64 (n / 2 + 1)) ∧ w' = w := by
  go_enter Try.func19, Try.ntmps19
  go_wp2
  go_ret
  exact ⟨rfl, rfl⟩
set_option maxHeartbeats 400000 in
theorem new17 (n : Int) (w : World) (h0 : 0 ≤ n) (h1 : n ≤ 9223372036854775807) :
    Calls Try.prog 17 #[.int .i64 n] w fun e w' => e = .returned (chk n (w.heap.size + 1)) ∧ w' = (w.alloc (objChk n (w.heap.size + 1))).alloc (.map #[] 0) := by
  have hmm := @run_makeMap Try.prog
  go_enter Try.func17, Try.ntmps17
  go_wp2_with (go_at_call 19; refine (quorum_any _ _ h0 h1).mono ?_; rintro e w' ⟨rfl, rfl⟩)
  exact bodyPost_ret (v := chk n (w.heap.size + 1)) (by simp [results, Try.results17, go_sem, chk]) rfl ⟨rfl, rfl⟩
set_option maxHeartbeats 400000 in
theorem new6 (n : Int) (w : World) (h0 : 0 ≤ n) (h1 : n ≤ 9223372036854775807) :
    Calls Try.prog 6 #[.int .i64 n] w fun e w' => e = .returned (chk n (w.heap.size + 2)) ∧ w' = ((w.alloc (objChk n (w.heap.size + 2))).alloc (objChk n (w.heap.size + 2))).alloc (.map #[] 0) := by
  go_enter Try.func6, Try.ntmps6
  go_wp2_with fail
  refine (new17 _ _ h0 h1).mono ?_
  rintro e w' ⟨rfl, rfl⟩
  simp only [chk, objChk]
  go_wp2
  exact bodyPost_ret (v := chk n (w.heap.size + 2)) (by simp [results, Try.results6, go_sem, chk]) rfl ⟨rfl, rfl⟩
set_option maxHeartbeats 400000 in
theorem accepts_any (n : Int) (m : Nat) (w : World) :
    Calls Try.prog 8 #[chk n m] w fun e w' => e = .returned (.map (some m)) ∧ w' = w.alloc (objChk n m) := by
  unfold chk
  go_enter Try.func8, Try.ntmps8
  go_wp2
  go_ret
  exact ⟨rfl, rfl⟩
set_option maxHeartbeats 400000 in
theorem cquorum_any (n : Int) (m : Nat) (w : World) :
    Calls Try.prog 9 #[chk n m] w fun e w' => e = .returned (.int .i64 (n / 2 + 1)) ∧ w' = w.alloc (objChk n m) := by
  unfold chk
  go_enter Try.func9, Try.ntmps9
  go_wp2
  go_ret
  exact ⟨rfl, rfl⟩
set_option maxHeartbeats 400000 in
theorem fresh_any (m : Nat) (w : World) (hm : w.heap[m]? = some (.map #[] 0)) :
    Calls Try.prog 7 #[.map (some m)] w fun e w' => e = .returned (.bool true) ∧ w' = w := by
  have q22 : ∀ (w : World) (r : Option Nat), (binOp .neq 22 (.map r) (.map none)).run Try.prog w = .ok (.bool (!r.isNone)) w := fun w r => run_neq_map_nil w _ _ _ r Try.underlying22
  have hl : (Builtin.len_ #[22] 3 #[.map (some m)]).run Try.prog w = .ok (.int .i64 0) w := run_len_map w 22 3 m #[] 0 (by kernel_rfl) hm
  go_enter Try.func7, Try.ntmps7
  go_wp2
  go_ret
  exact ⟨rfl, rfl⟩


theorem ret_bool {a b : Bool} (h : a = b) : Ending.returned (.bool a) = .returned (.bool b) := by rw [h]
theorem hget (w : World) (o : Obj) (k : Nat) : (w.alloc o).heap[k]? = if k = w.heap.size then some o else w.heap[k]? := by
  show (w.heap.push o)[k]? = _
  rw [Array.getElem?_push]
end Go.Proofs.Qxb6613813a
