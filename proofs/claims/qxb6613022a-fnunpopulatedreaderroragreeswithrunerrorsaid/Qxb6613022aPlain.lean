/-
  THE PLAIN PART, with no Go in sight: lists of byte strings, their lengths, their join by a newline.
-/
import Derived.Lib.Join
namespace Go.Proofs.Qxb6613022a

/-- The sum of the strings' lengths. -/
def sz (xs : List ByteArray) : Nat := (xs.map (·.size)).sum
theorem sz_nil : sz [] = 0 := rfl
theorem sz_cons (x : ByteArray) (xs : List ByteArray) : sz (x :: xs) = x.size + sz xs := by simp [sz]
theorem sz_append (xs ys : List ByteArray) : sz (xs ++ ys) = sz xs + sz ys := by simp [sz]
theorem sz_take_succ (xs : List ByteArray) (k : Nat) (h : k < xs.length) : sz (xs.take (k + 1)) = sz (xs.take k) + xs[k].size := by
  rw [List.take_succ_eq_append_getElem h, sz_append, sz_cons, sz_nil, Nat.add_zero]
theorem sz_take_le (xs : List ByteArray) (k : Nat) : sz (xs.take k) ≤ sz xs := by
  have h := sz_append (xs.take k) (xs.drop k)
  rw [List.take_append_drop] at h; omega
theorem sz_drop_le (xs : List ByteArray) (k : Nat) : sz (xs.drop k) ≤ sz xs := by
  have h := sz_append (xs.take k) (xs.drop k)
  rw [List.take_append_drop] at h; omega
theorem sz_get_le (xs : List ByteArray) (k : Nat) (h : k < xs.length) : xs[k].size ≤ sz xs := by
  have h1 := sz_take_succ xs k h
  have h2 := sz_take_le xs (k + 1)
  omega

/-- The strings joined by a newline, as bytes and as a string. -/
def jl (xs : List ByteArray) : List UInt8 := Lib.join (xs.map (·.data.toList)) [10]
def jn (xs : List ByteArray) : ByteArray := ⟨(jl xs).toArray⟩

theorem jl_nil : jl [] = [] := rfl
theorem jl_one (x : ByteArray) : jl [x] = x.data.toList := Lib.join_one _ _
theorem jl_cons2 (x y : ByteArray) (r : List ByteArray) : jl (x :: y :: r) = x.data.toList ++ 10 :: jl (y :: r) := by
  simp only [jl, List.map_cons, Lib.join_cons, Lib.joinTail, List.flatten_cons, List.cons_append, List.nil_append]
theorem size_toList (x : ByteArray) : x.data.toList.length = x.size := rfl
theorem jl_length : ∀ (xs : List ByteArray), (jl xs).length = sz xs + (xs.length - 1)
  | [] => rfl
  | [x] => by rw [jl_one, size_toList]; simp [sz]
  | x :: y :: r => by
    rw [jl_cons2, List.length_append, List.length_cons, jl_length (y :: r), size_toList, sz_cons x]
    simp only [List.length_cons]; omega
theorem jl_append : ∀ (xs ys : List ByteArray), xs ≠ [] → ys ≠ [] → jl (xs ++ ys) = jl xs ++ 10 :: jl ys
  | [], _, h, _ => absurd rfl h
  | _, [], _, h => absurd rfl h
  | [x], y :: r, _, _ => by rw [List.singleton_append, jl_cons2, jl_one]
  | x :: x2 :: xs, y :: r, _, h => by
    rw [List.cons_append, List.cons_append, jl_cons2, jl_cons2, ← List.cons_append, jl_append (x2 :: xs) (y :: r) (by simp) h]
    simp
theorem jl_split (xs : List ByteArray) (k : Nat) (h0 : 0 < k) (h1 : k < xs.length) : jl xs = jl (xs.take k) ++ 10 :: jl (xs.drop k) := by
  have h := jl_append (xs.take k) (xs.drop k) (by intro e; have := congrArg List.length e; rw [List.length_take, List.length_nil] at this; omega) (by intro e; have := congrArg List.length e; rw [List.length_drop, List.length_nil] at this; omega)
  rwa [List.take_append_drop] at h
end Go.Proofs.Qxb6613022a
