/-
  THE PLAIN PART, with no Go in sight: the text that lastReached writes, as a list of bytes; how often a pattern stands in it; its parentheses; its '(0)::bigint' replaced.
-/
import Derived.Lib.ItoaNum
namespace Go.Proofs.Qxb6613022aDoor

/-! ### The text -/
def S0 : List UInt8 := [109, 97, 120, 95, 118, 97, 108, 117, 101]
def S1 : List UInt8 := [10, 9, 9, 9, 83, 69, 76, 69, 67, 84, 32]
def S2 : List UInt8 := [32, 70, 82, 79, 77, 32, 40, 10, 9, 9, 9, 9, 83, 69, 76, 69, 67, 84, 32, 42, 32, 70, 82, 79, 77, 32, 98, 97, 116, 99, 104, 101, 100, 95, 98, 97, 99, 107, 103, 114, 111, 117, 110, 100, 95, 109, 105, 103, 114, 97, 116, 105, 111, 110, 95, 106, 111, 98, 115, 10, 9, 9, 9, 9, 87, 72, 69, 82, 69, 32, 98, 97, 116, 99, 104, 101, 100, 95, 98, 97, 99, 107, 103, 114, 111, 117, 110, 100, 95, 109, 105, 103, 114, 97, 116, 105, 111, 110, 95, 105, 100, 32, 60, 61, 32, 40, 83, 69, 76, 69, 67, 84, 32]
def S3 : List UInt8 := [41, 10, 9, 9, 9, 9, 79, 82, 68, 69, 82, 32, 66, 89, 32, 98, 97, 116, 99, 104, 101, 100, 95, 98, 97, 99, 107, 103, 114, 111, 117, 110, 100, 95, 109, 105, 103, 114, 97, 116, 105, 111, 110, 95, 105, 100, 32, 68, 69, 83, 67, 44, 32, 109, 97, 120, 95, 118, 97, 108, 117, 101, 32, 68, 69, 83, 67, 10, 9, 9, 9, 9, 76, 73, 77, 73, 84, 32, 49, 10, 9, 9, 9, 41, 32, 108, 97, 115, 116, 10, 9, 9, 9, 87, 72, 69, 82, 69, 32, 98, 97, 116, 99, 104, 101, 100, 95, 98, 97, 99, 107, 103, 114, 111, 117, 110, 100, 95, 109, 105, 103, 114, 97, 116, 105, 111, 110, 95, 105, 100, 32, 61, 32]
def S4 : List UInt8 := [10, 9, 9, 41]
def bigE : List UInt8 := [41, 58, 58, 98, 105, 103, 105, 110, 116]
def U1 : List UInt8 := [10, 9, 9, 9, 83, 69, 76, 69, 67, 84, 32, 109, 97, 120, 95, 118, 97, 108, 117, 101, 32, 70, 82, 79, 77, 32]
def U2 : List UInt8 := [10, 9, 9, 9, 9, 83, 69, 76, 69, 67, 84, 32, 42, 32, 70, 82, 79, 77, 32, 98, 97, 116, 99, 104, 101, 100, 95, 98, 97, 99, 107, 103, 114, 111, 117, 110, 100, 95, 109, 105, 103, 114, 97, 116, 105, 111, 110, 95, 106, 111, 98, 115, 10, 9, 9, 9, 9, 87, 72, 69, 82, 69, 32, 98, 97, 116, 99, 104, 101, 100, 95, 98, 97, 99, 107, 103, 114, 111, 117, 110, 100, 95, 109, 105, 103, 114, 97, 116, 105, 111, 110, 95, 105, 100, 32, 60, 61, 32]
def U3 : List UInt8 := [83, 69, 76, 69, 67, 84, 32]
def V1 : List UInt8 := [10, 9, 9, 9, 9, 79, 82, 68, 69, 82, 32, 66, 89, 32, 98, 97, 116, 99, 104, 101, 100, 95, 98, 97, 99, 107, 103, 114, 111, 117, 110, 100, 95, 109, 105, 103, 114, 97, 116, 105, 111, 110, 95, 105, 100, 32, 68, 69, 83, 67, 44, 32, 109, 97, 120, 95, 118, 97, 108, 117, 101, 32, 68, 69, 83, 67, 10, 9, 9, 9, 9, 76, 73, 77, 73, 84, 32, 49, 10, 9, 9, 9]
def V2 : List UInt8 := [32, 108, 97, 115, 116, 10, 9, 9, 9, 87, 72, 69, 82, 69, 32, 98, 97, 116, 99, 104, 101, 100, 95, 98, 97, 99, 107, 103, 114, 111, 117, 110, 100, 95, 109, 105, 103, 114, 97, 116, 105, 111, 110, 95, 105, 100, 32, 61, 32]

/-- '(<decimal of n>)::bigint'. -/
def lit (n : Int) : List UInt8 := 40 :: (Lib.itoa n ++ bigE)
/-- What lastJob writes for 'max_value'. -/
def job (n : Int) : List UInt8 := S1 ++ S0 ++ S2 ++ lit n ++ S3 ++ lit n
/-- What lastReached writes. -/
def txt (n : Int) : List UInt8 := [40] ++ job n ++ S4
set_option maxRecDepth 100000 in
theorem head_eq : S1 ++ S0 ++ S2 = U1 ++ (40 :: (U2 ++ (40 :: U3))) := rfl
theorem S3_eq : S3 = 41 :: (V1 ++ (41 :: V2)) := rfl
/-- The text, parted at its parentheses. -/
theorem txt_eq (n : Int) : txt n = 40 :: (U1 ++ (40 :: (U2 ++ (40 :: (U3 ++ (lit n ++ (41 :: (V1 ++ (41 :: (V2 ++ (lit n ++ S4))))))))))) := by
  unfold txt job
  rw [head_eq, S3_eq]
  simp only [List.append_assoc, List.cons_append, List.nil_append]

/-! ### The numeral -/
theorem dec_mem (u : Nat) : ∀ c ∈ Lib.decDigits u, 48 ≤ c.toNat ∧ c.toNat ≤ 57 := by
  induction u using Nat.strongRecOn with
  | _ u ih =>
    intro c hc
    rw [Lib.decDigits] at hc
    split at hc
    · simp only [List.mem_singleton] at hc
      subst hc
      simp only [UInt8.toNat_ofNat']
      omega
    · rcases List.mem_append.1 hc with h | h
      · exact ih (u / 10) (by omega) c h
      · simp only [List.mem_singleton] at h
        subst h
        simp only [UInt8.toNat_ofNat']
        omega
theorem itoa_mem (n : Int) : ∀ c ∈ Lib.itoa n, 45 ≤ c.toNat ∧ c.toNat ≤ 57 := by
  intro c hc
  unfold Lib.itoa at hc
  split at hc
  · rcases List.mem_cons.1 hc with rfl | h
    · decide
    · have := dec_mem _ c h; omega
  · have := dec_mem _ c hc; omega
/-- The number that digits write. -/
def val (l : List UInt8) : Nat := l.foldl (fun a c => 10 * a + (c.toNat - 48)) 0
theorem val_snoc (l : List UInt8) (c : UInt8) : val (l ++ [c]) = 10 * val l + (c.toNat - 48) := by simp [val]
theorem val_dec (u : Nat) : val (Lib.decDigits u) = u := by
  induction u using Nat.strongRecOn with
  | _ u ih =>
    rw [Lib.decDigits]
    split
    · simp only [val, List.foldl_cons, List.foldl_nil, UInt8.toNat_ofNat']
      omega
    · rw [val_snoc, ih (u / 10) (by omega)]
      simp only [UInt8.toNat_ofNat']
      omega
theorem dec_ne (u : Nat) : Lib.decDigits u ≠ [] := by
  rw [Lib.decDigits]
  split <;> simp
theorem itoa_ne (n : Int) : Lib.itoa n ≠ [] := by
  unfold Lib.itoa
  split
  · simp
  · exact dec_ne _
theorem dec_no_minus (u : Nat) (t : List UInt8) : Lib.decDigits u ≠ 45 :: t := by
  intro h
  have := dec_mem u 45 (by rw [h]; simp)
  simp at this
theorem itoa_inj {n m : Int} (h : Lib.itoa n = Lib.itoa m) : n = m := by
  unfold Lib.itoa at h
  by_cases h1 : n < 0
  · by_cases h2 : m < 0
    · rw [if_pos h1, if_pos h2] at h
      have h3 : Lib.decDigits n.natAbs = Lib.decDigits m.natAbs := (List.cons.inj h).2
      have := congrArg val h3
      rw [val_dec, val_dec] at this
      omega
    · rw [if_pos h1, if_neg h2] at h
      exact absurd h.symm (dec_no_minus _ _)
  · by_cases h2 : m < 0
    · rw [if_neg h1, if_pos h2] at h
      exact absurd h (dec_no_minus _ _)
    · rw [if_neg h1, if_neg h2] at h
      have := congrArg val h
      rw [val_dec, val_dec] at this
      omega
theorem lit_length (n : Int) : (lit n).length = (Lib.itoa n).length + 10 := by simp [lit, bigE]
theorem txt_length (n : Int) : (txt n).length = 2 * (Lib.itoa n).length + (txt 0).length - 2 * (Lib.itoa 0).length := by
  unfold txt job
  simp only [List.length_append, lit_length]
  omega
theorem txt_inj {n m : Int} (h : txt n = txt m) : n = m := by
  apply itoa_inj
  have hl := congrArg List.length h
  have e : ∀ k : Int, (txt k).length = 1 + (S1.length + S0.length + S2.length + ((Lib.itoa k).length + 10) + S3.length + ((Lib.itoa k).length + 10)) + S4.length := fun k => by
    unfold txt job
    simp only [List.length_append, lit_length, List.length_singleton]
  rw [e, e] at hl
  have hlen : (Lib.itoa n).length = (Lib.itoa m).length := by omega
  unfold txt job lit at h
  simp only [List.append_assoc, List.cons_append, List.nil_append] at h
  have h1 := List.append_cancel_left (List.append_cancel_left (List.append_cancel_left (List.cons.inj h).2))
  exact (List.append_inj (List.cons.inj h1).2 hlen).1

/-! ### How often a pattern stands in a text -/
def occ (p : List UInt8) : List UInt8 → Nat
  | [] => 0
  | c :: t => (if p.isPrefixOf (c :: t) then 1 else 0) + occ p t
theorem occ_skip (h : UInt8) (p : List UInt8) : ∀ (l s : List UInt8), (∀ c ∈ l, c ≠ h) → occ (h :: p) (l ++ s) = occ (h :: p) s
  | [], _, _ => rfl
  | c :: l, s, hl => by
    have hc : (h == c) = false := by
      rw [beq_eq_false_iff_ne]
      intro e
      exact hl c (List.mem_cons_self ..) e.symm
    rw [List.cons_append, occ, List.isPrefixOf_cons_cons, hc, Bool.false_and, if_neg (by simp), Nat.zero_add]
    exact occ_skip h p l s (fun c hc => hl c (List.mem_cons_of_mem _ hc))
theorem occ_hit (h : UInt8) (p s : List UInt8) (hp : ∀ c ∈ p, c ≠ h) : occ (h :: p) (h :: p ++ s) = 1 + occ (h :: p) s := by
  rw [List.cons_append, occ, if_pos (by rw [← List.cons_append]; exact List.isPrefixOf_iff_prefix.2 (List.prefix_append _ _)), occ_skip h p p s hp]
/-- 'h d ..' does not begin at 'h u ..'. -/
theorem occ_other (h d u : UInt8) (p s : List UInt8) (hd : d ≠ u) : occ (h :: d :: p) (h :: u :: s) = occ (h :: d :: p) (u :: s) := by
  have hc : (d == u) = false := beq_eq_false_iff_ne.2 hd
  rw [occ, List.isPrefixOf_cons_cons, List.isPrefixOf_cons_cons, hc, Bool.false_and, Bool.and_false, if_neg (by simp), Nat.zero_add]
/-- '::bigint'. -/
def cc : List UInt8 := [58, 58, 98, 105, 103, 105, 110, 116]
theorem occ_cc (s : List UInt8) : occ cc (cc ++ s) = 1 + occ cc s := by
  show occ (58 :: [58, 98, 105, 103, 105, 110, 116]) (58 :: 58 :: ([98, 105, 103, 105, 110, 116] ++ s)) = _
  rw [occ, if_pos (by simp)]
  have h1 : occ (58 :: [58, 98, 105, 103, 105, 110, 116]) (58 :: ([98, 105, 103, 105, 110, 116] ++ s)) = occ (58 :: [58, 98, 105, 103, 105, 110, 116]) ([98, 105, 103, 105, 110, 116] ++ s) := occ_other 58 58 98 _ _ (by decide)
  rw [h1, occ_skip 58 _ _ _ (by decide)]
  rfl
theorem itoa_no (n : Int) (h : UInt8) (hh : h.toNat < 45 ∨ 57 < h.toNat) : ∀ c ∈ Lib.itoa n, c ≠ h := by
  intro c hc e
  subst e
  have := itoa_mem n c hc
  omega
theorem skip_cc (l s : List UInt8) (hl : ∀ c ∈ l, c ≠ 58) : occ cc (l ++ s) = occ cc s := occ_skip 58 _ l s hl
theorem skip1_cc (c : UInt8) (s : List UInt8) (hc : c ≠ 58) : occ cc (c :: s) = occ cc s := skip_cc [c] s (by intro d hd; rw [List.mem_singleton] at hd; rw [hd]; exact hc)
theorem occ_cc_lit (n : Int) (s : List UInt8) : occ cc (lit n ++ s) = 1 + occ cc s := by
  have e : lit n ++ s = 40 :: (Lib.itoa n ++ (41 :: (cc ++ s))) := by simp [lit, bigE, cc]
  rw [e, skip1_cc _ _ (by decide), skip_cc _ _ (itoa_no n 58 (by decide)), skip1_cc _ _ (by decide), occ_cc]
theorem count_cc (n : Int) : occ cc (txt n) = 2 := by
  rw [txt_eq, skip1_cc _ _ (by decide), skip_cc _ _ (by decide), skip1_cc _ _ (by decide), skip_cc _ _ (by decide), skip1_cc _ _ (by decide), skip_cc _ _ (by decide), occ_cc_lit,
    skip1_cc _ _ (by decide), skip_cc _ _ (by decide), skip1_cc _ _ (by decide), skip_cc _ _ (by decide), occ_cc_lit]
  have : occ cc S4 = 0 := by decide
  rw [this]
theorem bigE_no : ∀ c ∈ bigE, c ≠ 40 := by decide
theorem count_lit (n : Int) : occ (lit n) (txt n) = 2 := by
  obtain ⟨d, D, hD⟩ : ∃ d D, Lib.itoa n = d :: D := by
    cases h : Lib.itoa n with
    | nil => exact absurd h (itoa_ne n)
    | cons d D => exact ⟨d, D, rfl⟩
  have hd := itoa_mem n d (by rw [hD]; simp)
  have hne : ∀ c : UInt8, (c.toNat < 45 ∨ 57 < c.toNat) → d ≠ c := fun c hc e => by subst e; omega
  have hl : lit n = 40 :: d :: (D ++ bigE) := by simp [lit, hD]
  have sk : ∀ l s : List UInt8, (∀ c ∈ l, c ≠ 40) → occ (lit n) (l ++ s) = occ (lit n) s := fun l s h => by rw [hl]; exact occ_skip 40 _ l s h
  have sk1 : ∀ (c : UInt8) (s : List UInt8), c ≠ 40 → occ (lit n) (c :: s) = occ (lit n) s := fun c s h => sk [c] s (by intro x hx; rw [List.mem_singleton] at hx; rw [hx]; exact h)
  have oth : ∀ (u : UInt8) (s : List UInt8), (u.toNat < 45 ∨ 57 < u.toNat) → occ (lit n) (40 :: u :: s) = occ (lit n) (u :: s) := fun u s h => by rw [hl]; exact occ_other 40 d u _ s (hne u h)
  have hit : ∀ s : List UInt8, occ (lit n) (lit n ++ s) = 1 + occ (lit n) s := fun s => by
    rw [hl]
    refine occ_hit 40 (d :: (D ++ bigE)) s ?_
    have h1 := itoa_no n 40 (by decide)
    rw [hD] at h1
    intro c hc
    rw [← List.cons_append] at hc
    rcases List.mem_append.1 hc with h | h
    · exact h1 c h
    · exact bigE_no c h
  have e1 : ∀ s, U1 ++ s = 10 :: (U1.tail ++ s) := fun s => rfl
  have e2 : ∀ s, U2 ++ s = 10 :: (U2.tail ++ s) := fun s => rfl
  have e3 : ∀ s, U3 ++ s = 83 :: (U3.tail ++ s) := fun s => rfl
  rw [txt_eq, e1, oth 10 _ (by decide), ← e1, sk U1 _ (by decide), e2, oth 10 _ (by decide), ← e2, sk U2 _ (by decide), e3, oth 83 _ (by decide), ← e3, sk U3 _ (by decide), hit,
    sk1 _ _ (by decide), sk V1 _ (by decide), sk1 _ _ (by decide), sk V2 _ (by decide), hit]
  have h4 := sk S4 [] (by decide)
  rw [List.append_nil] at h4
  rw [h4]
  rfl
/-- The hits among the first k places. -/
def hits (p l : List UInt8) : Nat → Nat
  | 0 => 0
  | k + 1 => hits p l k + (if p.isPrefixOf (l.drop k) then 1 else 0)
theorem hits_le (p l : List UInt8) : ∀ k, hits p l k ≤ k
  | 0 => Nat.le_refl _
  | k + 1 => by
    rw [hits]
    have := hits_le p l k
    split <;> omega
theorem hits_cons (p t : List UInt8) (c : UInt8) : ∀ k, hits p (c :: t) (k + 1) = (if p.isPrefixOf (c :: t) then 1 else 0) + hits p t k
  | 0 => by simp [hits]
  | k + 1 => by
    rw [hits, hits_cons p t c k, hits, List.drop_succ_cons]
    omega
theorem hits_all (p : List UInt8) : ∀ l : List UInt8, hits p l l.length = occ p l
  | [] => rfl
  | c :: t => by rw [List.length_cons, hits_cons, occ, hits_all p t]
theorem no_hit (p l : List UInt8) (k : Nat) (h : l.length < k + p.length) (hp : p ≠ []) : p.isPrefixOf (l.drop k) = false := by
  rw [Bool.eq_false_iff]
  intro hpre
  have h1 := (List.isPrefixOf_iff_prefix.1 hpre).length_le
  rw [List.length_drop] at h1
  have h2 : 0 < p.length := List.length_pos_iff.2 hp
  omega
theorem hits_stop (p l : List UInt8) (hp : p ≠ []) (k : Nat) (h : l.length < k + p.length) : ∀ j, hits p l (k + j) = hits p l k
  | 0 => rfl
  | j + 1 => by
    rw [← Nat.add_assoc, hits, no_hit p l (k + j) (by omega) hp, hits_stop p l hp k h j]
    rfl
theorem hits_end (p l : List UInt8) (hp : p ≠ []) (k : Nat) (h : l.length < k + p.length) (hk : k ≤ l.length) : hits p l k = occ p l := by
  rw [← hits_all p l, ← hits_stop p l hp k h (l.length - k)]
  congr 1
  omega

/-! ### The parentheses -/
def next (c : UInt8) (d : Nat) : Option Nat := if c == 40 then some (d + 1) else if c == 41 then (if d = 0 then none else some (d - 1)) else some d
/-- The rest, from depth d on: never below 0, at 0 only at the end. -/
def paren : List UInt8 → Nat → Bool
  | [], d => d == 0
  | c :: r, d => match next c d with
    | none => false
    | some d' => if d' == 0 && !r.isEmpty then false else paren r d'
theorem paren_open (r : List UInt8) (d : Nat) : paren (40 :: r) d = paren r (d + 1) := by
  simp [paren, next]
theorem paren_close (r : List UInt8) (d : Nat) (h : 1 ≤ d) : paren (41 :: r) (d + 1) = paren r d := by
  have : ¬ d = 0 := by omega
  simp [paren, next, this]
theorem paren_skip : ∀ (l r : List UInt8) (d : Nat), 1 ≤ d → (∀ c ∈ l, c ≠ 40 ∧ c ≠ 41) → paren (l ++ r) d = paren r d
  | [], _, _, _, _ => rfl
  | c :: l, r, d, hd, hl => by
    have h1 := hl c (List.mem_cons_self ..)
    have h2 : (c == 40) = false := beq_eq_false_iff_ne.2 h1.1
    have h3 : (c == 41) = false := beq_eq_false_iff_ne.2 h1.2
    have h4 : (d == 0) = false := beq_eq_false_iff_ne.2 (by omega)
    rw [List.cons_append, paren]
    simp only [next, h2, h3, Bool.false_eq_true, if_false, h4, Bool.false_and]
    exact paren_skip l r d hd (fun c hc => hl c (List.mem_cons_of_mem _ hc))
theorem paren_lit (n : Int) (r : List UInt8) (d : Nat) (hd : 1 ≤ d) : paren (lit n ++ r) d = paren r d := by
  have e : lit n ++ r = 40 :: (Lib.itoa n ++ (41 :: (cc ++ r))) := by simp [lit, bigE, cc]
  rw [e, paren_open, paren_skip _ _ _ (by omega) (fun c hc => ⟨itoa_no n 40 (by decide) c hc, itoa_no n 41 (by decide) c hc⟩), paren_close _ _ hd, paren_skip _ _ _ hd (by decide)]
theorem paren_txt (n : Int) : paren (txt n) 0 = true := by
  rw [txt_eq, paren_open, paren_skip _ _ _ (by omega) (by decide), paren_open, paren_skip _ _ _ (by omega) (by decide), paren_open, paren_skip _ _ _ (by omega) (by decide), paren_lit _ _ _ (by omega),
    paren_close _ _ (by omega), paren_skip _ _ _ (by omega) (by decide), paren_close _ _ (by omega), paren_skip _ _ _ (by omega) (by decide), paren_lit _ _ _ (by omega)]
  decide

/-! ### Each '(0)::bigint' replaced -/
def old0 : List UInt8 := [40, 48, 41, 58, 58, 98, 105, 103, 105, 110, 116]
/-- Left to right, without overlap; 'k' places are still to be passed over. -/
def rep (old r : List UInt8) : Nat → List UInt8 → List UInt8
  | _, [] => []
  | k + 1, _ :: t => rep old r k t
  | 0, c :: t => if old.isPrefixOf (c :: t) then r ++ rep old r (old.length - 1) t else c :: rep old r 0 t
theorem rep_drop (old r : List UInt8) : ∀ (k : Nat) (t : List UInt8), rep old r k t = rep old r 0 (t.drop k)
  | 0, _ => rfl
  | k + 1, [] => by simp [rep]
  | k + 1, c :: t => by rw [rep, List.drop_succ_cons]; exact rep_drop old r k t
theorem itoa_zero : Lib.itoa 0 = [48] := by
  unfold Lib.itoa
  rw [if_neg (by decide), Lib.decDigits, dif_pos (by decide)]
  rfl
theorem lit_zero : lit 0 = old0 := by unfold lit; rw [itoa_zero]; rfl
theorem rep_skip (r : List UInt8) : ∀ (l s : List UInt8), (∀ c ∈ l, c ≠ 40) → rep old0 r 0 (l ++ s) = l ++ rep old0 r 0 s
  | [], _, _ => rfl
  | c :: l, s, hl => by
    have hc : ((40 : UInt8) == c) = false := beq_eq_false_iff_ne.2 (fun e => hl c (List.mem_cons_self ..) e.symm)
    rw [List.cons_append, rep, old0, List.isPrefixOf_cons_cons, hc, Bool.false_and, if_neg (by simp), List.cons_append]
    exact congrArg (c :: ·) (rep_skip r l s (fun c hc => hl c (List.mem_cons_of_mem _ hc)))
theorem rep_skip1 (r : List UInt8) (c : UInt8) (s : List UInt8) (hc : c ≠ 40) : rep old0 r 0 (c :: s) = c :: rep old0 r 0 s :=
  rep_skip r [c] s (by intro d hd; rw [List.mem_singleton] at hd; rw [hd]; exact hc)
theorem rep_other (r : List UInt8) (u : UInt8) (s : List UInt8) (hu : (48 : UInt8) ≠ u) : rep old0 r 0 (40 :: u :: s) = 40 :: rep old0 r 0 (u :: s) := by
  have hc : ((48 : UInt8) == u) = false := beq_eq_false_iff_ne.2 hu
  rw [rep, old0, List.isPrefixOf_cons_cons, List.isPrefixOf_cons_cons, hc, Bool.false_and, Bool.and_false, if_neg (by simp)]
theorem rep_hit (r s : List UInt8) : rep old0 r 0 (old0 ++ s) = r ++ rep old0 r 0 s := by
  have e : old0 ++ s = 40 :: ([48, 41, 58, 58, 98, 105, 103, 105, 110, 116] ++ s) := rfl
  rw [e, rep, ← e, if_pos (List.isPrefixOf_iff_prefix.2 (List.prefix_append _ _)), rep_drop]
  rfl
theorem rep_txt (n : Int) : rep old0 (lit n) 0 (txt 0) = txt n := by
  have e1 : ∀ s, U1 ++ s = 10 :: (U1.tail ++ s) := fun s => rfl
  have e2 : ∀ s, U2 ++ s = 10 :: (U2.tail ++ s) := fun s => rfl
  have e3 : ∀ s, U3 ++ s = 83 :: (U3.tail ++ s) := fun s => rfl
  rw [txt_eq 0, lit_zero, e1, rep_other _ 10 _ (by decide), ← e1, rep_skip _ U1 _ (by decide), e2, rep_other _ 10 _ (by decide), ← e2, rep_skip _ U2 _ (by decide), e3, rep_other _ 83 _ (by decide), ← e3, rep_skip _ U3 _ (by decide), rep_hit,
    rep_skip1 _ 41 _ (by decide), rep_skip _ V1 _ (by decide), rep_skip1 _ 41 _ (by decide), rep_skip _ V2 _ (by decide), rep_hit]
  have h4 := rep_skip (lit n) S4 [] (by decide)
  rw [List.append_nil] at h4
  rw [h4, txt_eq n]
  simp [rep]
end Go.Proofs.Qxb6613022aDoor
