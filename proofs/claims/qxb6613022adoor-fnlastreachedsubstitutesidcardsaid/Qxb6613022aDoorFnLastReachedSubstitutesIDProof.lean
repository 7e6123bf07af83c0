/-
  The proof of 'Rows.FnLastReachedSubstitutesIDSaid', with its three listed tables as the row's condition; and the tied card.
-/
import Derived.Test.Qxb6613022aDoorRows
import Derived.Test.Qxb6613022aDoorTie
import Derived.Test.Qxb6613022aDoorCards
import Derived.Test.Qxb6613022aDoorLaws
import Derived.ProofKit
import Derived.LaidMore
import Derived.OpenShut
import Derived.ShutString
import Derived.Stop.Joined
import Derived.Stop.LaidErr
import Derived.Lib.LaidTab
import Derived.SevenTiedAt
namespace Go.Proofs.Qxb6613022aDoor.fnLastReachedSubstitutesID
open Go.ChangeShapes Go.WideShapes Go.ChangeAt Go.WideMaps Go.WideElems Go.RowKit
open Go.ChangeMaps (open_string shut_string)

theorem own : ownKnob Tryd.prog.godebug = none := by kernel_rfl
abbrev L : List (String × DataW Unit) := Rows.fnLastReachedSubstitutesIDRow.laid

/-- The door's own heap meets the condition. -/
theorem door_met (os : Os) (args : Array Value) : laidMetH Tryd.prog L ((World.doorLaid Tryd.prog 400 os).forCall (fun _ _ => 0) ⟨#[], args, []⟩).memory :=
  laidMetH_of_parts3 (fuel := 8) (laidMet_of_run' 8 (by kernel_rfl) (by kernel_rfl)) (by kernel_rfl) (by kernel_rfl)

theorem gPow : Tryd.prog.globalNamed tabName = some 0 := by kernel_rfl
/-- What the condition gives the walk: the table of powers of ten. -/
theorem tab_of {W : World} (h : laidMetH Tryd.prog L W) : Tab W := by
  rw [MakeChecks.laidMetH_plain _ _ _ (by kernel_rfl)] at h
  have h2 := laidMet.tail (laidMet.tail h)
  exact Lib.tabIs_of_head (P := Tryd.prog) (W := W) (name := tabName) (k := .u64) (zs := Lib.pow10Tab) (rest := []) (g := 0) (t := 46) (e := 32) (n := 20) gPow (by kernel_rfl) Tryd.underlying46 Tryd.underlying32 (by kernel_rfl) (by kernel_rfl) h2

set_option maxRecDepth 100000 in
theorem lifted (os : Os) (started : os.Started) (H : Type) (enc : TypeId × Value → H) :
    ReturnsInHanded {} Tryd.checked os 4 .any (fun w args => (Rows.fnLastReachedSubstitutesIDSpec.pre enc Tryd.prog Tryd.f4 [] false w args ∧ laidMetH Tryd.prog L w) ∧ sizedMet enc Tryd.prog Tryd.f4 (OpenSpec.ofChange Rows.fnLastReachedSubstitutesIDSpec) false w args)
      (Rows.fnLastReachedSubstitutesIDSpec.post enc Tryd.prog Tryd.f4 false true false false) := by
  refine returnsInHanded_of_change_and (C := Tryd.checked) (X := fun w _ => laidMetH Tryd.prog L w) (fun _ _ _ hh h => h.of_heap hh) own started (by kernel_rfl) Tryd.func4
    (ChangeSpec.witness_shaped (enc := enc) (C := Tryd.checked) (os := os) (X := fun w _ => laidMetH Tryd.prog L w) false (World.doorLaid Tryd.prog 400 os) #[.int .i64 0, .string ⟨#[]⟩, .int .i64 0, .int .i64 0, .int .i64 0, .string ⟨#[]⟩, .string ⟨#[]⟩, .string ⟨#[]⟩, .string ⟨#[]⟩] 8 rfl (World.shaped_of_RefB (by kernel_rfl) (by kernel_rfl)) (by kernel_rfl) (by kernel_rfl) (by kernel_rfl) (door_met os _)) ?_
  intro W base args ds gs before hval0 hW _ _ hL _
  have hval : ∀ (j : Nat) t v, Tryd.f4.params[j]? = some t → args[j]? = some v → Value.okWide Tryd.prog W .any base t v := hval0
  have hW' := hW
  obtain ⟨p, q, hA0, hV, rfl, hfz, hnd⟩ := hW
  have hA : DataW.TrodAll enc Tryd.prog W 0 (fun _ => true) true Tryd.f4.params.toList args.toList ds p := hA0
  rw [Tryd.params4] at hA hval
  obtain ⟨v0, vs0, d0, ds0, p0, q0, hargs, rfl, rfl, h0, r0⟩ := trodAll_cons hA
  obtain ⟨v1, vs1, d1, ds1, p1, q1, rfl, rfl, rfl, h1, r1⟩ := trodAll_cons r0
  obtain ⟨v2, vs2, d2, ds2, p2, q2, rfl, rfl, rfl, h2, r2⟩ := trodAll_cons r1
  obtain ⟨v3, vs3, d3, ds3, p3, q3, rfl, rfl, rfl, h3, r3⟩ := trodAll_cons r2
  obtain ⟨v4, vs4, d4, ds4, p4, q4, rfl, rfl, rfl, h4, r4⟩ := trodAll_cons r3
  obtain ⟨v5, vs5, d5, ds5, p5, q5, rfl, rfl, rfl, h5, r5⟩ := trodAll_cons r4
  obtain ⟨v6, vs6, d6, ds6, p6, q6, rfl, rfl, rfl, h6, r6⟩ := trodAll_cons r5
  obtain ⟨v7, vs7, d7, ds7, p7, q7, rfl, rfl, rfl, h7, r7⟩ := trodAll_cons r6
  obtain ⟨v8, vs8, d8, ds8, p8, q8, rfl, rfl, rfl, h8, r8⟩ := trodAll_cons r7
  obtain ⟨rfl, rfl, rfl⟩ := trodAll_nil r8
  obtain rfl : args = #[v0, v1, v2, v3, v4, v5, v6, v7, v8] := by cases args; simp_all
  obtain ⟨rfl, rfl⟩ := trodVars_none hV
  obtain ⟨id, rfl, rfl, rfl, k0⟩ := open_int Tryd.underlying2 (hval 0 2 v0 rfl rfl) h0
  obtain ⟨name, rfl, rfl, rfl, k1⟩ := open_string Tryd.underlying9 (hval 1 9 v1 rfl rfl) h1
  obtain ⟨a, rfl, rfl, rfl, k2⟩ := open_int Tryd.underlying2 (hval 2 2 v2 rfl rfl) h2
  obtain ⟨b, rfl, rfl, rfl, k3⟩ := open_int Tryd.underlying2 (hval 3 2 v3 rfl rfl) h3
  obtain ⟨c, rfl, rfl, rfl, k4⟩ := open_int Tryd.underlying2 (hval 4 2 v4 rfl rfl) h4
  obtain ⟨s1, rfl, rfl, rfl, k5⟩ := open_string Tryd.underlying9 (hval 5 9 v5 rfl rfl) h5
  obtain ⟨s2, rfl, rfl, rfl, k6⟩ := open_string Tryd.underlying9 (hval 6 9 v6 rfl rfl) h6
  obtain ⟨s3, rfl, rfl, rfl, k7⟩ := open_string Tryd.underlying9 (hval 7 9 v7 rfl rfl) h7
  obtain ⟨s4, rfl, rfl, rfl, k8⟩ := open_string Tryd.underlying9 (hval 8 9 v8 rfl rfl) h8
  have bid := bounds_i64 k0
  have hT := tab_of hL
  clear hA0 hval0
  simp only [List.append_nil] at hW'
  refine (subst4 id name a b c s1 s2 s3 s4 W k1 k5 k6 k7 k8 bid.1 bid.2 hT).mono fun e W' ⟨he, hg⟩ => ?_
  subst he
  exact ⟨_, rfl, _, _, _, [], _, [], hW', trodAll_mk1 (shut_bool Tryd.underlying4 _), (trodAll_cons_mk (shut_int Tryd.underlying2 k0) (trodAll_cons_mk (shut_string Tryd.underlying9 k1) (trodAll_cons_mk (shut_int Tryd.underlying2 k2) (trodAll_cons_mk (shut_int Tryd.underlying2 k3) (trodAll_cons_mk (shut_int Tryd.underlying2 k4) (trodAll_cons_mk (shut_string Tryd.underlying9 k5) (trodAll_cons_mk (shut_string Tryd.underlying9 k6) (trodAll_cons_mk (shut_string Tryd.underlying9 k7) (trodAll_cons_mk (shut_string Tryd.underlying9 k8) trodAll_mk0))))))))), rfl, hg.frame _, fun h => by cases h⟩

theorem over : Rows.FnLastReachedSubstitutesIDSaid :=
  OpenClaim.holds_of_wide 4 Tryd.f4 rfl rfl rfl rfl rfl rfl rfl ⟨rfl, rfl, rfl, rfl, rfl⟩ rfl rfl rfl rfl rfl (by kernel_rfl) Tryd.func4 (by kernel_rfl)
    (of_decide_eq_true (by kernel_rfl)) (by unfold Func.isWrapper; first | (rw [if_pos (by decide +kernel)]; kernel_rfl) | (rw [if_neg (by decide +kernel)]; exact ⟨rfl, rfl⟩))
    (fun os started H enc _ => lifted os started H enc)

/-- THE STATEMENT: the tied card. -/
theorem proved : Rows.FnLastReachedSubstitutesIDCardSaid :=
  Claim7.holds_tied_plain_at .later [] [.data, .data, .data] true Rows.fnLastReachedSubstitutesIDCard.stood.harness false
    over (fun _ h => by cases h) (by kernel_rfl) (fun _ h => by cases h) fnLastReachedSubstitutesID_row_tie rfl ⟨rfl, rfl⟩ (by kernel_rfl) rfl
    (fun f fn hf hfn => by
      obtain rfl : f = 4 := Option.some.inj ((show Tryd.prog.funcNamed Rows.fnLastReachedSubstitutesIDRow.func = some 4 by kernel_rfl).symm.trans hf) |>.symm
      obtain rfl : fn = Tryd.f4 := (Option.some.inj (Tryd.func4.symm.trans hfn)).symm
      exact ⟨by kernel_rfl, fun j t ht => by
        rw [Tryd.params4] at ht
        have hm : t ∈ [2, 9, 2, 2, 2, 9, 9, 9, 9] := by simpa using Array.mem_of_getElem? ht
        have hall : ([2, 9, 2, 2, 2, 9, 9, 9, 9].all fun u => !Tryd.prog.wantsStandIn u) = true := by kernel_rfl
        exact (show Tryd.prog.wantsStandIn t = false by simpa using List.all_eq_true.1 hall t hm)⟩)
    (by kernel_rfl)
end Go.Proofs.Qxb6613022aDoor.fnLastReachedSubstitutesID
