/-
  THE SHELL OF A PROOF OF 'Rows.FnMeterOverThresholdSaid' ('example.com/marga/marga/zzlaws_root_b1.FnMeterOverThreshold'), WRITTEN BY PROGRAM (proof-skeleton.mjs) off the guide's own print for that function. Not trusted: Lean checks it.
  The hole is filled: the walk goes over the contracts of Qxb6616858aMeter.
-/
import Derived.Test.Qxb6616858aRows
import Derived.WalkKit
import Derived.ProofKit
import Derived.OpenShut
import Derived.ShutString
import Derived.Test.Qxb6616858aMeter
namespace Go.Proofs.Qxb6616858a.fnMeterOverThreshold
open Go.ChangeShapes Go.WideShapes Go.ChangeAt Go.RowKit
open Go.ChangeMaps (open_string shut_string)
set_option linter.unusedVariables false      -- a walk need not use every 'w<i>' (that an integer argument fits its kind)

theorem own : ownKnob Try.prog.godebug = none := by kernel_rfl

/-- What 'open_int' hands over of a uint64, as bounds. -/
theorem wf_u64 {x : Int} (h : (Lit.int .u64 x).wf = true) : 0 ≤ x ∧ x < 18446744073709551616 := by
  simp [Lit.wf, IntKind.min, IntKind.max, IntKind.signed, IntKind.bits] at h
  exact ⟨by omega, by omega⟩

/-! ### STEP 1: THE WALK: the Go text returns true. 'Grown w w'': the world has at most new blocks (Derived/RowKit3.lean). Part the cases AHEAD of 'go_enter' where a test parts the walk; take each callee by a contract of your own. -/
theorem walk (a0 : Int) (a1 : Int) (a2 : Int) (w0 : (Lit.int .u64 a0).wf = true) (w1 : (Lit.int .u64 a1).wf = true) (w2 : (Lit.int .u64 a2).wf = true) (w : World) :
    Calls Try.prog 4 #[.int .u64 a0, .int .u64 a1, .int .u64 a2] w fun e w' => e = .returned (.bool true) ∧ Grown w w' := by
  obtain ⟨l0, u0⟩ := wf_u64 w0
  obtain ⟨l1, u1⟩ := wf_u64 w1
  obtain ⟨l2, u2⟩ := wf_u64 w2
  by_cases hm : a0 = 18446744073709551615
  · subst hm
    go_enter Try.func4, Try.ntmps4
    go_wp2
    go_ret
    exact ⟨rfl, Grown.refl _⟩
  have m0 : (a0 == 18446744073709551615) = false := beq_eq_false_iff_ne.2 hm
  have m2 : decide (a0 < a0) = false := decide_eq_false (by omega)
  have m1 : decide (a0 < a0 + 1) = true := decide_eq_true (by omega)
  have hb : a0 + 1 < 18446744073709551616 := by omega
  clear hm w0 w1 w2
  by_cases hs : a2 < a1
  · have s1 : decide (a2 < a1) = true := decide_eq_true hs
    by_cases hc : a0 + 1 < a2
    · have d1 : decide (a0 < a2) = true := decide_eq_true (by omega)
      have d2 : decide (a0 < a1) = true := decide_eq_true (by omega)
      have d3 : decide (a0 + 1 < a2) = true := decide_eq_true (by omega)
      go_enter Try.func4, Try.ntmps4
      go_wp2_with fail
      refine (newMeter_any _ _ _).mono ?_
      rintro e v1 ⟨p1, rfl, hu1, hg1, G1⟩
      go_wp2_with fail
      refine (zzover_any p1 _ _ _ hu1 hg1).mono ?_
      rintro e w1 ⟨rfl, H1⟩
      clear hu1 hg1
      go_wp2_with fail
      refine (newMeter_any _ _ _).mono ?_
      rintro e v2 ⟨p2, rfl, hu2, hg2, G2⟩
      go_wp2_with fail
      refine (zzover_any p2 _ _ _ hu2 hg2).mono ?_
      rintro e w2 ⟨rfl, H2⟩
      clear hu2 hg2
      go_wp2_with fail
      refine (newMeter_any _ _ _).mono ?_
      rintro e v3 ⟨p3, rfl, hu3, hg3, G3⟩
      go_wp2_with fail
      refine (zzover_any p3 _ _ _ hu3 hg3).mono ?_
      rintro e w3 ⟨rfl, H3⟩
      clear hu3 hg3
      go_wp2_with fail
      refine (newMeter_any _ _ _).mono ?_
      rintro e v4 ⟨p4, rfl, hu4, hg4, G4⟩
      go_wp2_with fail
      refine (zzover_any p4 _ _ _ hu4 hg4).mono ?_
      rintro e w4 ⟨rfl, H4⟩
      clear hu4 hg4
      go_wp2_with fail
      refine (newMeter_any _ _ _).mono ?_
      rintro e v5 ⟨p5, rfl, hu5, hg5, G5⟩
      go_wp2_with fail
      refine (zzover_any p5 _ _ _ hu5 hg5).mono ?_
      rintro e w5 ⟨rfl, H5⟩
      clear hu5 hg5
      go_wp2
      go_ret
      exact ⟨rfl, grown_trans (grown_trans (grown_trans (grown_trans (grown_trans G1 H1) (grown_trans G2 H2)) (grown_trans G3 H3)) (grown_trans G4 H4)) (grown_trans G5 H5)⟩
    by_cases hc : a0 < a2
    · have d1 : decide (a0 < a2) = true := decide_eq_true (by omega)
      have d2 : decide (a0 < a1) = true := decide_eq_true (by omega)
      have d3 : decide (a0 + 1 < a2) = false := decide_eq_false (by omega)
      go_enter Try.func4, Try.ntmps4
      go_wp2_with fail
      refine (newMeter_any _ _ _).mono ?_
      rintro e v1 ⟨p1, rfl, hu1, hg1, G1⟩
      go_wp2_with fail
      refine (zzover_any p1 _ _ _ hu1 hg1).mono ?_
      rintro e w1 ⟨rfl, H1⟩
      clear hu1 hg1
      go_wp2_with fail
      refine (newMeter_any _ _ _).mono ?_
      rintro e v2 ⟨p2, rfl, hu2, hg2, G2⟩
      go_wp2_with fail
      refine (zzover_any p2 _ _ _ hu2 hg2).mono ?_
      rintro e w2 ⟨rfl, H2⟩
      clear hu2 hg2
      go_wp2_with fail
      refine (newMeter_any _ _ _).mono ?_
      rintro e v3 ⟨p3, rfl, hu3, hg3, G3⟩
      go_wp2_with fail
      refine (zzover_any p3 _ _ _ hu3 hg3).mono ?_
      rintro e w3 ⟨rfl, H3⟩
      clear hu3 hg3
      go_wp2_with fail
      refine (newMeter_any _ _ _).mono ?_
      rintro e v4 ⟨p4, rfl, hu4, hg4, G4⟩
      go_wp2_with fail
      refine (zzover_any p4 _ _ _ hu4 hg4).mono ?_
      rintro e w4 ⟨rfl, H4⟩
      clear hu4 hg4
      go_wp2_with fail
      refine (newMeter_any _ _ _).mono ?_
      rintro e v5 ⟨p5, rfl, hu5, hg5, G5⟩
      go_wp2_with fail
      refine (zzover_any p5 _ _ _ hu5 hg5).mono ?_
      rintro e w5 ⟨rfl, H5⟩
      clear hu5 hg5
      go_wp2
      go_ret
      exact ⟨rfl, grown_trans (grown_trans (grown_trans (grown_trans (grown_trans G1 H1) (grown_trans G2 H2)) (grown_trans G3 H3)) (grown_trans G4 H4)) (grown_trans G5 H5)⟩
    by_cases hc : a0 < a1
    · have d1 : decide (a0 < a2) = false := decide_eq_false (by omega)
      have d2 : decide (a0 < a1) = true := decide_eq_true (by omega)
      have d3 : decide (a0 + 1 < a2) = false := decide_eq_false (by omega)
      go_enter Try.func4, Try.ntmps4
      go_wp2_with fail
      refine (newMeter_any _ _ _).mono ?_
      rintro e v1 ⟨p1, rfl, hu1, hg1, G1⟩
      go_wp2_with fail
      refine (zzover_any p1 _ _ _ hu1 hg1).mono ?_
      rintro e w1 ⟨rfl, H1⟩
      clear hu1 hg1
      go_wp2_with fail
      refine (newMeter_any _ _ _).mono ?_
      rintro e v2 ⟨p2, rfl, hu2, hg2, G2⟩
      go_wp2_with fail
      refine (zzover_any p2 _ _ _ hu2 hg2).mono ?_
      rintro e w2 ⟨rfl, H2⟩
      clear hu2 hg2
      go_wp2_with fail
      refine (newMeter_any _ _ _).mono ?_
      rintro e v3 ⟨p3, rfl, hu3, hg3, G3⟩
      go_wp2_with fail
      refine (zzover_any p3 _ _ _ hu3 hg3).mono ?_
      rintro e w3 ⟨rfl, H3⟩
      clear hu3 hg3
      go_wp2_with fail
      refine (newMeter_any _ _ _).mono ?_
      rintro e v4 ⟨p4, rfl, hu4, hg4, G4⟩
      go_wp2_with fail
      refine (zzover_any p4 _ _ _ hu4 hg4).mono ?_
      rintro e w4 ⟨rfl, H4⟩
      clear hu4 hg4
      go_wp2_with fail
      refine (newMeter_any _ _ _).mono ?_
      rintro e v5 ⟨p5, rfl, hu5, hg5, G5⟩
      go_wp2_with fail
      refine (zzover_any p5 _ _ _ hu5 hg5).mono ?_
      rintro e w5 ⟨rfl, H5⟩
      clear hu5 hg5
      go_wp2
      go_ret
      exact ⟨rfl, grown_trans (grown_trans (grown_trans (grown_trans (grown_trans G1 H1) (grown_trans G2 H2)) (grown_trans G3 H3)) (grown_trans G4 H4)) (grown_trans G5 H5)⟩
    · have d1 : decide (a0 < a2) = false := decide_eq_false (by omega)
      have d2 : decide (a0 < a1) = false := decide_eq_false (by omega)
      have d3 : decide (a0 + 1 < a2) = false := decide_eq_false (by omega)
      go_enter Try.func4, Try.ntmps4
      go_wp2_with fail
      refine (newMeter_any _ _ _).mono ?_
      rintro e v1 ⟨p1, rfl, hu1, hg1, G1⟩
      go_wp2_with fail
      refine (zzover_any p1 _ _ _ hu1 hg1).mono ?_
      rintro e w1 ⟨rfl, H1⟩
      clear hu1 hg1
      go_wp2_with fail
      refine (newMeter_any _ _ _).mono ?_
      rintro e v2 ⟨p2, rfl, hu2, hg2, G2⟩
      go_wp2_with fail
      refine (zzover_any p2 _ _ _ hu2 hg2).mono ?_
      rintro e w2 ⟨rfl, H2⟩
      clear hu2 hg2
      go_wp2_with fail
      refine (newMeter_any _ _ _).mono ?_
      rintro e v3 ⟨p3, rfl, hu3, hg3, G3⟩
      go_wp2_with fail
      refine (zzover_any p3 _ _ _ hu3 hg3).mono ?_
      rintro e w3 ⟨rfl, H3⟩
      clear hu3 hg3
      go_wp2_with fail
      refine (newMeter_any _ _ _).mono ?_
      rintro e v4 ⟨p4, rfl, hu4, hg4, G4⟩
      go_wp2_with fail
      refine (zzover_any p4 _ _ _ hu4 hg4).mono ?_
      rintro e w4 ⟨rfl, H4⟩
      clear hu4 hg4
      go_wp2_with fail
      refine (newMeter_any _ _ _).mono ?_
      rintro e v5 ⟨p5, rfl, hu5, hg5, G5⟩
      go_wp2_with fail
      refine (zzover_any p5 _ _ _ hu5 hg5).mono ?_
      rintro e w5 ⟨rfl, H5⟩
      clear hu5 hg5
      go_wp2
      go_ret
      exact ⟨rfl, grown_trans (grown_trans (grown_trans (grown_trans (grown_trans G1 H1) (grown_trans G2 H2)) (grown_trans G3 H3)) (grown_trans G4 H4)) (grown_trans G5 H5)⟩
  · have s1 : decide (a2 < a1) = false := decide_eq_false hs
    by_cases hc : a0 + 1 < a1
    · have d1 : decide (a0 < a1) = true := decide_eq_true (by omega)
      have d2 : decide (a0 < a2) = true := decide_eq_true (by omega)
      have d3 : decide (a0 + 1 < a1) = true := decide_eq_true (by omega)
      go_enter Try.func4, Try.ntmps4
      go_wp2_with fail
      refine (newMeter_any _ _ _).mono ?_
      rintro e v1 ⟨p1, rfl, hu1, hg1, G1⟩
      go_wp2_with fail
      refine (zzover_any p1 _ _ _ hu1 hg1).mono ?_
      rintro e w1 ⟨rfl, H1⟩
      clear hu1 hg1
      go_wp2_with fail
      refine (newMeter_any _ _ _).mono ?_
      rintro e v2 ⟨p2, rfl, hu2, hg2, G2⟩
      go_wp2_with fail
      refine (zzover_any p2 _ _ _ hu2 hg2).mono ?_
      rintro e w2 ⟨rfl, H2⟩
      clear hu2 hg2
      go_wp2_with fail
      refine (newMeter_any _ _ _).mono ?_
      rintro e v3 ⟨p3, rfl, hu3, hg3, G3⟩
      go_wp2_with fail
      refine (zzover_any p3 _ _ _ hu3 hg3).mono ?_
      rintro e w3 ⟨rfl, H3⟩
      clear hu3 hg3
      go_wp2_with fail
      refine (newMeter_any _ _ _).mono ?_
      rintro e v4 ⟨p4, rfl, hu4, hg4, G4⟩
      go_wp2_with fail
      refine (zzover_any p4 _ _ _ hu4 hg4).mono ?_
      rintro e w4 ⟨rfl, H4⟩
      clear hu4 hg4
      go_wp2_with fail
      refine (newMeter_any _ _ _).mono ?_
      rintro e v5 ⟨p5, rfl, hu5, hg5, G5⟩
      go_wp2_with fail
      refine (zzover_any p5 _ _ _ hu5 hg5).mono ?_
      rintro e w5 ⟨rfl, H5⟩
      clear hu5 hg5
      go_wp2
      go_ret
      exact ⟨rfl, grown_trans (grown_trans (grown_trans (grown_trans (grown_trans G1 H1) (grown_trans G2 H2)) (grown_trans G3 H3)) (grown_trans G4 H4)) (grown_trans G5 H5)⟩
    by_cases hc : a0 < a1
    · have d1 : decide (a0 < a1) = true := decide_eq_true (by omega)
      have d2 : decide (a0 < a2) = true := decide_eq_true (by omega)
      have d3 : decide (a0 + 1 < a1) = false := decide_eq_false (by omega)
      go_enter Try.func4, Try.ntmps4
      go_wp2_with fail
      refine (newMeter_any _ _ _).mono ?_
      rintro e v1 ⟨p1, rfl, hu1, hg1, G1⟩
      go_wp2_with fail
      refine (zzover_any p1 _ _ _ hu1 hg1).mono ?_
      rintro e w1 ⟨rfl, H1⟩
      clear hu1 hg1
      go_wp2_with fail
      refine (newMeter_any _ _ _).mono ?_
      rintro e v2 ⟨p2, rfl, hu2, hg2, G2⟩
      go_wp2_with fail
      refine (zzover_any p2 _ _ _ hu2 hg2).mono ?_
      rintro e w2 ⟨rfl, H2⟩
      clear hu2 hg2
      go_wp2_with fail
      refine (newMeter_any _ _ _).mono ?_
      rintro e v3 ⟨p3, rfl, hu3, hg3, G3⟩
      go_wp2_with fail
      refine (zzover_any p3 _ _ _ hu3 hg3).mono ?_
      rintro e w3 ⟨rfl, H3⟩
      clear hu3 hg3
      go_wp2_with fail
      refine (newMeter_any _ _ _).mono ?_
      rintro e v4 ⟨p4, rfl, hu4, hg4, G4⟩
      go_wp2_with fail
      refine (zzover_any p4 _ _ _ hu4 hg4).mono ?_
      rintro e w4 ⟨rfl, H4⟩
      clear hu4 hg4
      go_wp2_with fail
      refine (newMeter_any _ _ _).mono ?_
      rintro e v5 ⟨p5, rfl, hu5, hg5, G5⟩
      go_wp2_with fail
      refine (zzover_any p5 _ _ _ hu5 hg5).mono ?_
      rintro e w5 ⟨rfl, H5⟩
      clear hu5 hg5
      go_wp2
      go_ret
      exact ⟨rfl, grown_trans (grown_trans (grown_trans (grown_trans (grown_trans G1 H1) (grown_trans G2 H2)) (grown_trans G3 H3)) (grown_trans G4 H4)) (grown_trans G5 H5)⟩
    by_cases hc : a0 < a2
    · have d1 : decide (a0 < a1) = false := decide_eq_false (by omega)
      have d2 : decide (a0 < a2) = true := decide_eq_true (by omega)
      have d3 : decide (a0 + 1 < a1) = false := decide_eq_false (by omega)
      go_enter Try.func4, Try.ntmps4
      go_wp2_with fail
      refine (newMeter_any _ _ _).mono ?_
      rintro e v1 ⟨p1, rfl, hu1, hg1, G1⟩
      go_wp2_with fail
      refine (zzover_any p1 _ _ _ hu1 hg1).mono ?_
      rintro e w1 ⟨rfl, H1⟩
      clear hu1 hg1
      go_wp2_with fail
      refine (newMeter_any _ _ _).mono ?_
      rintro e v2 ⟨p2, rfl, hu2, hg2, G2⟩
      go_wp2_with fail
      refine (zzover_any p2 _ _ _ hu2 hg2).mono ?_
      rintro e w2 ⟨rfl, H2⟩
      clear hu2 hg2
      go_wp2_with fail
      refine (newMeter_any _ _ _).mono ?_
      rintro e v3 ⟨p3, rfl, hu3, hg3, G3⟩
      go_wp2_with fail
      refine (zzover_any p3 _ _ _ hu3 hg3).mono ?_
      rintro e w3 ⟨rfl, H3⟩
      clear hu3 hg3
      go_wp2_with fail
      refine (newMeter_any _ _ _).mono ?_
      rintro e v4 ⟨p4, rfl, hu4, hg4, G4⟩
      go_wp2_with fail
      refine (zzover_any p4 _ _ _ hu4 hg4).mono ?_
      rintro e w4 ⟨rfl, H4⟩
      clear hu4 hg4
      go_wp2_with fail
      refine (newMeter_any _ _ _).mono ?_
      rintro e v5 ⟨p5, rfl, hu5, hg5, G5⟩
      go_wp2_with fail
      refine (zzover_any p5 _ _ _ hu5 hg5).mono ?_
      rintro e w5 ⟨rfl, H5⟩
      clear hu5 hg5
      go_wp2
      go_ret
      exact ⟨rfl, grown_trans (grown_trans (grown_trans (grown_trans (grown_trans G1 H1) (grown_trans G2 H2)) (grown_trans G3 H3)) (grown_trans G4 H4)) (grown_trans G5 H5)⟩
    · have d1 : decide (a0 < a1) = false := decide_eq_false (by omega)
      have d2 : decide (a0 < a2) = false := decide_eq_false (by omega)
      have d3 : decide (a0 + 1 < a1) = false := decide_eq_false (by omega)
      go_enter Try.func4, Try.ntmps4
      go_wp2_with fail
      refine (newMeter_any _ _ _).mono ?_
      rintro e v1 ⟨p1, rfl, hu1, hg1, G1⟩
      go_wp2_with fail
      refine (zzover_any p1 _ _ _ hu1 hg1).mono ?_
      rintro e w1 ⟨rfl, H1⟩
      clear hu1 hg1
      go_wp2_with fail
      refine (newMeter_any _ _ _).mono ?_
      rintro e v2 ⟨p2, rfl, hu2, hg2, G2⟩
      go_wp2_with fail
      refine (zzover_any p2 _ _ _ hu2 hg2).mono ?_
      rintro e w2 ⟨rfl, H2⟩
      clear hu2 hg2
      go_wp2_with fail
      refine (newMeter_any _ _ _).mono ?_
      rintro e v3 ⟨p3, rfl, hu3, hg3, G3⟩
      go_wp2_with fail
      refine (zzover_any p3 _ _ _ hu3 hg3).mono ?_
      rintro e w3 ⟨rfl, H3⟩
      clear hu3 hg3
      go_wp2_with fail
      refine (newMeter_any _ _ _).mono ?_
      rintro e v4 ⟨p4, rfl, hu4, hg4, G4⟩
      go_wp2_with fail
      refine (zzover_any p4 _ _ _ hu4 hg4).mono ?_
      rintro e w4 ⟨rfl, H4⟩
      clear hu4 hg4
      go_wp2_with fail
      refine (newMeter_any _ _ _).mono ?_
      rintro e v5 ⟨p5, rfl, hu5, hg5, G5⟩
      go_wp2_with fail
      refine (zzover_any p5 _ _ _ hu5 hg5).mono ?_
      rintro e w5 ⟨rfl, H5⟩
      clear hu5 hg5
      go_wp2
      go_ret
      exact ⟨rfl, grown_trans (grown_trans (grown_trans (grown_trans (grown_trans G1 H1) (grown_trans G2 H2)) (grown_trans G3 H3)) (grown_trans G4 H4)) (grown_trans G5 H5)⟩

/-! ### THE ROW's STEP: WRITTEN OUT: LEAVE IT -/
set_option maxRecDepth 100000 in
theorem lifted (os : Os) (started : os.Started) (H : Type) (enc : TypeId × Value → H) :
    ReturnsInHanded {} Try.checked os 4 .any (Rows.fnMeterOverThresholdSpec.pre6 enc Try.prog Try.f4 Rows.fnMeterOverThresholdRow.domain false) (Rows.fnMeterOverThresholdSpec.post enc Try.prog Try.f4 false true false false) := by
  refine returnsInHanded_of_change (C := Try.checked) own started (by kernel_rfl) Try.func4
    (ChangeSpec.witness6 (enc := enc) (C := Try.checked) false ⟨#[], #[.int .u64 0, .int .u64 0, .int .u64 0], []⟩ 8 (by kernel_rfl) (by kernel_rfl) (by kernel_rfl) (by kernel_rfl)) ?_
  intro W base args ds gs before hval0 hW hcnd _
  have hval : ∀ (j : Nat) t v, Try.f4.params[j]? = some t → args[j]? = some v → Value.okWide Try.prog W .any base t v := hval0
  have hW' := hW
  obtain ⟨p, q, hA0, hV, rfl, hfz, hnd⟩ := hW
  have hA : DataW.TrodAll enc Try.prog W 0 (fun _ => true) true Try.f4.params.toList args.toList ds p := hA0
  rw [Try.params4] at hA hval
  obtain ⟨v0, vs0, d0, ds0, p0, q0, hargs, rfl, rfl, h0, r0⟩ := trodAll_cons hA
  obtain ⟨v1, vs1, d1, ds1, p1, q1, rfl, rfl, rfl, h1, r1⟩ := trodAll_cons r0
  obtain ⟨v2, vs2, d2, ds2, p2, q2, rfl, rfl, rfl, h2, r2⟩ := trodAll_cons r1
  obtain ⟨rfl, rfl, rfl⟩ := trodAll_nil r2
  obtain rfl : args = #[v0, v1, v2] := by cases args; simp_all
  obtain ⟨rfl, rfl⟩ := trodVars_none hV
  obtain ⟨a0, rfl, rfl, rfl, w0⟩ := open_int Try.underlying22 (hval 0 22 v0 rfl rfl) h0
  obtain ⟨a1, rfl, rfl, rfl, w1⟩ := open_int Try.underlying22 (hval 1 22 v1 rfl rfl) h1
  obtain ⟨a2, rfl, rfl, rfl, w2⟩ := open_int Try.underlying22 (hval 2 22 v2 rfl rfl) h2
  clear hA0 hval0
  simp only [List.append_nil] at hW'
  refine (walk a0 a1 a2 w0 w1 w2 W).mono fun e W' ⟨he, hg⟩ => ?_
  subst he
  exact ⟨_, rfl, post_of_same (pa := []) (pv := []) hW' (fun _ _ _ => (trodAll_cons_mk (shut_bool Try.underlying4 _) trodAll_mk0)) (fun sp _ => (trodAll_cons_mk (shut_int Try.underlying22 w0) (trodAll_cons_mk (shut_int Try.underlying22 w1) (trodAll_cons_mk (shut_int Try.underlying22 w2) trodAll_mk0)))) (fun _ _ => rfl) rfl
    (hg.frame _) hg.2.1 (ok_one (by kernel_rfl) rfl (okWide_bool_mk Try.underlying4 _))⟩

theorem over : Rows.fnMeterOverThresholdRow.holds Try.pinned (OpenSpec.ofChange Rows.fnMeterOverThresholdSpec) :=
  OpenClaim.holds_of_wide 4 Try.f4 rfl rfl rfl rfl rfl rfl rfl ⟨rfl, rfl, rfl, rfl, rfl⟩ rfl rfl rfl rfl rfl (by kernel_rfl) Try.func4 (by kernel_rfl)
    (of_decide_eq_true (by kernel_rfl)) (by unfold Func.isWrapper; first | (rw [if_pos (by decide +kernel)]; kernel_rfl) | (rw [if_neg (by decide +kernel)]; exact ⟨rfl, rfl⟩))
    (fun os started H enc _ => lifted os started H enc)

/-- ████ THE STATEMENT ████ -/
theorem proved : Rows.FnMeterOverThresholdSaid :=
  over
#print axioms proved
end Go.Proofs.Qxb6616858a.fnMeterOverThreshold
