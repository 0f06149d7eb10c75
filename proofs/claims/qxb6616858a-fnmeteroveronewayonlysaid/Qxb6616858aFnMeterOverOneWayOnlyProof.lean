/-
  THE SHELL OF A PROOF OF 'Rows.FnMeterOverOneWayOnlySaid' ('example.com/marga/marga/zzlaws_root_b1.FnMeterOverOneWayOnly'), WRITTEN BY PROGRAM (proof-skeleton.mjs) off the guide's own print for that function. Not trusted: Lean checks it.
  The hole is filled: the walk goes over the contracts of Qxb6616858aMeter.
-/
import Derived.Test.Qxb6616858aRows
import Derived.WalkKit
import Derived.ProofKit
import Derived.OpenShut
import Derived.ShutString
import Derived.Test.Qxb6616858aMeter
namespace Go.Proofs.Qxb6616858a.fnMeterOverOneWayOnly
open Go.ChangeShapes Go.WideShapes Go.ChangeAt Go.RowKit
open Go.ChangeMaps (open_string shut_string)
set_option linter.unusedVariables false      -- a walk need not use every 'w<i>' (that an integer argument fits its kind)

theorem own : ownKnob Try.prog.godebug = none := by kernel_rfl

/-- What 'open_int' hands over of a uint64, as bounds. -/
theorem wf_u64 {x : Int} (h : (Lit.int .u64 x).wf = true) : 0 ≤ x ∧ x < 18446744073709551616 := by
  simp [Lit.wf, IntKind.min, IntKind.max, IntKind.signed, IntKind.bits] at h
  exact ⟨by omega, by omega⟩

/-! ### STEP 1: THE WALK: the Go text returns true. 'Grown w w'': the world has at most new blocks (Derived/RowKit3.lean). Part the cases AHEAD of 'go_enter' where a test parts the walk; take each callee by a contract of your own. -/
theorem walk (a0 : Int) (a1 : Int) (w0 : (Lit.int .u64 a0).wf = true) (w1 : (Lit.int .u64 a1).wf = true) (w : World) :
    Calls Try.prog 3 #[.int .u64 a0, .int .u64 a1] w fun e w' => e = .returned (.bool true) ∧ Grown w w' := by
  have b0 := wf_u64 w0
  have b1 := wf_u64 w1
  rcases Int.lt_trichotomy a0 a1 with h | h | h
  · have e1 : decide (a1 < a0) = false := decide_eq_false (by omega)
    have e2 : decide (a1 < 0) = false := decide_eq_false (by omega)
    have e3 : (a0 != a1) = true := by rw [bne_iff_ne]; omega
    go_enter Try.func3, Try.ntmps3
    go_wp2_with fail
    refine (newMeter_any _ _ _).mono ?_
    rintro e v1 ⟨p1, rfl, hu1, hg1, G1⟩
    go_wp2_with fail
    refine (zzover_any p1 _ _ _ hu1 hg1).mono ?_
    rintro e w1 ⟨rfl, H1⟩
    clear hu1 hg1
    go_wp2_with fail
    refine (newMeter_any _ _ _).mono ?_
    rintro e v2 ⟨p2, rfl, hu2, hg2, G2⟩
    go_wp2_with fail
    refine (zzover_any p2 _ _ _ hu2 hg2).mono ?_
    rintro e w2 ⟨rfl, H2⟩
    clear hu2 hg2
    go_wp2_with fail
    refine (newMeter_any _ _ _).mono ?_
    rintro e v3 ⟨p3, rfl, hu3, hg3, G3⟩
    go_wp2_with fail
    refine (zzover_any p3 _ _ _ hu3 hg3).mono ?_
    rintro e w3 ⟨rfl, H3⟩
    clear hu3 hg3
    go_wp2
    go_ret
    exact ⟨rfl, grown_trans (grown_trans (grown_trans G1 H1) (grown_trans G2 H2)) (grown_trans G3 H3)⟩
  · subst h
    have e2 : decide (a0 < 0) = false := decide_eq_false (by omega)
    go_enter Try.func3, Try.ntmps3
    go_wp2_with fail
    refine (newMeter_any _ _ _).mono ?_
    rintro e v1 ⟨p1, rfl, hu1, hg1, G1⟩
    go_wp2_with fail
    refine (zzover_any p1 _ _ _ hu1 hg1).mono ?_
    rintro e w1 ⟨rfl, H1⟩
    clear hu1 hg1
    go_wp2_with fail
    refine (newMeter_any _ _ _).mono ?_
    rintro e v2 ⟨p2, rfl, hu2, hg2, G2⟩
    go_wp2_with fail
    refine (zzover_any p2 _ _ _ hu2 hg2).mono ?_
    rintro e w2 ⟨rfl, H2⟩
    clear hu2 hg2
    go_wp2_with fail
    refine (newMeter_any _ _ _).mono ?_
    rintro e v3 ⟨p3, rfl, hu3, hg3, G3⟩
    go_wp2_with fail
    refine (zzover_any p3 _ _ _ hu3 hg3).mono ?_
    rintro e w3 ⟨rfl, H3⟩
    clear hu3 hg3
    go_wp2
    go_ret
    exact ⟨rfl, grown_trans (grown_trans (grown_trans G1 H1) (grown_trans G2 H2)) (grown_trans G3 H3)⟩
  · have e1 : decide (a0 < a1) = false := decide_eq_false (by omega)
    have e2 : decide (a1 < 0) = false := decide_eq_false (by omega)
    have e3 : (a0 != a1) = true := by rw [bne_iff_ne]; omega
    go_enter Try.func3, Try.ntmps3
    go_wp2_with fail
    refine (newMeter_any _ _ _).mono ?_
    rintro e v1 ⟨p1, rfl, hu1, hg1, G1⟩
    go_wp2_with fail
    refine (zzover_any p1 _ _ _ hu1 hg1).mono ?_
    rintro e w1 ⟨rfl, H1⟩
    clear hu1 hg1
    go_wp2_with fail
    refine (newMeter_any _ _ _).mono ?_
    rintro e v2 ⟨p2, rfl, hu2, hg2, G2⟩
    go_wp2_with fail
    refine (zzover_any p2 _ _ _ hu2 hg2).mono ?_
    rintro e w2 ⟨rfl, H2⟩
    clear hu2 hg2
    go_wp2_with fail
    refine (newMeter_any _ _ _).mono ?_
    rintro e v3 ⟨p3, rfl, hu3, hg3, G3⟩
    go_wp2_with fail
    refine (zzover_any p3 _ _ _ hu3 hg3).mono ?_
    rintro e w3 ⟨rfl, H3⟩
    clear hu3 hg3
    go_wp2
    go_ret
    exact ⟨rfl, grown_trans (grown_trans (grown_trans G1 H1) (grown_trans G2 H2)) (grown_trans G3 H3)⟩

/-! ### THE ROW's STEP: WRITTEN OUT: LEAVE IT -/
set_option maxRecDepth 100000 in
theorem lifted (os : Os) (started : os.Started) (H : Type) (enc : TypeId × Value → H) :
    ReturnsInHanded {} Try.checked os 3 .any (Rows.fnMeterOverOneWayOnlySpec.pre6 enc Try.prog Try.f3 Rows.fnMeterOverOneWayOnlyRow.domain false) (Rows.fnMeterOverOneWayOnlySpec.post enc Try.prog Try.f3 false true false false) := by
  refine returnsInHanded_of_change (C := Try.checked) own started (by kernel_rfl) Try.func3
    (ChangeSpec.witness6 (enc := enc) (C := Try.checked) false ⟨#[], #[.int .u64 0, .int .u64 0], []⟩ 8 (by kernel_rfl) (by kernel_rfl) (by kernel_rfl) (by kernel_rfl)) ?_
  intro W base args ds gs before hval0 hW hcnd _
  have hval : ∀ (j : Nat) t v, Try.f3.params[j]? = some t → args[j]? = some v → Value.okWide Try.prog W .any base t v := hval0
  have hW' := hW
  obtain ⟨p, q, hA0, hV, rfl, hfz, hnd⟩ := hW
  have hA : DataW.TrodAll enc Try.prog W 0 (fun _ => true) true Try.f3.params.toList args.toList ds p := hA0
  rw [Try.params3] at hA hval
  obtain ⟨v0, vs0, d0, ds0, p0, q0, hargs, rfl, rfl, h0, r0⟩ := trodAll_cons hA
  obtain ⟨v1, vs1, d1, ds1, p1, q1, rfl, rfl, rfl, h1, r1⟩ := trodAll_cons r0
  obtain ⟨rfl, rfl, rfl⟩ := trodAll_nil r1
  obtain rfl : args = #[v0, v1] := by cases args; simp_all
  obtain ⟨rfl, rfl⟩ := trodVars_none hV
  obtain ⟨a0, rfl, rfl, rfl, w0⟩ := open_int Try.underlying22 (hval 0 22 v0 rfl rfl) h0
  obtain ⟨a1, rfl, rfl, rfl, w1⟩ := open_int Try.underlying22 (hval 1 22 v1 rfl rfl) h1
  clear hA0 hval0
  simp only [List.append_nil] at hW'
  refine (walk a0 a1 w0 w1 W).mono fun e W' ⟨he, hg⟩ => ?_
  subst he
  exact ⟨_, rfl, post_of_same (pa := []) (pv := []) hW' (fun _ _ _ => (trodAll_cons_mk (shut_bool Try.underlying4 _) trodAll_mk0)) (fun sp _ => (trodAll_cons_mk (shut_int Try.underlying22 w0) (trodAll_cons_mk (shut_int Try.underlying22 w1) trodAll_mk0))) (fun _ _ => rfl) rfl
    (hg.frame _) hg.2.1 (ok_one (by kernel_rfl) rfl (okWide_bool_mk Try.underlying4 _))⟩

theorem over : Rows.fnMeterOverOneWayOnlyRow.holds Try.pinned (OpenSpec.ofChange Rows.fnMeterOverOneWayOnlySpec) :=
  OpenClaim.holds_of_wide 3 Try.f3 rfl rfl rfl rfl rfl rfl rfl ⟨rfl, rfl, rfl, rfl, rfl⟩ rfl rfl rfl rfl rfl (by kernel_rfl) Try.func3 (by kernel_rfl)
    (of_decide_eq_true (by kernel_rfl)) (by unfold Func.isWrapper; first | (rw [if_pos (by decide +kernel)]; kernel_rfl) | (rw [if_neg (by decide +kernel)]; exact ⟨rfl, rfl⟩))
    (fun os started H enc _ => lifted os started H enc)

/-- ████ THE STATEMENT ████ -/
theorem proved : Rows.FnMeterOverOneWayOnlySaid :=
  over
#print axioms proved
end Go.Proofs.Qxb6616858a.fnMeterOverOneWayOnly
