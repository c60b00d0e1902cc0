/-
  THE LAW FnDecisionFlippedReportsFlipTheOutcome (4).
-/
import Derived.Test.Qxb6619327aRows
import Derived.Test.Qxb6619327aBytes
import Derived.Test.Qxb6619327aOpen
import Derived.Test.Qxb6619327aWalkFl
import Derived.Test.Qxb6619327aWalkD
import Derived.Test.Qxb6619327aWalkM
import Derived.ProofKit
import Derived.OpenShut
namespace Go.Proofs.Qxb6619327a.LawDF
open Go.ChangeShapes Go.WideShapes Go.ChangeAt Go.RowKit Go.Proofs.Qxb6619327a.Plain
set_option linter.unusedVariables false

theorem own : ownKnob Try.prog.godebug = none := by kernel_rfl
theorem laidOut : laidOutB Try.prog = true := by kernel_rfl
theorem below_draws {B : Nat} {a w : World} (h : Below B a w) (n : Nat) : Below B a (w.drewN n) := h.trans ⟨rfl, rfl, rfl, Nat.le_refl _, fun _ _ => rfl⟩

set_option maxRecDepth 100000 in
set_option maxHeartbeats 1600000 in
theorem main_some (b off len cap : Nat) (R : Nat → Int) (C : Nat → Bool) (V U : Nat → Int) (f : Int) (w : World) (hn : len ≤ 4096) (hb : b < w.heap.size) (hr : Reps w b off len R C V U) (hf : 0 ≤ f) :
    Calls Try.prog 4 #[.slice (some ⟨b, off, none⟩) len cap, .int .i64 f] w fun e w' => e = .returned (.bool true) ∧ Below w.heap.size w w' := by
  go_enter Try.func4, Try.ntmps4
  go_wp2_with (go_at_call 13; refine (bytes13_yes _ _ _ _ _ (by omega)).mono ?_; rintro e w' ⟨rfl, rfl⟩)
  refine (flip_some b off len cap R C V U w (by omega) hb hr).mono ?_
  rintro e w0 ⟨rfl, hr0, hb0, hz0⟩
  have hr0' := hr.below hb0 hb
  have hbw0 : b < w0.heap.size := Nat.lt_of_lt_of_le hb hb0.size
  go_wp2_with fail
  refine (outcome_some b off len cap R C V U w0 (by omega) hbw0 hr0').mono ?_
  rintro e w1 ⟨rfl, hr1, hb1, hz1⟩
  go_wp2_with fail
  refine (decision_some (w0.heap.size + 1) 0 len len R C V U f w1 (by omega) hz1 hr1 hf).mono ?_
  rintro e w2 ⟨⟨c1, d1, rfl, hd1⟩, hb2⟩
  have H02 : Below w0.heap.size w0 w2 := hb1.trans (hb2.mono hb1.size)
  have H2 : Below w.heap.size w w2 := hb0.trans (H02.mono hb0.size)
  have hr2 := hr0.below H02 hz0
  have hbw2 : w.heap.size < w2.heap.size := Nat.lt_of_lt_of_le hz0 H02.size
  go_wp2_with fail
  refine (outcome_some w.heap.size 0 len len R (fun i => !C i) V U w2 (by omega) hbw2 hr2).mono ?_
  rintro e w3 ⟨rfl, hr3, hb3, hz3⟩
  go_wp2_with fail
  refine (decision_some (w2.heap.size + 1) 0 len len R (fun i => !C i) V U f w3 (by omega) hz3 hr3 hf).mono ?_
  rintro e w4 ⟨⟨c2, d2, rfl, hd2⟩, hb4⟩
  have H4 : Below w.heap.size w w4 := H2.trans ((hb3.trans (hb4.mono hb3.size)).mono H2.size)
  have hr4 := hr.below H4 hb
  go_wp2_with fail
  refine (decModel_some b off len cap R C V U f w4 (by omega) hr4 hf).mono ?_
  rintro e w5 ⟨⟨rc, rr, rfl, hrc, hrr⟩, nq, rfl⟩
  have hm := decides_model hd1 hrc hrr
  have hq := decides_flip hd1 hd2
  have HH : Hid _ := below_draws H4 nq
  generalize (decide (0 ≤ rc) || decide (0 ≤ rr)) = wd at *
  generalize (decide (0 ≤ rc) && (decide (rr < 0) || decide (rc < rr))) = wc at *
  have HM : Hid _ := hm
  have HQ : Hid _ := hq
  clear hm hq hr1 hb1 hb2 hb3 hb4 hr2 hr3 hr4 hr0 hr0' hb0 H02 H2 H4 hd1 hd2 hrc hrr
  obtain ⟨rfl, rfl⟩ := HM.out
  obtain ⟨rfl, rfl⟩ := HQ.out
  clear HM HQ
  cases d1 <;> cases c1
  all_goals
    go_wp2
    go_ret
    exact ⟨rfl, HH.out⟩

set_option maxHeartbeats 1600000 in
theorem main_none (a : Option Addr) (cap : Nat) (f : Int) (w : World) (hf : 0 ≤ f) :
    Calls Try.prog 4 #[.slice a 0 cap, .int .i64 f] w fun e w' => e = .returned (.bool true) ∧ Below w.heap.size w w' := by
  go_enter Try.func4, Try.ntmps4
  go_wp2_with (go_at_call 13; refine (bytes13_yes _ _ _ _ _ (by omega)).mono ?_; rintro e w' ⟨rfl, rfl⟩)
  refine (flip_none a cap w).mono ?_
  rintro e w0 ⟨⟨a0, rfl⟩, hb0⟩
  go_wp2_with fail
  refine (outcome_none a cap w0).mono ?_
  rintro e w1 ⟨⟨a1, rfl⟩, hb1⟩
  go_wp2_with fail
  refine (decision_none a1 f 0 w1).mono ?_
  rintro e w2 ⟨rfl, hb2⟩
  have H12 : Below w0.heap.size w0 w2 := hb1.trans (hb2.mono hb1.size)
  have H2 : Below w.heap.size w w2 := hb0.trans (H12.mono hb0.size)
  go_wp2_with fail
  refine (outcome_none a0 0 w2).mono ?_
  rintro e w3 ⟨⟨a3, rfl⟩, hb3⟩
  go_wp2_with fail
  refine (decision_none a3 f 0 w3).mono ?_
  rintro e w4 ⟨rfl, hb4⟩
  have H4 : Below w.heap.size w w4 := H2.trans ((hb3.trans (hb4.mono hb3.size)).mono H2.size)
  go_wp2_with fail
  refine (decModel_none a cap f w4).mono ?_
  rintro e w5 ⟨rfl, rfl⟩
  go_wp2
  go_ret
  exact ⟨rfl, H4⟩

theorem walk (a : Option Addr) (len cap : Nat) (R : Nat → Int) (C : Nat → Bool) (V U : Nat → Int) (f : Int) (w : World) (h : IsReps w a len cap R C V U) (wf : (Lit.int .i64 f).wf = true) :
    Calls Try.prog 4 #[.slice a len cap, .int .i64 f] w fun e w' => e = .returned (.bool true) ∧ Below w.heap.size w w' := by
  obtain ⟨hl, hm, hnil, hp⟩ := h
  have hm' : len ≤ 9223372036854775807 := by unfold maxLen at hm; omega
  by_cases h1 : 1048576 < len
  · go_enter Try.func4, Try.ntmps4
    go_wp2_with (go_at_call 13; refine (bytes13_no _ _ _ _ _ h1 hm').mono ?_; rintro e w' ⟨rfl, rfl⟩)
    go_ret
    exact ⟨rfl, Below.refl _ _⟩
  · by_cases h2 : 4096 < len
    · go_enter Try.func4, Try.ntmps4
      go_wp2_with (go_at_call 13; refine (bytes13_yes _ _ _ _ _ (by omega)).mono ?_; rintro e w' ⟨rfl, rfl⟩)
      go_ret
      exact ⟨rfl, Below.refl _ _⟩
    · by_cases hf : f < 0
      · go_enter Try.func4, Try.ntmps4
        go_wp2_with (go_at_call 13; refine (bytes13_yes _ _ _ _ _ (by omega)).mono ?_; rintro e w' ⟨rfl, rfl⟩)
        go_ret
        exact ⟨rfl, Below.refl _ _⟩
      · by_cases h3 : 0 < len
        · obtain ⟨b, off, rfl, hb, hr⟩ := hp h3
          exact main_some b off len cap R C V U f w (by omega) hb hr (by omega)
        · obtain rfl : len = 0 := by omega
          exact main_none a cap f w (by omega)

/-! ### THE ROW's STEP (after the guide's shell for a slice and integers) -/
set_option maxRecDepth 100000 in
theorem lifted (os : Os) (started : os.Started) (H : Type) (enc : TypeId × Value → H) :
    ReturnsInHanded {} Try.checked os 4 .any (Rows.fnDecisionFlippedReportsFlipTheOutcomeSpec.pre6 enc Try.prog Try.f4 Rows.fnDecisionFlippedReportsFlipTheOutcomeRow.domain false) (Rows.fnDecisionFlippedReportsFlipTheOutcomeSpec.post enc Try.prog Try.f4 false true false false) := by
  refine returnsInHanded_of_change (C := Try.checked) own started (by kernel_rfl) Try.func4
    (ChangeSpec.witness6 (enc := enc) (C := Try.checked) false ⟨#[], #[.slice none 0 0, .int .i64 0], []⟩ 8 (by kernel_rfl) (by kernel_rfl) (by kernel_rfl) (by kernel_rfl)) ?_
  intro W base args ds gs before hval0 hW hcnd _
  have hval : ∀ (j : Nat) t v, Try.f4.params[j]? = some t → args[j]? = some v → Value.okWide Try.prog W .any base t v := hval0
  have hW' := hW
  obtain ⟨p, q, hA0, hV, rfl, hfz, hnd⟩ := hW
  have hA : DataW.TrodAll enc Try.prog W 0 (fun _ => true) true Try.f4.params.toList args.toList ds p := hA0
  rw [Try.params4] at hA hval
  obtain ⟨v0, vs0, d0, ds0, p0, q0, hargs, rfl, rfl, h0, r0⟩ := trodAll_cons hA
  obtain ⟨v1, vs1, d1, ds1, p1, q1, rfl, rfl, rfl, h1, r1⟩ := trodAll_cons r0
  obtain ⟨rfl, rfl, rfl⟩ := trodAll_nil r1
  obtain rfl : args = #[v0, v1] := by cases args; simp_all
  obtain ⟨rfl, rfl⟩ := trodVars_none hV
  obtain ⟨a0, len0, cap0, rfl⟩ := okWide_slice Try.underlying22 (hval 0 22 v0 rfl rfl)
  have k0 := h0
  have lt0 : ∀ x ∈ p0, x.block < W.heap.size := by obtain ⟨m, hm⟩ := k0; exact DataW.trod_lt m _ _ _ hm
  obtain ⟨R, C, V, U, w0⟩ : ∃ R C V U, IsReps W a0 len0 cap0 R C V U := by
    obtain ⟨fuel, hf⟩ := h0
    exact open_reps hf
  obtain ⟨a1, rfl, rfl, rfl, w1⟩ := open_int Try.underlying3 (hval 1 3 v1 rfl rfl) h1
  clear hA0 hval0
  refine (walk a0 len0 cap0 R C V U a1 W w0 w1).mono fun e W' ⟨he, bel⟩ => ?_
  subst he
  exact ⟨_, rfl, _, _, _, [], _, [], hW', trodAll_mk1 (shut_bool Try.underlying4 _), (trodAll_cons_mk (Below.trod laidOut (by kernel_rfl) (of_decide_eq_true (by kernel_rfl)) k0 bel lt0) (trodAll_cons_mk (shut_int Try.underlying3 w1) trodAll_mk0)), rfl, bel.frame _, fun h => by cases h⟩

/-- THE STATEMENT. -/
theorem decisionFlipped_proved : Rows.FnDecisionFlippedReportsFlipTheOutcomeSaid :=
  OpenClaim.holds_of_wide 4 Try.f4 rfl rfl rfl rfl rfl rfl rfl ⟨rfl, rfl, rfl, rfl, rfl⟩ rfl rfl rfl rfl rfl (by kernel_rfl) Try.func4 (by kernel_rfl)
    (of_decide_eq_true (by kernel_rfl)) (by unfold Func.isWrapper; first | (rw [if_pos (by decide +kernel)]; kernel_rfl) | (rw [if_neg (by decide +kernel)]; exact ⟨rfl, rfl⟩))
    (fun os started H enc _ => lifted os started H enc)
end Go.Proofs.Qxb6619327a.LawDF
