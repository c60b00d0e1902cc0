/-
  THE LAW FnDecisionIsFirstOutcomeToPassF (3).
-/
import Derived.Test.Qxb6619327aRows
import Derived.Test.Qxb6619327aBytes
import Derived.Test.Qxb6619327aOpen
import Derived.Test.Qxb6619327aWalkOut
import Derived.Test.Qxb6619327aWalkD
import Derived.Test.Qxb6619327aWalkM
import Derived.ProofKit
import Derived.OpenShut
namespace Go.Proofs.Qxb6619327a.LawDI
open Go.ChangeShapes Go.WideShapes Go.ChangeAt Go.RowKit Go.Proofs.Qxb6619327a.Plain
set_option linter.unusedVariables false

theorem own : ownKnob Try.prog.godebug = none := by kernel_rfl
theorem laidOut : laidOutB Try.prog = true := by kernel_rfl
theorem below_draws {B : Nat} {a w : World} (h : Below B a w) (n : Nat) : Below B a (w.drewN n) := h.trans ⟨rfl, rfl, rfl, Nat.le_refl _, fun _ _ => rfl⟩

set_option maxHeartbeats 800000 in
theorem walk (a : Option Addr) (len cap : Nat) (R : Nat → Int) (C : Nat → Bool) (V U : Nat → Int) (f : Int) (w : World) (h : IsReps w a len cap R C V U) (wf : (Lit.int .i64 f).wf = true) :
    Calls Try.prog 3 #[.slice a len cap, .int .i64 f] w fun e w' => e = .returned (.bool true) ∧ Below w.heap.size w w' := by
  obtain ⟨hl, hm, _, hp⟩ := h
  have hm' : len ≤ 9223372036854775807 := by unfold maxLen at hm; omega
  by_cases h1 : 1048576 < len
  · go_enter Try.func3, Try.ntmps3
    go_wp2_with (go_at_call 9; refine (bytes9_no _ _ _ _ _ h1 hm').mono ?_; rintro e w' ⟨rfl, rfl⟩)
    go_ret
    exact ⟨rfl, Below.refl _ _⟩
  · by_cases h2 : 4096 < len
    · go_enter Try.func3, Try.ntmps3
      go_wp2_with (go_at_call 9; refine (bytes9_yes _ _ _ _ _ (by omega)).mono ?_; rintro e w' ⟨rfl, rfl⟩)
      go_ret
      exact ⟨rfl, Below.refl _ _⟩
    · by_cases hf : f < 0
      · go_enter Try.func3, Try.ntmps3
        go_wp2_with (go_at_call 9; refine (bytes9_yes _ _ _ _ _ (by omega)).mono ?_; rintro e w' ⟨rfl, rfl⟩)
        go_ret
        exact ⟨rfl, Below.refl _ _⟩
      · by_cases h3 : 0 < len
        · obtain ⟨b, off, rfl, hb, hr⟩ := hp h3
          go_enter Try.func3, Try.ntmps3
          go_wp2_with (first
            | (go_at_call 9; refine (bytes9_yes _ _ _ _ _ (by omega)).mono ?_; rintro e w' ⟨rfl, rfl⟩)
            | (go_at_call 10; refine (outcome_some b off len cap R C V U _ (by omega) hb hr).mono ?_; rintro e w1 ⟨rfl, hr1, hb1, hz1⟩)
            | (go_at_call 11; refine (decision_some (w.heap.size + 1) 0 len len R C V U f _ (by omega) hz1 hr1 (by omega)).mono ?_; rintro e w2 ⟨⟨c, d, rfl, hd⟩, hb2⟩)
            | (go_at_call 12; refine (decModel_some b off len cap R C V U f _ (by omega) (hr.below (hb1.trans (hb2.mono (by omega))) hb) (by omega)).mono ?_; rintro e w3 ⟨⟨rc, rr, rfl, hrc, hrr⟩, nq, rfl⟩))
          · have hm := (decides_model hd hrc hrr).1
            go_ret
            exact ⟨ret_bool (by rw [hm]; simp), below_draws (hb1.trans (hb2.mono (by omega))) _⟩
          · exact absurd (decides_model hd hrc hrr).2 (by assumption)
        · obtain rfl : len = 0 := by omega
          go_enter Try.func3, Try.ntmps3
          go_wp2_with (first
            | (go_at_call 9; refine (bytes9_yes _ _ _ _ _ (by omega)).mono ?_; rintro e w' ⟨rfl, rfl⟩)
            | (go_at_call 10; refine (outcome_none a cap _).mono ?_; rintro e w1 ⟨⟨a1, rfl⟩, hb1⟩)
            | (go_at_call 11; refine (decision_none a1 f 0 _).mono ?_; rintro e w2 ⟨rfl, hb2⟩)
            | (go_at_call 12; refine (decModel_none a cap f _).mono ?_; rintro e w3 ⟨rfl, rfl⟩))
          go_ret
          exact ⟨rfl, hb1.trans (hb2.mono hb1.size)⟩

/-! ### THE ROW's STEP (after the guide's shell for a slice and integers) -/
set_option maxRecDepth 100000 in
theorem lifted (os : Os) (started : os.Started) (H : Type) (enc : TypeId × Value → H) :
    ReturnsInHanded {} Try.checked os 3 .any (Rows.fnDecisionIsFirstOutcomeToPassFSpec.pre6 enc Try.prog Try.f3 Rows.fnDecisionIsFirstOutcomeToPassFRow.domain false) (Rows.fnDecisionIsFirstOutcomeToPassFSpec.post enc Try.prog Try.f3 false true false false) := by
  refine returnsInHanded_of_change (C := Try.checked) own started (by kernel_rfl) Try.func3
    (ChangeSpec.witness6 (enc := enc) (C := Try.checked) false ⟨#[], #[.slice none 0 0, .int .i64 0], []⟩ 8 (by kernel_rfl) (by kernel_rfl) (by kernel_rfl) (by kernel_rfl)) ?_
  intro W base args ds gs before hval0 hW hcnd _
  have hval : ∀ (j : Nat) t v, Try.f3.params[j]? = some t → args[j]? = some v → Value.okWide Try.prog W .any base t v := hval0
  have hW' := hW
  obtain ⟨p, q, hA0, hV, rfl, hfz, hnd⟩ := hW
  have hA : DataW.TrodAll enc Try.prog W 0 (fun _ => true) true Try.f3.params.toList args.toList ds p := hA0
  rw [Try.params3] at hA hval
  obtain ⟨v0, vs0, d0, ds0, p0, q0, hargs, rfl, rfl, h0, r0⟩ := trodAll_cons hA
  obtain ⟨v1, vs1, d1, ds1, p1, q1, rfl, rfl, rfl, h1, r1⟩ := trodAll_cons r0
  obtain ⟨rfl, rfl, rfl⟩ := trodAll_nil r1
  obtain rfl : args = #[v0, v1] := by cases args; simp_all
  obtain ⟨rfl, rfl⟩ := trodVars_none hV
  obtain ⟨a0, len0, cap0, rfl⟩ := okWide_slice Try.underlying22 (hval 0 22 v0 rfl rfl)
  have k0 := h0
  have lt0 : ∀ x ∈ p0, x.block < W.heap.size := by obtain ⟨m, hm⟩ := k0; exact DataW.trod_lt m _ _ _ hm
  obtain ⟨R, C, V, U, w0⟩ : ∃ R C V U, IsReps W a0 len0 cap0 R C V U := by
    obtain ⟨fuel, hf⟩ := h0
    exact open_reps hf
  obtain ⟨a1, rfl, rfl, rfl, w1⟩ := open_int Try.underlying3 (hval 1 3 v1 rfl rfl) h1
  clear hA0 hval0
  refine (walk a0 len0 cap0 R C V U a1 W w0 w1).mono fun e W' ⟨he, bel⟩ => ?_
  subst he
  exact ⟨_, rfl, _, _, _, [], _, [], hW', trodAll_mk1 (shut_bool Try.underlying4 _), (trodAll_cons_mk (Below.trod laidOut (by kernel_rfl) (of_decide_eq_true (by kernel_rfl)) k0 bel lt0) (trodAll_cons_mk (shut_int Try.underlying3 w1) trodAll_mk0)), rfl, bel.frame _, fun h => by cases h⟩

/-- THE STATEMENT. -/
theorem decisionIsFirst_proved : Rows.FnDecisionIsFirstOutcomeToPassFSaid :=
  OpenClaim.holds_of_wide 3 Try.f3 rfl rfl rfl rfl rfl rfl rfl ⟨rfl, rfl, rfl, rfl, rfl⟩ rfl rfl rfl rfl rfl (by kernel_rfl) Try.func3 (by kernel_rfl)
    (of_decide_eq_true (by kernel_rfl)) (by unfold Func.isWrapper; first | (rw [if_pos (by decide +kernel)]; kernel_rfl) | (rw [if_neg (by decide +kernel)]; exact ⟨rfl, rfl⟩))
    (fun os started H enc _ => lifted os started H enc)
end Go.Proofs.Qxb6619327a.LawDI
