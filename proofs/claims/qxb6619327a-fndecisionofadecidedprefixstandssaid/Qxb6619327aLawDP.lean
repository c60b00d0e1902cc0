/-
  THE LAW FnDecisionOfADecidedPrefixStands (5).
-/
import Derived.Test.Qxb6619327aRows
import Derived.Test.Qxb6619327aBytes
import Derived.Test.Qxb6619327aOpen
import Derived.Test.Qxb6619327aWalkOut
import Derived.Test.Qxb6619327aWalkD
import Derived.Test.Qxb6619327aWalkM
import Derived.ProofKit
import Derived.OpenShut
namespace Go.Proofs.Qxb6619327a.LawDP
open Go.ChangeShapes Go.WideShapes Go.ChangeAt Go.RowKit Go.Proofs.Qxb6619327a.Plain
set_option linter.unusedVariables false

theorem own : ownKnob Try.prog.godebug = none := by kernel_rfl
theorem laidOut : laidOutB Try.prog = true := by kernel_rfl
theorem below_draws {B : Nat} {a w : World} (h : Below B a w) (n : Nat) : Below B a (w.drewN n) := h.trans ⟨rfl, rfl, rfl, Nat.le_refl _, fun _ _ => rfl⟩
set_option maxRecDepth 100000 in
set_option maxHeartbeats 1600000 in
theorem main_some (b off len cap : Nat) (R : Nat → Int) (C : Nat → Bool) (V U : Nat → Int) (f : Int) (cut : Nat) (w : World) (hlc : len ≤ cap) (hcm : cap ≤ 9223372036854775807) (hn : len ≤ 4096) (hb : b < w.heap.size) (hr : Reps w b off len R C V U) (hf : 0 ≤ f) (hc : cut ≤ len) :
    Calls Try.prog 5 #[.slice (some ⟨b, off, none⟩) len cap, .int .i64 f, .int .i64 (cut : Int)] w fun e w' => e = .returned (.bool true) ∧ Below w.heap.size w w' := by
  go_enter Try.func5, Try.ntmps5
  go_wp2_with (go_at_call 15; refine (bytes15_yes _ _ _ _ _ _ (by omega)).mono ?_; rintro e w' ⟨rfl, rfl⟩)
  refine (outcome_some b off cut cap R C V U w (by omega) hb (hr.cut hc)).mono ?_
  rintro e w1 ⟨rfl, hr1, hb1, hz1⟩
  go_wp2_with fail
  refine (decision_some (w.heap.size + 1) 0 cut cut R C V U f w1 (by omega) hz1 hr1 hf).mono ?_
  rintro e w2 ⟨⟨cp, dp, rfl, hdp⟩, hb2⟩
  have H12 : Below w.heap.size w w2 := hb1.trans (hb2.mono hb1.size)
  have hbw2 : b < w2.heap.size := Nat.lt_of_lt_of_le hb H12.size
  have hr2 := hr.below H12 hb
  go_wp2_with fail
  refine (outcome_some b off len cap R C V U w2 (by omega) hbw2 hr2).mono ?_
  rintro e w3 ⟨rfl, hr3, hb3, hz3⟩
  go_wp2_with fail
  refine (decision_some (w2.heap.size + 1) 0 len len R C V U f w3 (by omega) hz3 hr3 hf).mono ?_
  rintro e w4 ⟨⟨cw, dw, rfl, hdw⟩, hb4⟩
  have H14 : Below w.heap.size w w4 := H12.trans ((hb3.trans (hb4.mono hb3.size)).mono H12.size)
  have hr4 := hr.below H14 hb
  go_wp2_with fail
  refine (decModel_some b off len cap R C V U f w4 (by omega) hr4 hf).mono ?_
  rintro e w5 ⟨⟨rc, rr, rfl, hrc, hrr⟩, nq, rfl⟩
  have hm := decides_model hdw hrc hrr
  have hq := decides_cut hc hdp hdw
  have HH : Hid _ := below_draws H14 nq
  generalize (decide (0 ≤ rc) || decide (0 ≤ rr)) = wd at *
  generalize (decide (0 ≤ rc) && (decide (rr < 0) || decide (rc < rr))) = wc at *
  have HM : Hid _ := hm
  have HQ : Hid _ := hq
  clear hm hq hr1 hb1 hb2 hb3 hb4 hr2 hr3 hr4 H12 H14 hdp hdw hrc hrr
  obtain ⟨rfl, rfl⟩ := HM.out
  clear HM
  cases dp
  · clear HQ
    go_wp2
    go_ret
    exact ⟨ret_bool (by simp), HH.out⟩
  · cases dw
    · exact absurd HQ.out (by simp)
    · have e : cw = cp := by simpa using HQ.out
      subst e
      clear HQ
      go_wp2
      go_ret
      exact ⟨ret_bool (by simp), HH.out⟩

set_option maxHeartbeats 1600000 in
theorem main_none (a : Option Addr) (cap : Nat) (f : Int) (w : World) (hcm : cap ≤ 9223372036854775807) (hf : 0 ≤ f) (ha : a = none → cap = 0) :
    Calls Try.prog 5 #[.slice a 0 cap, .int .i64 f, .int .i64 0] w fun e w' => e = .returned (.bool true) ∧ Below w.heap.size w w' := by
  go_enter Try.func5, Try.ntmps5
  go_wp2_with (go_at_call 15; refine (bytes15_yes _ _ _ _ _ _ (by omega)).mono ?_; rintro e w' ⟨rfl, rfl⟩)
  refine (outcome_none a cap w).mono ?_
  rintro e w1 ⟨⟨a1, rfl⟩, hb1⟩
  go_wp2_with fail
  refine (decision_none a1 f 0 w1).mono ?_
  rintro e w2 ⟨rfl, hb2⟩
  have H12 : Below w.heap.size w w2 := hb1.trans (hb2.mono hb1.size)
  go_wp2_with fail
  refine (outcome_none a cap w2).mono ?_
  rintro e w3 ⟨⟨a3, rfl⟩, hb3⟩
  go_wp2_with fail
  refine (decision_none a3 f 0 w3).mono ?_
  rintro e w4 ⟨rfl, hb4⟩
  have H14 : Below w.heap.size w w4 := H12.trans ((hb3.trans (hb4.mono hb3.size)).mono H12.size)
  go_wp2_with fail
  refine (decModel_none a cap f w4).mono ?_
  rintro e w5 ⟨rfl, rfl⟩
  go_wp2
  go_ret
  exact ⟨rfl, H14⟩

theorem walk (a : Option Addr) (len cap : Nat) (R : Nat → Int) (C : Nat → Bool) (V U : Nat → Int) (f ct : Int) (w : World) (h : IsReps w a len cap R C V U) (wf : (Lit.int .i64 f).wf = true) (wc : (Lit.int .i64 ct).wf = true) :
    Calls Try.prog 5 #[.slice a len cap, .int .i64 f, .int .i64 ct] w fun e w' => e = .returned (.bool true) ∧ Below w.heap.size w w' := by
  obtain ⟨hl, hm, hnil, hp⟩ := h
  have hm' : cap ≤ 9223372036854775807 := by unfold maxLen at hm; omega
  by_cases h1 : 1048576 < len
  · go_enter Try.func5, Try.ntmps5
    go_wp2_with (go_at_call 15; refine (bytes15_no _ _ _ _ _ _ h1 (Nat.le_trans hl hm)).mono ?_; rintro e w' ⟨rfl, rfl⟩)
    go_ret
    exact ⟨rfl, Below.refl _ _⟩
  · by_cases h2 : 4096 < len
    · go_enter Try.func5, Try.ntmps5
      go_wp2_with (go_at_call 15; refine (bytes15_yes _ _ _ _ _ _ (by omega)).mono ?_; rintro e w' ⟨rfl, rfl⟩)
      go_ret
      exact ⟨rfl, Below.refl _ _⟩
    · by_cases hf : f < 0
      · go_enter Try.func5, Try.ntmps5
        go_wp2_with (go_at_call 15; refine (bytes15_yes _ _ _ _ _ _ (by omega)).mono ?_; rintro e w' ⟨rfl, rfl⟩)
        go_ret
        exact ⟨rfl, Below.refl _ _⟩
      · by_cases h4 : ct < 0
        · go_enter Try.func5, Try.ntmps5
          go_wp2_with (go_at_call 15; refine (bytes15_yes _ _ _ _ _ _ (by omega)).mono ?_; rintro e w' ⟨rfl, rfl⟩)
          go_ret
          exact ⟨rfl, Below.refl _ _⟩
        · obtain ⟨cut, rfl⟩ := Int.eq_ofNat_of_zero_le (show 0 ≤ ct by omega)
          by_cases h5 : len < cut
          · clear h4
            go_enter Try.func5, Try.ntmps5
            go_wp2_with (go_at_call 15; refine (bytes15_yes _ _ _ _ _ _ (by omega)).mono ?_; rintro e w' ⟨rfl, rfl⟩)
            go_ret
            exact ⟨rfl, Below.refl _ _⟩
          · by_cases h3 : 0 < len
            · obtain ⟨b, off, rfl, hb, hr⟩ := hp h3
              exact main_some b off len cap R C V U f cut w hl hm' (by omega) hb hr (by omega) (by omega)
            · obtain rfl : len = 0 := by omega
              obtain rfl : cut = 0 := by omega
              exact main_none a cap f w hm' (by omega) hnil

/-! ### THE ROW's STEP (after the guide's shell for a slice and integers) -/
set_option maxRecDepth 100000 in
theorem lifted (os : Os) (started : os.Started) (H : Type) (enc : TypeId × Value → H) :
    ReturnsInHanded {} Try.checked os 5 .any (Rows.fnDecisionOfADecidedPrefixStandsSpec.pre6 enc Try.prog Try.f5 Rows.fnDecisionOfADecidedPrefixStandsRow.domain false) (Rows.fnDecisionOfADecidedPrefixStandsSpec.post enc Try.prog Try.f5 false true false false) := by
  refine returnsInHanded_of_change (C := Try.checked) own started (by kernel_rfl) Try.func5
    (ChangeSpec.witness6 (enc := enc) (C := Try.checked) false ⟨#[], #[.slice none 0 0, .int .i64 0, .int .i64 0], []⟩ 8 (by kernel_rfl) (by kernel_rfl) (by kernel_rfl) (by kernel_rfl)) ?_
  intro W base args ds gs before hval0 hW hcnd _
  have hval : ∀ (j : Nat) t v, Try.f5.params[j]? = some t → args[j]? = some v → Value.okWide Try.prog W .any base t v := hval0
  have hW' := hW
  obtain ⟨p, q, hA0, hV, rfl, hfz, hnd⟩ := hW
  have hA : DataW.TrodAll enc Try.prog W 0 (fun _ => true) true Try.f5.params.toList args.toList ds p := hA0
  rw [Try.params5] at hA hval
  obtain ⟨v0, vs0, d0, ds0, p0, q0, hargs, rfl, rfl, h0, r0⟩ := trodAll_cons hA
  obtain ⟨v1, vs1, d1, ds1, p1, q1, rfl, rfl, rfl, h1, r1⟩ := trodAll_cons r0
  obtain ⟨v2, vs2, d2, ds2, p2, q2, rfl, rfl, rfl, h2, r2⟩ := trodAll_cons r1
  obtain ⟨rfl, rfl, rfl⟩ := trodAll_nil r2
  obtain rfl : args = #[v0, v1, v2] := by cases args; simp_all
  obtain ⟨rfl, rfl⟩ := trodVars_none hV
  obtain ⟨a0, len0, cap0, rfl⟩ := okWide_slice Try.underlying22 (hval 0 22 v0 rfl rfl)
  have k0 := h0
  have lt0 : ∀ x ∈ p0, x.block < W.heap.size := by obtain ⟨m, hm⟩ := k0; exact DataW.trod_lt m _ _ _ hm
  obtain ⟨R, C, V, U, w0⟩ : ∃ R C V U, IsReps W a0 len0 cap0 R C V U := by
    obtain ⟨fuel, hf⟩ := h0
    exact open_reps hf
  obtain ⟨a1, rfl, rfl, rfl, w1⟩ := open_int Try.underlying3 (hval 1 3 v1 rfl rfl) h1
  obtain ⟨a2, rfl, rfl, rfl, w2⟩ := open_int Try.underlying3 (hval 2 3 v2 rfl rfl) h2
  clear hA0 hval0
  refine (walk a0 len0 cap0 R C V U a1 a2 W w0 w1 w2).mono fun e W' ⟨he, bel⟩ => ?_
  subst he
  exact ⟨_, rfl, _, _, _, [], _, [], hW', trodAll_mk1 (shut_bool Try.underlying4 _), (trodAll_cons_mk (Below.trod laidOut (by kernel_rfl) (of_decide_eq_true (by kernel_rfl)) k0 bel lt0) (trodAll_cons_mk (shut_int Try.underlying3 w1) (trodAll_cons_mk (shut_int Try.underlying3 w2) trodAll_mk0))), rfl, bel.frame _, fun h => by cases h⟩

/-- THE STATEMENT. -/
theorem decidedCut_proved : Rows.FnDecisionOfADecidedPrefixStandsSaid :=
  OpenClaim.holds_of_wide 5 Try.f5 rfl rfl rfl rfl rfl rfl rfl ⟨rfl, rfl, rfl, rfl, rfl⟩ rfl rfl rfl rfl rfl (by kernel_rfl) Try.func5 (by kernel_rfl)
    (of_decide_eq_true (by kernel_rfl)) (by unfold Func.isWrapper; first | (rw [if_pos (by decide +kernel)]; kernel_rfl) | (rw [if_neg (by decide +kernel)]; exact ⟨rfl, rfl⟩))
    (fun os started H enc _ => lifted os started H enc)
end Go.Proofs.Qxb6619327a.LawDP
