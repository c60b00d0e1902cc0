/-
  THE LAW FnVouchingAcrossTwoMasters (7).
-/
import Derived.Test.Qxb6619327aRows
import Derived.Test.Qxb6619327aBytes
import Derived.Test.Qxb6619327aOpen
import Derived.Test.Qxb6619327aWalkOut
import Derived.Test.Qxb6619327aWalkV
import Derived.Test.Qxb6619327aWalkF
import Derived.ProofKit
import Derived.OpenShut
namespace Go.Proofs.Qxb6619327a.LawTM
open Go.ChangeShapes Go.WideShapes Go.ChangeAt Go.RowKit Go.Proofs.Qxb6619327a.Plain
set_option linter.unusedVariables false

theorem own : ownKnob Try.prog.godebug = none := by kernel_rfl
theorem laidOut : laidOutB Try.prog = true := by kernel_rfl
theorem below_draws {B : Nat} {a w : World} (h : Below B a w) (n : Nat) : Below B a (w.drewN n) := h.trans ⟨rfl, rfl, rfl, Nat.le_refl _, fun _ _ => rfl⟩

set_option maxRecDepth 100000 in
set_option maxHeartbeats 1600000 in
theorem main_some (b off len cap : Nat) (R : Nat → Int) (C : Nat → Bool) (V U : Nat → Int) (x y : Int) (w : World) (hn : len ≤ 4096) (hb : b < w.heap.size) (hr : Reps w b off len R C V U) :
    Calls Try.prog 7 #[.slice (some ⟨b, off, none⟩) len cap, .int .i64 x, .int .i64 y] w fun e w' => e = .returned (.bool true) ∧ Below w.heap.size w w' := by
  go_enter Try.func7, Try.ntmps7
  go_wp2_with (go_at_call 19; refine (bytes19_yes _ _ _ _ _ _ (by omega)).mono ?_; rintro e w' ⟨rfl, rfl⟩)
  refine (outcome_some b off len cap R C V U w (by omega) hb hr).mono ?_
  rintro e w1 ⟨rfl, hr1, hb1, hz1⟩
  go_wp2_with fail
  have hz1' : w.heap.size + 1 < (w1.alloc (.cells #[.slice (some ⟨w.heap.size + 1, 0, none⟩) len len] 27)).heap.size := by simp; omega
  have hr1' : Reps (w1.alloc (.cells #[.slice (some ⟨w.heap.size + 1, 0, none⟩) len len] 27)) (w.heap.size + 1) 0 len R C V U := hr1.below ((Below.refl w1.heap.size w1).alloc (Nat.le_refl _) _) hz1
  have hb1' : Below w.heap.size w (w1.alloc (.cells #[.slice (some ⟨w.heap.size + 1, 0, none⟩) len len] 27)) := hb1.alloc hb1.size _
  have hcell : (w1.alloc (.cells #[.slice (some ⟨w.heap.size + 1, 0, none⟩) len len] 27)).cell? ⟨w1.heap.size, 0, none⟩ = some (.slice (some ⟨w.heap.size + 1, 0, none⟩) len len) := by simp
  have hlt1 : w1.heap.size < (w1.alloc (.cells #[.slice (some ⟨w.heap.size + 1, 0, none⟩) len len] 27)).heap.size := by simp
  have G1 : Hid _ := hz1'
  have G2 : Hid _ := hr1'
  have G3 : Hid _ := hb1'
  have G4 : Hid _ := hcell
  have G5 : Hid _ := hlt1
  clear hz1' hr1' hb1' hcell hlt1
  refine (vouching_some (w.heap.size + 1) 0 len len R C V U x _ (by omega) G1.out G2.out).mono ?_
  rintro e w2 ⟨rfl, hb2⟩
  have hc2 : w2.cell? ⟨w1.heap.size, 0, none⟩ = some (.slice (some ⟨w.heap.size + 1, 0, none⟩) len len) := (hb2.cell (p := ⟨w1.heap.size, 0, none⟩) G5.out).trans G4.out
  have H2 : Below w.heap.size w w2 := G3.out.trans (hb2.mono G3.out.size)
  have hr2 := G2.out.below hb2 G1.out
  have hz2 : w.heap.size + 1 < w2.heap.size := Nat.lt_of_lt_of_le G1.out hb2.size
  go_wp2_with fail
  refine (vouching_some (w.heap.size + 1) 0 len len R C V U y w2 (by omega) hz2 hr2).mono ?_
  rintro e w3 ⟨rfl, hb3⟩
  have H3 : Below w.heap.size w w3 := H2.trans (hb3.mono H2.size)
  have hr3 := hr.below H3 hb
  have c1 := cnt_le (vouch R V x) len
  have c2 := cnt_le (vouch R V y) len
  clear hr1 hb1 G1 G2 G3 G4 G5 hb2 hb3 hc2 hr2 hz2 H2
  go_wp2_with fail
  refine (fmatched_some b off len cap R C V U x w3 (by omega) hr3).mono ?_
  rintro e w4 ⟨⟨rx, rfl, hfx⟩, rfl⟩
  obtain ⟨x0, x1⟩ := firstMatched_le hfx
  go_wp2_with fail
  refine (fmatched_some b off len cap R C V U y w3 (by omega) hr3).mono ?_
  rintro e w5 ⟨⟨ry, rfl, hfy⟩, rfl⟩
  obtain ⟨y0, y1⟩ := firstMatched_le hfy
  have htm : (((cnt (vouch R V x) len : Int) + rx) == ((cnt (vouch R V y) len : Int) + ry)) = true := beq_iff_eq.2 (two_masters hfx hfy)
  clear hfx hfy
  go_wp2_with (go_at_call 18; refine (vmodel_any b off len cap R C V U x w3 (by omega) hr3).mono ?_; rintro e w6 ⟨rfl, nq, rfl⟩)
  go_ret
  exact ⟨ret_bool (by simp), below_draws H3 nq⟩

set_option maxHeartbeats 1600000 in
theorem main_none (a : Option Addr) (cap : Nat) (x y : Int) (w : World) :
    Calls Try.prog 7 #[.slice a 0 cap, .int .i64 x, .int .i64 y] w fun e w' => e = .returned (.bool true) ∧ Below w.heap.size w w' := by
  go_enter Try.func7, Try.ntmps7
  go_wp2_with (go_at_call 19; refine (bytes19_yes _ _ _ _ _ _ (by omega)).mono ?_; rintro e w' ⟨rfl, rfl⟩)
  refine (outcome_none a cap w).mono ?_
  rintro e w1 ⟨⟨a1, rfl⟩, hb1⟩
  have hb1' : Below w.heap.size w (w1.alloc (.cells #[.slice a1 0 0] 27)) := hb1.alloc hb1.size _
  have hcell : (w1.alloc (.cells #[.slice a1 0 0] 27)).cell? ⟨w1.heap.size, 0, none⟩ = some (.slice a1 0 0) := by simp
  have hlt1 : w1.heap.size < (w1.alloc (.cells #[.slice a1 0 0] 27)).heap.size := by simp
  have G3 : Hid _ := hb1'
  have G4 : Hid _ := hcell
  have G5 : Hid _ := hlt1
  clear hb1' hcell hlt1
  go_wp2_with fail
  refine (vouching_none a1 x 0 _).mono ?_
  rintro e w2 ⟨rfl, hb2⟩
  have hc2 : w2.cell? ⟨w1.heap.size, 0, none⟩ = some (.slice a1 0 0) := (hb2.cell (p := ⟨w1.heap.size, 0, none⟩) G5.out).trans G4.out
  have H2 : Below w.heap.size w w2 := G3.out.trans (hb2.mono G3.out.size)
  go_wp2_with fail
  refine (vouching_none a1 y 0 w2).mono ?_
  rintro e w3 ⟨rfl, hb3⟩
  have H3 : Below w.heap.size w w3 := H2.trans (hb3.mono H2.size)
  clear hb1 G3 G4 G5 hb2 hb3 hc2 H2
  go_wp2_with (first
    | (go_at_call 20; refine (fmatched_none a cap _ _).mono ?_; rintro e w4 ⟨rfl, rfl⟩)
    | (go_at_call 18; refine (vmodel_none a x cap _).mono ?_; rintro e w6 ⟨rfl, rfl⟩))
  go_ret
  exact ⟨rfl, H3⟩

theorem walk (a : Option Addr) (len cap : Nat) (R : Nat → Int) (C : Nat → Bool) (V U : Nat → Int) (x y : Int) (w : World) (h : IsReps w a len cap R C V U) (wx : (Lit.int .i64 x).wf = true) (wy : (Lit.int .i64 y).wf = true) :
    Calls Try.prog 7 #[.slice a len cap, .int .i64 x, .int .i64 y] w fun e w' => e = .returned (.bool true) ∧ Below w.heap.size w w' := by
  obtain ⟨hl, hm, hnil, hp⟩ := h
  have hm' : len ≤ 9223372036854775807 := by unfold maxLen at hm; omega
  by_cases h1 : 1048576 < len
  · go_enter Try.func7, Try.ntmps7
    go_wp2_with (go_at_call 19; refine (bytes19_no _ _ _ _ _ _ h1 hm').mono ?_; rintro e w' ⟨rfl, rfl⟩)
    go_ret
    exact ⟨rfl, Below.refl _ _⟩
  · by_cases h2 : 4096 < len
    · go_enter Try.func7, Try.ntmps7
      go_wp2_with (go_at_call 19; refine (bytes19_yes _ _ _ _ _ _ (by omega)).mono ?_; rintro e w' ⟨rfl, rfl⟩)
      go_ret
      exact ⟨rfl, Below.refl _ _⟩
    · by_cases h3 : 0 < len
      · obtain ⟨b, off, rfl, hb, hr⟩ := hp h3
        exact main_some b off len cap R C V U x y w (by omega) hb hr
      · obtain rfl : len = 0 := by omega
        exact main_none a cap x y w

/-! ### THE ROW's STEP (after the guide's shell for a slice and integers) -/
set_option maxRecDepth 100000 in
theorem lifted (os : Os) (started : os.Started) (H : Type) (enc : TypeId × Value → H) :
    ReturnsInHanded {} Try.checked os 7 .any (Rows.fnVouchingAcrossTwoMastersSpec.pre6 enc Try.prog Try.f7 Rows.fnVouchingAcrossTwoMastersRow.domain false) (Rows.fnVouchingAcrossTwoMastersSpec.post enc Try.prog Try.f7 false true false false) := by
  refine returnsInHanded_of_change (C := Try.checked) own started (by kernel_rfl) Try.func7
    (ChangeSpec.witness6 (enc := enc) (C := Try.checked) false ⟨#[], #[.slice none 0 0, .int .i64 0, .int .i64 0], []⟩ 8 (by kernel_rfl) (by kernel_rfl) (by kernel_rfl) (by kernel_rfl)) ?_
  intro W base args ds gs before hval0 hW hcnd _
  have hval : ∀ (j : Nat) t v, Try.f7.params[j]? = some t → args[j]? = some v → Value.okWide Try.prog W .any base t v := hval0
  have hW' := hW
  obtain ⟨p, q, hA0, hV, rfl, hfz, hnd⟩ := hW
  have hA : DataW.TrodAll enc Try.prog W 0 (fun _ => true) true Try.f7.params.toList args.toList ds p := hA0
  rw [Try.params7] at hA hval
  obtain ⟨v0, vs0, d0, ds0, p0, q0, hargs, rfl, rfl, h0, r0⟩ := trodAll_cons hA
  obtain ⟨v1, vs1, d1, ds1, p1, q1, rfl, rfl, rfl, h1, r1⟩ := trodAll_cons r0
  obtain ⟨v2, vs2, d2, ds2, p2, q2, rfl, rfl, rfl, h2, r2⟩ := trodAll_cons r1
  obtain ⟨rfl, rfl, rfl⟩ := trodAll_nil r2
  obtain rfl : args = #[v0, v1, v2] := by cases args; simp_all
  obtain ⟨rfl, rfl⟩ := trodVars_none hV
  obtain ⟨a0, len0, cap0, rfl⟩ := okWide_slice Try.underlying22 (hval 0 22 v0 rfl rfl)
  have k0 := h0
  have lt0 : ∀ x ∈ p0, x.block < W.heap.size := by obtain ⟨m, hm⟩ := k0; exact DataW.trod_lt m _ _ _ hm
  obtain ⟨R, C, V, U, w0⟩ : ∃ R C V U, IsReps W a0 len0 cap0 R C V U := by
    obtain ⟨fuel, hf⟩ := h0
    exact open_reps hf
  obtain ⟨a1, rfl, rfl, rfl, w1⟩ := open_int Try.underlying3 (hval 1 3 v1 rfl rfl) h1
  obtain ⟨a2, rfl, rfl, rfl, w2⟩ := open_int Try.underlying3 (hval 2 3 v2 rfl rfl) h2
  clear hA0 hval0
  refine (walk a0 len0 cap0 R C V U a1 a2 W w0 w1 w2).mono fun e W' ⟨he, bel⟩ => ?_
  subst he
  exact ⟨_, rfl, _, _, _, [], _, [], hW', trodAll_mk1 (shut_bool Try.underlying4 _), (trodAll_cons_mk (Below.trod laidOut (by kernel_rfl) (of_decide_eq_true (by kernel_rfl)) k0 bel lt0) (trodAll_cons_mk (shut_int Try.underlying3 w1) (trodAll_cons_mk (shut_int Try.underlying3 w2) trodAll_mk0))), rfl, bel.frame _, fun h => by cases h⟩

/-- THE STATEMENT. -/
theorem twoMasters_proved : Rows.FnVouchingAcrossTwoMastersSaid :=
  OpenClaim.holds_of_wide 7 Try.f7 rfl rfl rfl rfl rfl rfl rfl ⟨rfl, rfl, rfl, rfl, rfl⟩ rfl rfl rfl rfl rfl (by kernel_rfl) Try.func7 (by kernel_rfl)
    (of_decide_eq_true (by kernel_rfl)) (by unfold Func.isWrapper; first | (rw [if_pos (by decide +kernel)]; kernel_rfl) | (rw [if_neg (by decide +kernel)]; exact ⟨rfl, rfl⟩))
    (fun os started H enc _ => lifted os started H enc)
end Go.Proofs.Qxb6619327a.LawTM
