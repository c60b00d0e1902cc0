/-
  THE LAW FnUnitLettersOneMoreInFront: the guide's shell, its hole filled.
-/
import Derived.Test.Qxb6620853aRows
import Derived.Test.Qxb6620853aWalk
import Derived.WalkKit
import Derived.ProofKit
import Derived.OpenShut
import Derived.ShutString
namespace Go.Proofs.Qxb6620853a.fnUnitLettersOneMoreInFront
open Go.ChangeShapes Go.WideShapes Go.ChangeAt Go.RowKit
open Go.Proofs.Qxb6620853a.Plain
open Go.ChangeMaps (open_string shut_string)
set_option linter.unusedVariables false      -- a walk need not use every 'w<i>' (that an integer argument fits its kind)

theorem own : ownKnob Try.prog.godebug = none := by kernel_rfl


theorem bytes_yes (c : Int) (s : ByteArray) (w : World) (h : s.size ≤ 1048576) : Calls Try.prog 9 #[.int .u8 c, .string s] w fun e w' => e = .returned (.bool true) ∧ w = w' := by
  go_enter Try.func9, Try.ntmps9
  go_wp2
  go_ret
  exact ⟨rfl, rfl⟩
theorem bytes_no (c : Int) (s : ByteArray) (w : World) (hs : s.size ≤ maxLen) (h : 1048576 < s.size) : Calls Try.prog 9 #[.int .u8 c, .string s] w fun e w' => e = .returned (.bool false) ∧ w = w' := by
  unfold maxLen at hs
  go_enter Try.func9, Try.ntmps9
  go_wp2
  go_ret
  exact ⟨rfl, rfl⟩

theorem conv1 (b : UInt8) (w : World) : (convert 26 9 (.slice (some ⟨w.heap.size, 0, none⟩) 1 1)).run Try.prog (w.alloc (.cells #[.int .u8 (b.toNat : Int)] 5)) = .ok (.string ⟨#[b]⟩) (w.alloc (.cells #[.int .u8 (b.toNat : Int)] 5)) := by
  rw [run_convert_bytes_string _ 26 9 5 _ _ _ Try.underlying26 Try.underlying5 Try.underlying9]
  rw [run_bytesToString _ _ _ _ [(b.toNat : Int)] (by simp [loadCells, go_sem])]
  simp
  rfl
theorem front_list (b : UInt8) (s : ByteArray) : ((⟨#[b]⟩ : ByteArray) ++ s).data.toList = b :: s.data.toList := by
  simp
theorem front_size (b : UInt8) (s : ByteArray) : ((⟨#[b]⟩ : ByteArray) ++ s).size = s.size + 1 := by
  rw [Lib.size_eq, front_list, List.length_cons, ← Lib.size_eq]

set_option maxHeartbeats 800000 in
theorem main (b : UInt8) (s : ByteArray) (w : World) (hs : s.size ≤ 1048576) :
    Calls Try.prog 4 #[.int .u8 (b.toNat : Int), .string s] w fun e w' => e = .returned (.bool true) ∧ Grown w w' := by
  have hcv := conv1 b w
  have HZ : Hid _ := front_size b s
  have HL : Hid _ := front_list b s
  go_enter Try.func4, Try.ntmps4
  go_wp2_with (go_at_call 9; refine (bytes_yes _ _ _ hs).mono ?_; rintro e w' ⟨rfl, rfl⟩)
  refine (units6 _ _ (by rw [HZ.out]; omega)).mono ?_
  rintro e w1 ⟨rfl, rfl⟩
  generalize ((⟨#[b]⟩ : ByteArray) ++ s) = t at *
  have hus : ul s.data.toList ≤ s.size := by have := ul_le s.data.toList; rwa [← Lib.size_eq] at this
  have hz : t.size ≤ 1048577 := by rw [HZ.out]; omega
  cases hb : letterB b
  · have hb' : isLetter (b.toNat : Int) = false := hb
    have HB : Hid _ := hb
    have hue : ul (t.extract 2 t.size).data.toList ≤ t.size := by
      have h1 := ul_le (t.extract 2 t.size).data.toList
      rw [← Lib.size_eq] at h1
      have h2 := extract_size t 2
      omega
    clear hb
    go_wp2_with (go_at_call 10; refine (letter_no _ _ hb').mono ?_; rintro e w' ⟨rfl, rfl⟩)
    · have hm : ((t.extract 0 2).toList == [194, 181]) = true := by assumption
      rw [extract2] at hm
      have HM : Hid (micro t.data.toList = true) := hm
      clear hm
      refine (units6 _ _ (by have := extract_size t 2; omega)).mono ?_
      rintro e w2 ⟨rfl, rfl⟩
      have hx : ul (t.extract 2 t.size).data.toList = ul (t.data.toList.drop 2) := by rw [extract_end]
      generalize ul (t.extract 2 t.size).data.toList = x at *
      have HX : Hid _ := hx
      clear hx
      go_wp2
      go_ret
      exact ⟨ret_bool (by rw [ul_micro' HM.out, HX.out]; simp), (Grown.refl _).alloc _ _⟩
    · have hm : ((t.extract 0 2).toList == [194, 181]) = false := by assumption
      rw [extract2, HL.out] at hm
      go_ret
      exact ⟨ret_bool (by rw [HL.out, ul_other _ _ HB.out hm]; rfl), (Grown.refl _).alloc _ _⟩
    · have hm : (t.size : Int) < 2 := by assumption
      have hm' : micro (b :: s.data.toList) = false := by
        have h0 : s.data.toList = [] := by
          rw [HZ.out] at hm
          rw [← List.length_eq_zero_iff, ← Lib.size_eq]; omega
        rw [h0]; simp [micro]
      go_ret
      exact ⟨ret_bool (by rw [HL.out, ul_other _ _ HB.out hm']; rfl), (Grown.refl _).alloc _ _⟩
  · have hb' : isLetter (b.toNat : Int) = true := hb
    have HB : Hid _ := hb
    clear hb
    go_wp2_with (first | (go_at_call 10; refine (letter_yes _ _ hb').mono ?_; rintro e w' ⟨rfl, rfl⟩) | (go_at_call 6; refine (units6 _ _ (by omega)).mono ?_; rintro e w' ⟨rfl, rfl⟩))
    go_ret
    exact ⟨ret_bool (by rw [HL.out, ul_letter _ _ HB.out]; simp), (Grown.refl _).alloc _ _⟩

theorem byte_of (c : Int) (h : (Lit.int .u8 c).wf = true) : ∃ b : UInt8, c = (b.toNat : Int) := by
  have hc : 0 ≤ c ∧ c < 256 := by
    have := bounds_u8 h
    omega
  refine ⟨UInt8.ofNat c.toNat, ?_⟩
  rw [UInt8.toNat_ofNat_of_lt' (show c.toNat < 256 by omega)]
  omega

theorem walk (a0 : Int) (a1 : ByteArray) (w0 : (Lit.int .u8 a0).wf = true) (w1 : a1.size ≤ maxLen) (w : World) :
    Calls Try.prog 4 #[.int .u8 a0, .string a1] w fun e w' => e = .returned (.bool true) ∧ Grown w w' := by
  obtain ⟨b, rfl⟩ := byte_of a0 w0
  by_cases h : a1.size ≤ 1048576
  · exact main b a1 w h
  · go_enter Try.func4, Try.ntmps4
    go_wp2_with (go_at_call 9; refine (bytes_no _ _ _ w1 (by omega)).mono ?_; rintro e w' ⟨rfl, rfl⟩)
    go_ret
    exact ⟨rfl, Grown.refl _⟩

/-! ### THE ROW's STEP: WRITTEN OUT: LEAVE IT -/
set_option maxRecDepth 100000 in
theorem lifted (os : Os) (started : os.Started) (H : Type) (enc : TypeId × Value → H) :
    ReturnsInHanded {} Try.checked os 4 .any (Rows.fnUnitLettersOneMoreInFrontSpec.pre6 enc Try.prog Try.f4 Rows.fnUnitLettersOneMoreInFrontRow.domain false) (Rows.fnUnitLettersOneMoreInFrontSpec.post enc Try.prog Try.f4 false true false false) := by
  refine returnsInHanded_of_change (C := Try.checked) own started (by kernel_rfl) Try.func4
    (ChangeSpec.witness6 (enc := enc) (C := Try.checked) false ⟨#[], #[.int .u8 0, .string ByteArray.empty], []⟩ 8 (by kernel_rfl) (by kernel_rfl) (by kernel_rfl) (by kernel_rfl)) ?_
  intro W base args ds gs before hval0 hW hcnd _
  have hval : ∀ (j : Nat) t v, Try.f4.params[j]? = some t → args[j]? = some v → Value.okWide Try.prog W .any base t v := hval0
  have hW' := hW
  obtain ⟨p, q, hA0, hV, rfl, hfz, hnd⟩ := hW
  have hA : DataW.TrodAll enc Try.prog W 0 (fun _ => true) true Try.f4.params.toList args.toList ds p := hA0
  rw [Try.params4] at hA hval
  obtain ⟨v0, vs0, d0, ds0, p0, q0, hargs, rfl, rfl, h0, r0⟩ := trodAll_cons hA
  obtain ⟨v1, vs1, d1, ds1, p1, q1, rfl, rfl, rfl, h1, r1⟩ := trodAll_cons r0
  obtain ⟨rfl, rfl, rfl⟩ := trodAll_nil r1
  obtain rfl : args = #[v0, v1] := by cases args; simp_all
  obtain ⟨rfl, rfl⟩ := trodVars_none hV
  obtain ⟨a0, rfl, rfl, rfl, w0⟩ := open_int Try.underlying5 (hval 0 5 v0 rfl rfl) h0
  obtain ⟨a1, rfl, rfl, rfl, w1⟩ := open_string Try.underlying9 (hval 1 9 v1 rfl rfl) h1
  clear hA0 hval0
  simp only [List.append_nil] at hW'
  refine (walk a0 a1 w0 w1 W).mono fun e W' ⟨he, hg⟩ => ?_
  subst he
  exact ⟨_, rfl, post_of_same (pa := []) (pv := []) hW' (fun _ _ _ => (trodAll_cons_mk (shut_bool Try.underlying4 _) trodAll_mk0)) (fun sp _ => (trodAll_cons_mk (shut_int Try.underlying5 w0) (trodAll_cons_mk (shut_string Try.underlying9 w1) trodAll_mk0))) (fun _ _ => rfl) rfl
    (hg.frame _) hg.2.1 (ok_one (by kernel_rfl) rfl (okWide_bool_mk Try.underlying4 _))⟩

theorem over : Rows.fnUnitLettersOneMoreInFrontRow.holds Try.pinned (OpenSpec.ofChange Rows.fnUnitLettersOneMoreInFrontSpec) :=
  OpenClaim.holds_of_wide 4 Try.f4 rfl rfl rfl rfl rfl rfl rfl ⟨rfl, rfl, rfl, rfl, rfl⟩ rfl rfl rfl rfl rfl (by kernel_rfl) Try.func4 (by kernel_rfl)
    (of_decide_eq_true (by kernel_rfl)) (by unfold Func.isWrapper; first | (rw [if_pos (by decide +kernel)]; kernel_rfl) | (rw [if_neg (by decide +kernel)]; exact ⟨rfl, rfl⟩))
    (fun os started H enc _ => lifted os started H enc)

/-- THE STATEMENT -/
theorem proved : Rows.FnUnitLettersOneMoreInFrontSaid :=
  over
end Go.Proofs.Qxb6620853a.fnUnitLettersOneMoreInFront
