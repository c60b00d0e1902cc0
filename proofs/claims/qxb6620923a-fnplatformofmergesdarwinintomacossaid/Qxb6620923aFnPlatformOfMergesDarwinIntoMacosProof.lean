/-
  THE LAW FnPlatformOfMergesDarwinIntoMacos: the guide's shell, its hole filled.
-/
import Derived.Test.Qxb6620923aRows
import Derived.WalkKit
import Derived.ProofKit
import Derived.OpenShut
import Derived.ShutString
namespace Go.Proofs.Qxb6620923a.fnPlatformOfMergesDarwinIntoMacos
open Go.ChangeShapes Go.WideShapes Go.ChangeAt Go.RowKit
open Go.ChangeMaps (open_string shut_string)
set_option linter.unusedVariables false      -- a walk need not use every 'w<i>' (that an integer argument fits its kind)

theorem own : ownKnob Try.prog.godebug = none := by kernel_rfl


theorem of_list {a : ByteArray} {l : List UInt8} (h : a.toList = l) : a = ⟨l.toArray⟩ := by
  rw [ByteArray.toList_eq] at h
  subst h
  rfl

theorem bytes_yes (a b : ByteArray) (w : World) (h : a.size + b.size ≤ 1048576) : Calls Try.prog 4 #[.string a, .string b] w fun e w' => e = .returned (.bool true) ∧ w = w' := by
  go_enter Try.func4, Try.ntmps4
  go_wp2
  go_ret
  exact ⟨rfl, rfl⟩
theorem bytes_no (a b : ByteArray) (w : World) (ha : a.size ≤ maxLen) (hb : b.size ≤ maxLen) (h : 1048576 < a.size + b.size) : Calls Try.prog 4 #[.string a, .string b] w fun e w' => e = .returned (.bool false) ∧ w = w' := by
  unfold maxLen at ha hb
  by_cases h1 : 1048576 < a.size
  · go_enter Try.func4, Try.ntmps4
    go_wp2
    go_ret
    exact ⟨rfl, rfl⟩
  · by_cases h2 : 1048576 < b.size
    · go_enter Try.func4, Try.ntmps4
      go_wp2
      go_ret
      exact ⟨rfl, rfl⟩
    · go_enter Try.func4, Try.ntmps4
      go_wp2
      go_ret
      exact ⟨rfl, rfl⟩

theorem ne_of {a : ByteArray} {l : List UInt8} (h : ¬ a.toList = l) : (a.toList == l) = false ∧ (l == a.toList) = false :=
  ⟨by simpa using h, by simpa using fun e => h e.symm⟩

set_option maxRecDepth 100000 in
set_option maxHeartbeats 1600000 in
theorem main (a b : ByteArray) (w : World) (hs : a.size + b.size ≤ 1048576) (ha : a.size ≤ 524288) (hb : b.size ≤ 524288) :
    Calls Try.prog 3 #[.string a, .string b] w fun e w' => e = .returned (.bool true) ∧ w = w' := by
  have HS : Hid _ := hs
  clear hs
  by_cases ad : a.toList = [100, 97, 114, 119, 105, 110]
  · obtain rfl := of_list ad
    clear ad
    by_cases bd : b.toList = [100, 97, 114, 119, 105, 110]
    · obtain rfl := of_list bd
      clear bd
      go_enter Try.func3, Try.ntmps3
      go_wp2_with (first | (go_at_call 4; refine (bytes_yes _ _ _ HS.out).mono ?_; rintro e w' ⟨rfl, rfl⟩) | go_in)
      go_ret
      exact ⟨rfl, rfl⟩
    · by_cases bm : b.toList = [109, 97, 99, 111, 115]
      · obtain rfl := of_list bm
        clear bd bm
        go_enter Try.func3, Try.ntmps3
        go_wp2_with (first | (go_at_call 4; refine (bytes_yes _ _ _ HS.out).mono ?_; rintro e w' ⟨rfl, rfl⟩) | go_in)
        go_ret
        exact ⟨rfl, rfl⟩
      · obtain ⟨d1, d2⟩ := ne_of bd
        obtain ⟨m1, m2⟩ := ne_of bm
        clear bd bm
        go_enter Try.func3, Try.ntmps3
        go_wp2_with (first | (go_at_call 4; refine (bytes_yes _ _ _ HS.out).mono ?_; rintro e w' ⟨rfl, rfl⟩) | go_in)
        go_ret
        exact ⟨rfl, rfl⟩
  · by_cases am : a.toList = [109, 97, 99, 111, 115]
    · obtain rfl := of_list am
      clear ad am
      by_cases bd : b.toList = [100, 97, 114, 119, 105, 110]
      · obtain rfl := of_list bd
        clear bd
        go_enter Try.func3, Try.ntmps3
        go_wp2_with (first | (go_at_call 4; refine (bytes_yes _ _ _ HS.out).mono ?_; rintro e w' ⟨rfl, rfl⟩) | go_in)
        go_ret
        exact ⟨rfl, rfl⟩
      · by_cases bm : b.toList = [109, 97, 99, 111, 115]
        · obtain rfl := of_list bm
          clear bd bm
          go_enter Try.func3, Try.ntmps3
          go_wp2_with (first | (go_at_call 4; refine (bytes_yes _ _ _ HS.out).mono ?_; rintro e w' ⟨rfl, rfl⟩) | go_in)
          go_ret
          exact ⟨rfl, rfl⟩
        · obtain ⟨d1, d2⟩ := ne_of bd
          obtain ⟨m1, m2⟩ := ne_of bm
          clear bd bm
          go_enter Try.func3, Try.ntmps3
          go_wp2_with (first | (go_at_call 4; refine (bytes_yes _ _ _ HS.out).mono ?_; rintro e w' ⟨rfl, rfl⟩) | go_in)
          go_ret
          exact ⟨rfl, rfl⟩
    · obtain ⟨c1, c2⟩ := ne_of ad
      obtain ⟨n1, n2⟩ := ne_of am
      clear ad am
      by_cases bd : b.toList = [100, 97, 114, 119, 105, 110]
      · obtain rfl := of_list bd
        clear bd
        go_enter Try.func3, Try.ntmps3
        go_wp2_with (first | (go_at_call 4; refine (bytes_yes _ _ _ HS.out).mono ?_; rintro e w' ⟨rfl, rfl⟩) | go_in)
        go_ret
        exact ⟨rfl, rfl⟩
      · by_cases bm : b.toList = [109, 97, 99, 111, 115]
        · obtain rfl := of_list bm
          clear bd bm
          go_enter Try.func3, Try.ntmps3
          go_wp2_with (first | (go_at_call 4; refine (bytes_yes _ _ _ HS.out).mono ?_; rintro e w' ⟨rfl, rfl⟩) | go_in)
          go_ret
          exact ⟨rfl, rfl⟩
        · obtain ⟨d1, d2⟩ := ne_of bd
          obtain ⟨m1, m2⟩ := ne_of bm
          clear bd bm
          cases hab : (a.toList == b.toList)
          · go_enter Try.func3, Try.ntmps3
            go_wp2_with (first | (go_at_call 4; refine (bytes_yes _ _ _ HS.out).mono ?_; rintro e w' ⟨rfl, rfl⟩) | go_in)
            go_ret
            exact ⟨rfl, rfl⟩
          · go_enter Try.func3, Try.ntmps3
            go_wp2_with (first | (go_at_call 4; refine (bytes_yes _ _ _ HS.out).mono ?_; rintro e w' ⟨rfl, rfl⟩) | go_in)
            go_ret
            exact ⟨rfl, rfl⟩

theorem walk (a0 : ByteArray) (a1 : ByteArray) (w0 : a0.size ≤ maxLen) (w1 : a1.size ≤ maxLen) (w : World) :
    Calls Try.prog 3 #[.string a0, .string a1] w fun e w' => e = .returned (.bool true) ∧ Grown w w' := by
  by_cases hs : a0.size + a1.size ≤ 1048576
  · by_cases ha : a0.size ≤ 524288
    · by_cases hb : a1.size ≤ 524288
      · exact (main a0 a1 w hs ha hb).mono fun e w' h => by obtain ⟨he, rfl⟩ := h; exact ⟨he, Grown.refl _⟩
      · go_enter Try.func3, Try.ntmps3
        go_wp2_with (go_at_call 4; refine (bytes_yes _ _ _ hs).mono ?_; rintro e w' ⟨rfl, rfl⟩)
        go_ret
        exact ⟨rfl, Grown.refl _⟩
    · unfold maxLen at w0
      go_enter Try.func3, Try.ntmps3
      go_wp2_with (go_at_call 4; refine (bytes_yes _ _ _ hs).mono ?_; rintro e w' ⟨rfl, rfl⟩)
      go_ret
      exact ⟨rfl, Grown.refl _⟩
  · go_enter Try.func3, Try.ntmps3
    go_wp2_with (go_at_call 4; refine (bytes_no _ _ _ w0 w1 (by omega)).mono ?_; rintro e w' ⟨rfl, rfl⟩)
    go_ret
    exact ⟨rfl, Grown.refl _⟩

/-! ### THE ROW's STEP: WRITTEN OUT: LEAVE IT -/
set_option maxRecDepth 100000 in
theorem lifted (os : Os) (started : os.Started) (H : Type) (enc : TypeId × Value → H) :
    ReturnsInHanded {} Try.checked os 3 .any (Rows.fnPlatformOfMergesDarwinIntoMacosSpec.pre6 enc Try.prog Try.f3 Rows.fnPlatformOfMergesDarwinIntoMacosRow.domain false) (Rows.fnPlatformOfMergesDarwinIntoMacosSpec.post enc Try.prog Try.f3 false true false false) := by
  refine returnsInHanded_of_change (C := Try.checked) own started (by kernel_rfl) Try.func3
    (ChangeSpec.witness6 (enc := enc) (C := Try.checked) false ⟨#[], #[.string ByteArray.empty, .string ByteArray.empty], []⟩ 8 (by kernel_rfl) (by kernel_rfl) (by kernel_rfl) (by kernel_rfl)) ?_
  intro W base args ds gs before hval0 hW hcnd _
  have hval : ∀ (j : Nat) t v, Try.f3.params[j]? = some t → args[j]? = some v → Value.okWide Try.prog W .any base t v := hval0
  have hW' := hW
  obtain ⟨p, q, hA0, hV, rfl, hfz, hnd⟩ := hW
  have hA : DataW.TrodAll enc Try.prog W 0 (fun _ => true) true Try.f3.params.toList args.toList ds p := hA0
  rw [Try.params3] at hA hval
  obtain ⟨v0, vs0, d0, ds0, p0, q0, hargs, rfl, rfl, h0, r0⟩ := trodAll_cons hA
  obtain ⟨v1, vs1, d1, ds1, p1, q1, rfl, rfl, rfl, h1, r1⟩ := trodAll_cons r0
  obtain ⟨rfl, rfl, rfl⟩ := trodAll_nil r1
  obtain rfl : args = #[v0, v1] := by cases args; simp_all
  obtain ⟨rfl, rfl⟩ := trodVars_none hV
  obtain ⟨a0, rfl, rfl, rfl, w0⟩ := open_string Try.underlying9 (hval 0 9 v0 rfl rfl) h0
  obtain ⟨a1, rfl, rfl, rfl, w1⟩ := open_string Try.underlying9 (hval 1 9 v1 rfl rfl) h1
  clear hA0 hval0
  simp only [List.append_nil] at hW'
  refine (walk a0 a1 w0 w1 W).mono fun e W' ⟨he, hg⟩ => ?_
  subst he
  exact ⟨_, rfl, post_of_same (pa := []) (pv := []) hW' (fun _ _ _ => (trodAll_cons_mk (shut_bool Try.underlying4 _) trodAll_mk0)) (fun sp _ => (trodAll_cons_mk (shut_string Try.underlying9 w0) (trodAll_cons_mk (shut_string Try.underlying9 w1) trodAll_mk0))) (fun _ _ => rfl) rfl
    (hg.frame _) hg.2.1 (ok_one (by kernel_rfl) rfl (okWide_bool_mk Try.underlying4 _))⟩

theorem over : Rows.fnPlatformOfMergesDarwinIntoMacosRow.holds Try.pinned (OpenSpec.ofChange Rows.fnPlatformOfMergesDarwinIntoMacosSpec) :=
  OpenClaim.holds_of_wide 3 Try.f3 rfl rfl rfl rfl rfl rfl rfl ⟨rfl, rfl, rfl, rfl, rfl⟩ rfl rfl rfl rfl rfl (by kernel_rfl) Try.func3 (by kernel_rfl)
    (of_decide_eq_true (by kernel_rfl)) (by unfold Func.isWrapper; first | (rw [if_pos (by decide +kernel)]; kernel_rfl) | (rw [if_neg (by decide +kernel)]; exact ⟨rfl, rfl⟩))
    (fun os started H enc _ => lifted os started H enc)

/-- THE STATEMENT -/
theorem proved : Rows.FnPlatformOfMergesDarwinIntoMacosSaid :=
  over
end Go.Proofs.Qxb6620923a.fnPlatformOfMergesDarwinIntoMacos
