/-
  THE LAW FnUnitLettersIsLongestUnitPrefix: the guide's shell, its hole filled.
-/
import Derived.Test.Qxb6620853aRows
import Derived.Test.Qxb6620853aWalk
import Derived.WalkKit
import Derived.ProofKit
import Derived.OpenShut
import Derived.ShutString
namespace Go.Proofs.Qxb6620853a.fnUnitLettersIsLongestUnitPrefix
open Go.ChangeShapes Go.WideShapes Go.ChangeAt Go.RowKit
open Go.Proofs.Qxb6620853a.Plain
open Go.ChangeMaps (open_string shut_string)
set_option linter.unusedVariables false      -- a walk need not use every 'w<i>' (that an integer argument fits its kind)

theorem own : ownKnob Try.prog.godebug = none := by kernel_rfl


theorem bytes_yes (s : ByteArray) (w : World) (h : s.size ≤ 1048576) : Calls Try.prog 5 #[.string s] w fun e w' => e = .returned (.bool true) ∧ w = w' := by
  go_enter Try.func5, Try.ntmps5
  go_wp2
  go_ret
  exact ⟨rfl, rfl⟩
theorem bytes_no (s : ByteArray) (w : World) (hs : s.size ≤ maxLen) (h : 1048576 < s.size) : Calls Try.prog 5 #[.string s] w fun e w' => e = .returned (.bool false) ∧ w = w' := by
  unfold maxLen at hs
  go_enter Try.func5, Try.ntmps5
  go_wp2
  go_ret
  exact ⟨rfl, rfl⟩

theorem at_get (t : ByteArray) (k : Nat) (h : k < t.size) : t.data.toList[k]? = some t[k] := by
  rw [List.getElem?_eq_getElem (by rw [← Lib.size_eq]; exact h)]; rfl

/-- What the last token of a word says of the bytes ahead of k. -/
theorem last_letter {t : ByteArray} {k : Nat} {c : UInt8} {i : List UInt8} (hk : k ≤ t.size) (e : t.data.toList.take k = i ++ [c]) : ∃ h : k - 1 < t.size, 1 ≤ k ∧ t[k - 1] = c ∧ t.data.toList.take (k - 1) = i := by
  have hl := congrArg List.length e
  simp only [List.length_take, List.length_append, List.length_cons, List.length_nil, ← Lib.size_eq] at hl
  have h1 : 1 ≤ k := by omega
  refine ⟨by omega, h1, ?_, ?_⟩
  · have h2 := at_get t (k - 1) (by omega)
    have h3 : (t.data.toList.take k)[k - 1]? = some c := by
      rw [e, List.getElem?_append_right (by omega), show k - 1 - i.length = 0 by omega]; rfl
    rw [List.getElem?_take, if_pos (by omega), h2] at h3
    exact Option.some.inj h3
  · have h4 := congrArg (List.take (k - 1)) e
    rw [List.take_take, Nat.min_eq_left (by omega), List.take_left' (by omega)] at h4
    exact h4
theorem last_micro {t : ByteArray} {k : Nat} {i : List UInt8} (hk : k ≤ t.size) (e : t.data.toList.take k = i ++ [194, 181]) :
    ∃ h : k - 1 < t.size, 2 ≤ k ∧ t[k - 1] = 181 ∧ (t.extract (k - 2) k).toList = [194, 181] ∧ t.data.toList.take (k - 2) = i := by
  have hl := congrArg List.length e
  simp only [List.length_take, List.length_append, List.length_cons, List.length_nil, ← Lib.size_eq] at hl
  have h1 : 2 ≤ k := by omega
  refine ⟨by omega, h1, ?_, ?_, ?_⟩
  · have h2 := at_get t (k - 1) (by omega)
    have h3 : (t.data.toList.take k)[k - 1]? = some 181 := by
      rw [e, List.getElem?_append_right (by omega), show k - 1 - i.length = 1 by omega]; rfl
    rw [List.getElem?_take, if_pos (by omega), h2] at h3
    exact Option.some.inj h3
  · rw [Lib.extract_toList, ← List.drop_take, e, List.drop_left' (by omega)]
  · have h4 := congrArg (List.take (k - 2)) e
    rw [List.take_take, Nat.min_eq_left (by omega), List.take_left' (by omega)] at h4
    exact h4

set_option maxHeartbeats 800000 in
theorem word_yes (t : ByteArray) (w : World) (hs : t.size ≤ 1048577) (hw : Word t.data.toList) :
    Calls Try.prog 7 #[.string t] w fun e w' => e = .returned (.bool true) ∧ w = w' := by
  have HW : Hid _ := hw
  clear hw
  go_enter Try.func7, Try.ntmps7
  go_wp2
  go_loop [4] (fun i => ∃ k : Nat, k ≤ t.size ∧ i = .int .i64 k ∧ Word (t.data.toList.take k)) (fun i => (intOf i).toNat)
  case atStart => exact ⟨t.size, Nat.le_refl _, rfl, by rw [List.take_of_length_le (by rw [← Lib.size_eq]; exact Nat.le_refl _)]; exact HW.out⟩
  case round =>
    obtain ⟨k, hk, rfl, hwk⟩ := hrel
    clear HW
    by_cases hpos : 0 < k
    · rcases word_last hwk (fun e => by have h := congrArg List.length e; rw [List.length_take, ← Lib.size_eq, List.length_nil] at h; omega) with ⟨c, i, e, hc, hi⟩ | ⟨i, e, hi⟩
      · obtain ⟨h1, h2, h3, h4⟩ := last_letter hk e
        have hl : isLetter (t[k - 1].toNat : Int) = true := by rw [h3]; exact hc
        have H4 : Hid _ := h4
        have HI : Hid _ := hi
        clear hwk e hc h3 h4 hi
        go_wp2_with (go_at_call 10; refine (letter_yes _ _ hl).mono ?_; rintro e w' ⟨rfl, rfl⟩)
        go_round
        case rel => exact ⟨k - 1, by omega, by rw [show ((k - 1 : Nat) : Int) = (k : Int) - 1 by omega], by rw [H4.out]; exact HI.out⟩
        case measure => simp [intOf]; omega
      · obtain ⟨h1, h2, h3, h5, h4⟩ := last_micro hk e
        have hl : isLetter (t[k - 1].toNat : Int) = false := by rw [h3]; decide
        have H5 : ((t.extract (k - 2) k).toList == [194, 181]) = true := by rw [h5]; decide
        have H4 : Hid _ := h4
        have HI : Hid _ := hi
        clear hwk e h3 h4 h5 hi
        go_wp2_with (go_at_call 10; refine (letter_no _ _ hl).mono ?_; rintro e w' ⟨rfl, rfl⟩)
        go_round
        case rel => exact ⟨k - 2, by omega, by rw [show ((k - 2 : Nat) : Int) = (k : Int) - 2 by omega], by rw [H4.out]; exact HI.out⟩
        case measure => simp [intOf]; omega
    · go_wp2
      go_ret
      exact ⟨rfl, rfl⟩

theorem take_two (s : ByteArray) (n : Nat) : (s.extract n (n + 2)).toList = (s.data.toList.drop n).take 2 := by
  rw [Lib.extract_toList, show n + 2 - n = 2 by omega]

set_option maxHeartbeats 800000 in
theorem token_no (s : ByteArray) (n : Nat) (w : World) (hs : s.size ≤ 1048577) (hn : n ≤ s.size) (h : ul (s.data.toList.drop n) = 0) :
    Calls Try.prog 8 #[.string s, .int .i64 (n : Int)] w fun e w' => e = .returned (.bool false) ∧ w = w' := by
  by_cases hlt : n < s.size
  · have hd := drop_at s n hlt
    have hm := ul_zero_micro h
    rw [hd] at h
    have hl : isLetter (s[n].toNat : Int) = false := ul_zero_letter h
    have h2 : ((s.extract n (n + 2)).toList == [194, 181]) = false := by rw [take_two]; exact hm
    clear hm h hd
    by_cases h3 : n + 2 ≤ s.size
    · go_enter Try.func8, Try.ntmps8
      go_wp2_with (go_at_call 10; refine (letter_no _ _ hl).mono ?_; rintro e w' ⟨rfl, rfl⟩)
      go_ret
      exact ⟨rfl, rfl⟩
    · go_enter Try.func8, Try.ntmps8
      go_wp2_with (go_at_call 10; refine (letter_no _ _ hl).mono ?_; rintro e w' ⟨rfl, rfl⟩)
      go_ret
      exact ⟨rfl, rfl⟩
  · clear h
    go_enter Try.func8, Try.ntmps8
    go_wp2
    go_ret
    exact ⟨rfl, rfl⟩

theorem head_take (s : ByteArray) (n : Nat) : (s.extract 0 n).data.toList = s.data.toList.take n := by
  rw [Lib.extract_data]; simp

set_option maxHeartbeats 800000 in
theorem walk (a0 : ByteArray) (w0 : a0.size ≤ maxLen) (w : World) :
    Calls Try.prog 3 #[.string a0] w fun e w' => e = .returned (.bool true) ∧ Grown w w' := by
  by_cases h : a0.size ≤ 1048576
  · clear w0
    have hu : ul a0.data.toList ≤ a0.size := by have := ul_le a0.data.toList; rwa [← Lib.size_eq] at this
    have hes : (a0.extract 0 (ul a0.data.toList)).size ≤ 1048577 := by
      rw [Lib.size_eq, head_take, List.length_take, ← Lib.size_eq]; omega
    have hw : Word (a0.extract 0 (ul a0.data.toList)).data.toList := by rw [head_take]; exact word_take _
    have hz : ul (a0.data.toList.drop (ul a0.data.toList)) = 0 := ul_drop _
    have HE : Hid _ := hes
    have HW : Hid _ := hw
    have HZ : Hid _ := hz
    clear hes hw hz
    go_enter Try.func3, Try.ntmps3
    go_wp2_with (first
      | (go_at_call 5; refine (bytes_yes _ _ h).mono ?_; rintro e w' ⟨rfl, rfl⟩)
      | (go_at_call 6; refine (units6 _ _ (by omega)).mono ?_; rintro e w' ⟨rfl, rfl⟩)
      | (go_at_call 7; refine (word_yes _ _ HE.out HW.out).mono ?_; rintro e w' ⟨rfl, rfl⟩)
      | (go_at_call 8; refine (token_no _ _ _ (by omega) hu HZ.out).mono ?_; rintro e w' ⟨rfl, rfl⟩))
    go_ret
    exact ⟨rfl, Grown.refl _⟩
  · go_enter Try.func3, Try.ntmps3
    go_wp2_with (go_at_call 5; refine (bytes_no _ _ w0 (by omega)).mono ?_; rintro e w' ⟨rfl, rfl⟩)
    go_ret
    exact ⟨rfl, Grown.refl _⟩

/-! ### THE ROW's STEP: WRITTEN OUT: LEAVE IT -/
set_option maxRecDepth 100000 in
theorem lifted (os : Os) (started : os.Started) (H : Type) (enc : TypeId × Value → H) :
    ReturnsInHanded {} Try.checked os 3 .any (Rows.fnUnitLettersIsLongestUnitPrefixSpec.pre6 enc Try.prog Try.f3 Rows.fnUnitLettersIsLongestUnitPrefixRow.domain false) (Rows.fnUnitLettersIsLongestUnitPrefixSpec.post enc Try.prog Try.f3 false true false false) := by
  refine returnsInHanded_of_change (C := Try.checked) own started (by kernel_rfl) Try.func3
    (ChangeSpec.witness6 (enc := enc) (C := Try.checked) false ⟨#[], #[.string ByteArray.empty], []⟩ 8 (by kernel_rfl) (by kernel_rfl) (by kernel_rfl) (by kernel_rfl)) ?_
  intro W base args ds gs before hval0 hW hcnd _
  have hval : ∀ (j : Nat) t v, Try.f3.params[j]? = some t → args[j]? = some v → Value.okWide Try.prog W .any base t v := hval0
  have hW' := hW
  obtain ⟨p, q, hA0, hV, rfl, hfz, hnd⟩ := hW
  have hA : DataW.TrodAll enc Try.prog W 0 (fun _ => true) true Try.f3.params.toList args.toList ds p := hA0
  rw [Try.params3] at hA hval
  obtain ⟨v0, vs0, d0, ds0, p0, q0, hargs, rfl, rfl, h0, r0⟩ := trodAll_cons hA
  obtain ⟨rfl, rfl, rfl⟩ := trodAll_nil r0
  obtain rfl : args = #[v0] := by cases args; simp_all
  obtain ⟨rfl, rfl⟩ := trodVars_none hV
  obtain ⟨a0, rfl, rfl, rfl, w0⟩ := open_string Try.underlying9 (hval 0 9 v0 rfl rfl) h0
  clear hA0 hval0
  simp only [List.append_nil] at hW'
  refine (walk a0 w0 W).mono fun e W' ⟨he, hg⟩ => ?_
  subst he
  exact ⟨_, rfl, post_of_same (pa := []) (pv := []) hW' (fun _ _ _ => (trodAll_cons_mk (shut_bool Try.underlying4 _) trodAll_mk0)) (fun sp _ => (trodAll_cons_mk (shut_string Try.underlying9 w0) trodAll_mk0)) (fun _ _ => rfl) rfl
    (hg.frame _) hg.2.1 (ok_one (by kernel_rfl) rfl (okWide_bool_mk Try.underlying4 _))⟩

theorem over : Rows.fnUnitLettersIsLongestUnitPrefixRow.holds Try.pinned (OpenSpec.ofChange Rows.fnUnitLettersIsLongestUnitPrefixSpec) :=
  OpenClaim.holds_of_wide 3 Try.f3 rfl rfl rfl rfl rfl rfl rfl ⟨rfl, rfl, rfl, rfl, rfl⟩ rfl rfl rfl rfl rfl (by kernel_rfl) Try.func3 (by kernel_rfl)
    (of_decide_eq_true (by kernel_rfl)) (by unfold Func.isWrapper; first | (rw [if_pos (by decide +kernel)]; kernel_rfl) | (rw [if_neg (by decide +kernel)]; exact ⟨rfl, rfl⟩))
    (fun os started H enc _ => lifted os started H enc)

/-- THE STATEMENT -/
theorem proved : Rows.FnUnitLettersIsLongestUnitPrefixSaid :=
  over
end Go.Proofs.Qxb6620853a.fnUnitLettersIsLongestUnitPrefix
