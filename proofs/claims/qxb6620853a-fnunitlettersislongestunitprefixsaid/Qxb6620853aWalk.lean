/-
  THE WALKS: unitLetter (10), strings.HasPrefix (12), unitLetters (11), ZZUnitLetters (6).
-/
import Derived.Test.Qxb6620853aRows
import Derived.Test.Qxb6620853aPlain
import Derived.WalkKit
import Derived.WalkSpells
import Derived.Lib.Strings
namespace Go.Proofs.Qxb6620853a
open Go.RowKit Go.Proofs.Qxb6620853a.Plain

theorem ret_bool {a b : Bool} (h : a = b) : Ending.returned (.bool a) = .returned (.bool b) := by rw [h]
theorem ret_int {k : IntKind} {a b : Int} (h : a = b) : Ending.returned (.int k a) = .returned (.int k b) := by rw [h]

theorem letter_yes (c : Int) (w : World) (h : isLetter c = true) : Calls Try.prog 10 #[.int .u8 c] w fun e w' => e = .returned (.bool true) ∧ w = w' := by
  by_cases h1 : 97 ≤ c ∧ c ≤ 122
  · obtain ⟨h1, h2⟩ := h1
    go_enter Try.func10, Try.ntmps10
    go_wp2
    go_ret
    exact ⟨rfl, rfl⟩
  · have h2 : 65 ≤ c ∧ c ≤ 90 := by
      simp [isLetter] at h; omega
    obtain ⟨h2, h3⟩ := h2
    have h4 : ¬ 97 ≤ c := by omega
    clear h h1
    go_enter Try.func10, Try.ntmps10
    go_wp2
    go_ret
    exact ⟨rfl, rfl⟩
theorem letter_no (c : Int) (w : World) (h : isLetter c = false) : Calls Try.prog 10 #[.int .u8 c] w fun e w' => e = .returned (.bool false) ∧ w = w' := by
  have h' : ¬ (97 ≤ c ∧ c ≤ 122) ∧ ¬ (65 ≤ c ∧ c ≤ 90) := by
    simp [isLetter] at h; omega
  clear h
  by_cases h1 : c < 65
  · have h2 : ¬ 97 ≤ c := by omega
    clear h'
    go_enter Try.func10, Try.ntmps10
    go_wp2
    go_ret
    exact ⟨rfl, rfl⟩
  · by_cases h2 : c < 97
    · have h3 : 90 < c := by omega
      clear h'
      go_enter Try.func10, Try.ntmps10
      go_wp2
      go_ret
      exact ⟨ret_bool (by simp; omega), rfl⟩
    · have h3 : 122 < c := by omega
      clear h'
      go_enter Try.func10, Try.ntmps10
      go_wp2
      go_ret
      exact ⟨ret_bool (by simp; omega), rfl⟩

theorem extract2 (x : ByteArray) : (x.extract 0 2).toList = x.data.toList.take 2 := by rw [Lib.extract_toList]; simp
theorem pfx_yes (x : ByteArray) (w : World) (hs : x.size ≤ maxLen) (h : micro x.data.toList = true) : Calls Try.prog 12 #[.string x, .string ⟨#[194, 181]⟩] w fun e w' => e = .returned (.bool true) ∧ w = w' := by
  unfold maxLen at hs
  have h2 : 2 ≤ x.size := by
    obtain ⟨t, ht⟩ := micro_form h
    rw [Lib.size_eq, ht]; simp
  have h3 : ((x.extract 0 2).toList == [194, 181]) = true := by rw [extract2]; exact h
  clear h
  go_enter Try.func12, Try.ntmps12
  go_wp2
  go_ret
  exact ⟨rfl, rfl⟩
theorem pfx_no (x : ByteArray) (w : World) (hs : x.size ≤ maxLen) (h : micro x.data.toList = false) : Calls Try.prog 12 #[.string x, .string ⟨#[194, 181]⟩] w fun e w' => e = .returned (.bool false) ∧ w = w' := by
  unfold maxLen at hs
  have h3 : ((x.extract 0 2).toList == [194, 181]) = false := by rw [extract2]; exact h
  clear h
  by_cases h2 : 2 ≤ x.size
  · go_enter Try.func12, Try.ntmps12
    go_wp2
    go_ret
    exact ⟨rfl, rfl⟩
  · go_enter Try.func12, Try.ntmps12
    go_wp2
    go_ret
    exact ⟨rfl, rfl⟩

theorem bits_table : ∀ n : Fin 256, (decide (97 ≤ bits BinOp.or IntKind.u8 ((n.val : Nat) : Int) 32) && decide (bits BinOp.or IntKind.u8 ((n.val : Nat) : Int) 32 ≤ 122)) = isLetter ((n.val : Nat) : Int) := by decide +kernel
/-- 'c | 0x20' lies in a..z just where c is an ASCII letter. -/
theorem bits_letter (c : UInt8) : (decide (97 ≤ bits BinOp.or IntKind.u8 (c.toNat : Int) 32) && decide (bits BinOp.or IntKind.u8 (c.toNat : Int) 32 ≤ 122)) = letterB c :=
  bits_table ⟨c.toNat, c.toNat_lt⟩
theorem bits_yes {c : UInt8} (h : letterB c = true) : 97 ≤ bits BinOp.or IntKind.u8 (c.toNat : Int) 32 ∧ bits BinOp.or IntKind.u8 (c.toNat : Int) 32 ≤ 122 := by
  rw [← bits_letter] at h; simpa using h
theorem bits_no {c : UInt8} (h : letterB c = false) : bits BinOp.or IntKind.u8 (c.toNat : Int) 32 < 97 ∨ 122 < bits BinOp.or IntKind.u8 (c.toNat : Int) 32 := by
  rw [← bits_letter] at h; simp at h; omega

theorem drop_at (s : ByteArray) (k : Nat) (h : k < s.size) : s.data.toList.drop k = s[k] :: s.data.toList.drop (k + 1) := by
  rw [List.drop_eq_getElem_cons (by rw [← Lib.size_eq]; exact h)]; rfl
theorem extract_end (s : ByteArray) (k : Nat) : (s.extract k s.size).data.toList = s.data.toList.drop k := by
  rw [Lib.extract_data, List.take_of_length_le (by rw [List.length_drop, ← Lib.size_eq]; exact Nat.le_refl _)]
theorem extract_size (s : ByteArray) (k : Nat) : (s.extract k s.size).size ≤ s.size := by
  rw [Lib.size_eq, extract_end, Lib.size_eq]; simp

set_option maxHeartbeats 800000 in
theorem units (s : ByteArray) (w : World) (hs : s.size ≤ 1048577) :
    Calls Try.prog 11 #[.string s] w fun e w' => e = .returned (.int .i64 (ul s.data.toList : Int)) ∧ w = w' := by
  go_enter Try.func11, Try.ntmps11
  go_wp2
  go_loop [3] (fun i => ∃ k : Nat, k ≤ s.size ∧ i = .int .i64 k ∧ ul s.data.toList = k + ul (s.data.toList.drop k)) (fun i => s.size - (intOf i).toNat)
  case atStart => exact ⟨0, Nat.zero_le _, rfl, by simp⟩
  case round =>
    obtain ⟨k, hk, rfl, hu⟩ := hrel
    have HU : Hid _ := hu
    clear hu
    by_cases hlt : k < s.size
    · have HD : Hid _ := drop_at s k hlt
      have hes : (s.extract k s.size).size ≤ maxLen := by have := extract_size s k; unfold maxLen; omega
      have HE : Hid _ := extract_end s k
      cases hl : letterB s[k]
      · have HL : Hid _ := hl
        have hb := bits_no hl
        clear hl
        cases hm : micro (s.data.toList.drop k)
        · have HM : Hid _ := hm
          clear hm
          rcases hb with hb | hb
          all_goals
            go_wp2_with (go_at_call 12; refine (pfx_no _ _ hes (by rw [HE.out]; exact HM.out)).mono ?_; rintro e w' ⟨rfl, rfl⟩)
            go_ret
            exact ⟨ret_int (by rw [HU.out, HD.out, ul_other _ _ HL.out (HD.out ▸ HM.out)]; simp), rfl⟩
        · have HM : Hid _ := hm
          have h2 : k + 2 ≤ s.size := by
            obtain ⟨t, ht⟩ := micro_form hm
            have := congrArg List.length ht
            simp at this
            rw [Lib.size_eq]; simp; omega
          clear hm
          rcases hb with hb | hb
          all_goals
            go_wp2_with (go_at_call 12; refine (pfx_yes _ _ hes (by rw [HE.out]; exact HM.out)).mono ?_; rintro e w' ⟨rfl, rfl⟩)
            go_round
            case rel => exact ⟨k + 2, by omega, by go_num, by rw [HU.out, ul_micro' HM.out, List.drop_drop]; omega⟩
            case measure => simp [intOf]; omega
      · have HL : Hid _ := hl
        obtain ⟨b1, b2⟩ := bits_yes hl
        clear hl
        go_wp2
        go_round
        case rel => exact ⟨k + 1, by omega, by go_num, by rw [HU.out, HD.out, ul_letter _ _ HL.out]; omega⟩
        case measure => simp [intOf]; omega
    · go_wp2
      go_ret
      have : k = s.size := by omega
      subst this
      exact ⟨ret_int (by rw [HU.out, List.drop_of_length_le (by rw [← Lib.size_eq]; exact Nat.le_refl _)]; simp [ul]), rfl⟩

theorem units6 (s : ByteArray) (w : World) (hs : s.size ≤ 1048577) :
    Calls Try.prog 6 #[.string s] w fun e w' => e = .returned (.int .i64 (ul s.data.toList : Int)) ∧ w = w' := by
  go_enter Try.func6, Try.ntmps6
  go_wp2_with (go_at_call 11; refine (units s _ hs).mono ?_; rintro e w' ⟨rfl, rfl⟩)
  go_ret
  exact ⟨rfl, rfl⟩
end Go.Proofs.Qxb6620853a
