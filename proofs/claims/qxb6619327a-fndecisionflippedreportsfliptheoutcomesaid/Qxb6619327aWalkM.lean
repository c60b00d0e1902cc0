/-
  THE WALKS OF zzReach (23), zzDecisionModel (12).
-/
import Derived.Test.Qxb6619327aWalkA
namespace Go.Proofs.Qxb6619327a
open Go.RowKit Go.Proofs.Qxb6619327a.Plain

theorem reach_hit {R : Nat → Int} {C : Nat → Bool} {k : Nat} {b : Bool} (h : first R k = true) (hc : C k = b) : cnt (side R C b) (k + 1) = cnt (side R C b) k + 1 := cnt_yes (by simp [side, h, hc])
theorem reach_old {R : Nat → Int} {C : Nat → Bool} {k : Nat} {b : Bool} (h : first R k = false) : cnt (side R C b) (k + 1) = cnt (side R C b) k := cnt_no (by simp [side, h])
theorem reach_miss {R : Nat → Int} {C : Nat → Bool} {k : Nat} {b : Bool} (hc : C k = !b) : cnt (side R C b) (k + 1) = cnt (side R C b) k := cnt_no (side_other hc)

theorem ret_two {a b c d : Bool} (h : a = c) (h2 : b = d) : Ending.returned (.tuple #[.bool a, .bool b]) = .returned (.tuple #[.bool c, .bool d]) := by rw [h, h2]

set_option maxHeartbeats 1600000 in
theorem reach_true (b off n cap : Nat) (R : Nat → Int) (C : Nat → Bool) (V U : Nat → Int) (f : Int) (w : World) (hn : n ≤ 4096) (hr : Reps w b off n R C V U) (h0 : 0 ≤ f) :
    Calls Try.prog 23 #[.slice (some ⟨b, off, none⟩) n cap, .int .i64 f, .bool true] w fun e w' => (∃ r, e = .returned (.int .i64 r) ∧ Reaches R C n f true r) ∧ ∃ nq, w' = w.drewN nq := by
  go_enter Try.func23, Try.ntmps23
  go_wp2
  go_loopw [7, 8] (fun c i wr => ∃ k : Nat, k ≤ n ∧ i = .int .i64 k ∧ c = .int .i64 (cnt (side R C true) k : Int) ∧ (cnt (side R C true) k : Int) ≤ f ∧ ∃ nq, wr = w.drewN nq) (fun _ i _ => n - (intOf i).toNat)
  case atStart => exact ⟨0, Nat.zero_le _, rfl, rfl, h0, 0, rfl⟩
  case round =>
    obtain ⟨k, hk, rfl, rfl, hle, nq, rfl⟩ := hrel
    by_cases hlt : k < n
    · have h2 := hr.c k hlt
      have hct := cnt_le (side R C true) k
      by_cases hC : C k = true
      · have HC : Hid _ := hC
        rw [hC] at h2
        clear hC
        by_cases hf : first R k = true
        · have H1 : Hid _ := reach_hit hf HC.out
          by_cases hgt : f < (cnt (side R C true) k : Int) + 1
          · go_wp2_with (go_at_call 24; refine (first_any b off n cap k R C V U (w.drewN nq) hn hlt (hr.drewN nq)).mono ?_; rintro e w1 ⟨rfl, nq1, rfl⟩)
            go_ret
            exact ⟨⟨k, rfl, Or.inr ⟨k, hlt, rfl, hle, by rw [H1.out]; push_cast; exact hgt⟩⟩, _, rfl⟩
          · go_wp2_with (go_at_call 24; refine (first_any b off n cap k R C V U (w.drewN nq) hn hlt (hr.drewN nq)).mono ?_; rintro e w1 ⟨rfl, nq1, rfl⟩)
            go_roundw
            case rel => exact ⟨k + 1, by omega, by go_num, by rw [H1.out]; go_num, by rw [H1.out]; push_cast; omega, _, rfl⟩
            case measure => simp [intOf]; omega
        · have hf' : first R k = false := by simpa using hf
          have H1 : Hid _ := reach_old (C := C) (b := true) hf'
          go_wp2_with (go_at_call 24; refine (first_any b off n cap k R C V U (w.drewN nq) hn hlt (hr.drewN nq)).mono ?_; rintro e w1 ⟨rfl, nq1, rfl⟩)
          go_roundw
          case rel => exact ⟨k + 1, by omega, by go_num, by rw [H1.out], by rw [H1.out]; exact hle, _, rfl⟩
          case measure => simp [intOf]; omega
      · have hC' : C k = false := by simpa using hC
        have H1 : Hid _ := reach_miss (R := R) (b := true) hC'
        rw [hC'] at h2
        clear hC hC'
        go_wp2
        go_roundw
        case rel => exact ⟨k + 1, by omega, by go_num, by rw [H1.out], by rw [H1.out]; exact hle, _, rfl⟩
        case measure => simp [intOf]; omega
    · go_wp2
      go_ret
      have : k = n := by omega
      subst this
      exact ⟨⟨-1, rfl, Or.inl ⟨rfl, hle⟩⟩, _, rfl⟩

set_option maxHeartbeats 1600000 in
theorem reach_false (b off n cap : Nat) (R : Nat → Int) (C : Nat → Bool) (V U : Nat → Int) (f : Int) (w : World) (hn : n ≤ 4096) (hr : Reps w b off n R C V U) (h0 : 0 ≤ f) :
    Calls Try.prog 23 #[.slice (some ⟨b, off, none⟩) n cap, .int .i64 f, .bool false] w fun e w' => (∃ r, e = .returned (.int .i64 r) ∧ Reaches R C n f false r) ∧ ∃ nq, w' = w.drewN nq := by
  go_enter Try.func23, Try.ntmps23
  go_wp2
  go_loopw [7, 8] (fun c i wr => ∃ k : Nat, k ≤ n ∧ i = .int .i64 k ∧ c = .int .i64 (cnt (side R C false) k : Int) ∧ (cnt (side R C false) k : Int) ≤ f ∧ ∃ nq, wr = w.drewN nq) (fun _ i _ => n - (intOf i).toNat)
  case atStart => exact ⟨0, Nat.zero_le _, rfl, rfl, h0, 0, rfl⟩
  case round =>
    obtain ⟨k, hk, rfl, rfl, hle, nq, rfl⟩ := hrel
    by_cases hlt : k < n
    · have h2 := hr.c k hlt
      have hct := cnt_le (side R C false) k
      by_cases hC : C k = false
      · have HC : Hid _ := hC
        rw [hC] at h2
        clear hC
        by_cases hf : first R k = true
        · have H1 : Hid _ := reach_hit hf HC.out
          by_cases hgt : f < (cnt (side R C false) k : Int) + 1
          · go_wp2_with (go_at_call 24; refine (first_any b off n cap k R C V U (w.drewN nq) hn hlt (hr.drewN nq)).mono ?_; rintro e w1 ⟨rfl, nq1, rfl⟩)
            go_ret
            exact ⟨⟨k, rfl, Or.inr ⟨k, hlt, rfl, hle, by rw [H1.out]; push_cast; exact hgt⟩⟩, _, rfl⟩
          · go_wp2_with (go_at_call 24; refine (first_any b off n cap k R C V U (w.drewN nq) hn hlt (hr.drewN nq)).mono ?_; rintro e w1 ⟨rfl, nq1, rfl⟩)
            go_roundw
            case rel => exact ⟨k + 1, by omega, by go_num, by rw [H1.out]; go_num, by rw [H1.out]; push_cast; omega, _, rfl⟩
            case measure => simp [intOf]; omega
        · have hf' : first R k = false := by simpa using hf
          have H1 : Hid _ := reach_old (C := C) (b := false) hf'
          go_wp2_with (go_at_call 24; refine (first_any b off n cap k R C V U (w.drewN nq) hn hlt (hr.drewN nq)).mono ?_; rintro e w1 ⟨rfl, nq1, rfl⟩)
          go_roundw
          case rel => exact ⟨k + 1, by omega, by go_num, by rw [H1.out], by rw [H1.out]; exact hle, _, rfl⟩
          case measure => simp [intOf]; omega
      · have hC' : C k = true := by simpa using hC
        have H1 : Hid _ := reach_miss (R := R) (b := false) hC'
        rw [hC'] at h2
        clear hC hC'
        go_wp2
        go_roundw
        case rel => exact ⟨k + 1, by omega, by go_num, by rw [H1.out], by rw [H1.out]; exact hle, _, rfl⟩
        case measure => simp [intOf]; omega
    · go_wp2
      go_ret
      have : k = n := by omega
      subst this
      exact ⟨⟨-1, rfl, Or.inl ⟨rfl, hle⟩⟩, _, rfl⟩


theorem reach_none (a : Option Addr) (cap : Nat) (f : Int) (b : Bool) (w : World) :
    Calls Try.prog 23 #[.slice a 0 cap, .int .i64 f, .bool b] w fun e w' => e = .returned (.int .i64 (-1)) ∧ w = w' := by
  go_enter Try.func23, Try.ntmps23
  go_wp2
  refine wp_loop_rounds 1 ?_
  rw [rounds_succ]
  go_wp2
  go_ret
  exact ⟨rfl, rfl⟩

theorem decModel_none (a : Option Addr) (cap : Nat) (f : Int) (w : World) :
    Calls Try.prog 12 #[.slice a 0 cap, .int .i64 f] w fun e w' => e = .returned (.tuple #[.bool false, .bool false]) ∧ w = w' := by
  go_enter Try.func12, Try.ntmps12
  go_wp2_with (go_at_call 23; refine (reach_none _ _ _ _ _).mono ?_; rintro e w' ⟨rfl, rfl⟩)
  go_ret2
  exact ⟨rfl, rfl⟩

set_option maxHeartbeats 1600000 in
theorem decModel_some (b off n cap : Nat) (R : Nat → Int) (C : Nat → Bool) (V U : Nat → Int) (f : Int) (w : World) (hn : n ≤ 4096) (hr : Reps w b off n R C V U) (h0 : 0 ≤ f) :
    Calls Try.prog 12 #[.slice (some ⟨b, off, none⟩) n cap, .int .i64 f] w fun e w' => (∃ rc rr : Int, e = .returned (.tuple #[.bool (decide (0 ≤ rc) && (decide (rr < 0) || decide (rc < rr))), .bool (decide (0 ≤ rc) || decide (0 ≤ rr))]) ∧
      Reaches R C n f true rc ∧ Reaches R C n f false rr) ∧ ∃ nq, w' = w.drewN nq := by
  go_enter Try.func12, Try.ntmps12
  go_wp2_with fail
  refine (reach_true b off n cap R C V U f _ hn hr h0).mono ?_
  rintro e w1 ⟨⟨rc, rfl, hrc⟩, nq1, rfl⟩
  go_wp2_with fail
  refine (reach_false b off n cap R C V U f (w.drewN nq1) hn (hr.drewN nq1) h0).mono ?_
  rintro e w2 ⟨⟨rr, rfl, hrr⟩, nq2, rfl⟩
  by_cases c1 : 0 ≤ rc
  · by_cases c2 : 0 ≤ rr
    · have c2' : ¬ rr < 0 := by omega
      by_cases c3 : rc < rr
      · go_wp2
        go_ret2
        exact ⟨⟨rc, rr, ret_two (by rw [Bool.eq_iff_iff]; simp; omega) (by rw [Bool.eq_iff_iff]; simp; omega), hrc, hrr⟩, _, rfl⟩
      · go_wp2
        go_ret2
        exact ⟨⟨rc, rr, ret_two (by rw [Bool.eq_iff_iff]; simp; omega) (by rw [Bool.eq_iff_iff]; simp; omega), hrc, hrr⟩, _, rfl⟩
    · have c2' : rr < 0 := by omega
      go_wp2
      go_ret2
      exact ⟨⟨rc, rr, ret_two (by rw [Bool.eq_iff_iff]; simp; omega) (by rw [Bool.eq_iff_iff]; simp; omega), hrc, hrr⟩, _, rfl⟩
  · by_cases c2 : 0 ≤ rr
    · go_wp2
      go_ret2
      exact ⟨⟨rc, rr, ret_two (by rw [Bool.eq_iff_iff]; simp; omega) (by rw [Bool.eq_iff_iff]; simp; omega), hrc, hrr⟩, _, rfl⟩
    · go_wp2
      go_ret2
      exact ⟨⟨rc, rr, ret_two (by rw [Bool.eq_iff_iff]; simp; omega) (by rw [Bool.eq_iff_iff]; simp; omega), hrc, hrr⟩, _, rfl⟩
end Go.Proofs.Qxb6619327a
