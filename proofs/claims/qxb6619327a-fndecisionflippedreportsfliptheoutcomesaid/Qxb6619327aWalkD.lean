/-
  THE WALK OF Outcome.Decision (11).
-/
import Derived.Test.Qxb6619327aMaps
namespace Go.Proofs.Qxb6619327a
open Go.RowKit Go.Proofs.Qxb6619327a.Plain Go.Maps

theorem side_old {R : Nat → Int} {C : Nat → Bool} {k : Nat} (b : Bool) (h : first R k = false) : cnt (side R C b) (k + 1) = cnt (side R C b) k := cnt_no (by simp [side, h])
theorem side_hit {R : Nat → Int} {C : Nat → Bool} {k : Nat} {b : Bool} (h : first R k = true) (hc : C k = b) : cnt (side R C b) (k + 1) = cnt (side R C b) k + 1 := cnt_yes (by simp [side, h, hc])
theorem side_miss {R : Nat → Int} {C : Nat → Bool} {k : Nat} {b : Bool} (hc : C k = !b) : cnt (side R C b) (k + 1) = cnt (side R C b) k := cnt_no (side_other hc)
theorem both {p : Bool → Prop} (h1 : p true) (h2 : p false) : ∀ b, p b := fun b => by cases b <;> assumption

set_option maxRecDepth 100000 in
set_option maxHeartbeats 1600000 in
theorem decision_some (b off n cap : Nat) (R : Nat → Int) (C : Nat → Bool) (V U : Nat → Int) (f : Int) (w : World) (hn : n ≤ 4096) (hb : b < w.heap.size) (hr : Reps w b off n R C V U) (h0 : 0 ≤ f) :
    Calls Try.prog 11 #[.agg #[.slice (some ⟨b, off, none⟩) n cap], .int .i64 f] w fun e w' => (∃ c d, e = .returned (.tuple #[.bool c, .bool d]) ∧ Decides R C n f c d) ∧ Below w.heap.size w w' := by
  have hmm := @run_makeMap Try.prog
  have hst := seen_made (w.alloc (.cells #[.slice (some ⟨b, off, none⟩) n cap] 27)) R
  rw [show (w.alloc (.cells #[.slice (some ⟨b, off, none⟩) n cap] 27)).heap.size = w.heap.size + 1 by simp] at hst
  have HS : Hid _ := hst
  clear hst
  go_enter Try.func11, Try.ntmps11
  go_wp2
  go_loopw [7, 8, 15] (fun c r i wr => ∃ (k : Nat) (D : DataW Unit), k ≤ n ∧ i = .int .i64 k ∧ c = .int .i64 (cnt (side R C true) k : Int) ∧ r = .int .i64 (cnt (side R C false) k : Int) ∧
      (cnt (side R C true) k : Int) ≤ f ∧ (cnt (side R C false) k : Int) ≤ f ∧ Seen wr (w.heap.size + 1) k R D ∧ Below w.heap.size w wr ∧ w.heap.size + 1 < wr.heap.size) (fun _ _ i _ => n - (intOf i).toNat)
  case atStart => exact ⟨0, _, Nat.zero_le _, rfl, rfl, rfl, h0, h0, HS.out, ((Below.refl _ _).alloc (Nat.le_refl _) _).alloc (by simp) _, by simp⟩
  case round =>
    obtain ⟨k, D, hk, rfl, rfl, rfl, ht, hff, hs, hbl, hz⟩ := hrel
    by_cases hlt : k < n
    · have hr' := hr.below hbl hb
      have h1 := hr'.r k hlt
      have h2 := hr'.c k hlt
      have h3 := hr'.v k hlt
      have h4 := hr'.u k hlt
      have hct := cnt_le (side R C true) k
      have hcf := cnt_le (side R C false) k
      have hkey : keyOf Try.prog 3 (.int .i64 (R k)) = some (.int .i64 (R k)) := keyOf_int_mk Try.underlying3 (hr.wr k hlt)
      by_cases hf : first R k = true
      · by_cases hC : C k = true
        · have HC : Hid _ := hC
          rw [hC] at h2
          clear hC
          have H1 : Hid _ := side_hit hf HC.out
          have H2 : Hid _ := side_miss (R := R) (b := false) HC.out
          by_cases hgt : f < (cnt (side R C true) k : Int) + 1
          · go_wp2_with (first
              | (at_lookup; refine wpList_lookup_own_bool _ rfl _ _ 46 rfl 3 4 law3 Try.underlying46 Try.underlying4 (zero4 _) (w.heap.size + 1) k D rfl (hs.1.alloc _) _ _ rfl hkey false (seen_at_no hs hf) ?_)
              | (at_mapUpdate; refine wpList_mapUpdate_own _ rfl _ _ _ 46 rfl 3 4 law3 Try.underlying46 _ (w.heap.size + 1) k D rfl (hs.1.alloc _) (by unfold maxLen; omega) _ _ _ rfl rfl hkey _ [] (plainElem_bool Try.underlying4 true) ?_; intro w1 hown1 hgrow1; obtain ⟨q0, q1, q2, q3⟩ := four_cells hgrow1 (by omega))
              | go_in)
            have hbn := round_below hbl hgrow1 (by omega) (by omega)
            go_ret2
            exact ⟨⟨true, true, rfl, Or.inr ⟨k, hlt, HC.out.symm, rfl, both (p := fun b => (cnt (side R C b) k : Int) ≤ f) ht hff, by rw [HC.out, H1.out]; push_cast; exact hgt⟩⟩, hbn⟩
          · go_wp2_with (first
              | (at_lookup; refine wpList_lookup_own_bool _ rfl _ _ 46 rfl 3 4 law3 Try.underlying46 Try.underlying4 (zero4 _) (w.heap.size + 1) k D rfl (hs.1.alloc _) _ _ rfl hkey false (seen_at_no hs hf) ?_)
              | (at_mapUpdate; refine wpList_mapUpdate_own _ rfl _ _ _ 46 rfl 3 4 law3 Try.underlying46 _ (w.heap.size + 1) k D rfl (hs.1.alloc _) (by unfold maxLen; omega) _ _ _ rfl rfl hkey _ [] (plainElem_bool Try.underlying4 true) ?_; intro w1 hown1 hgrow1; obtain ⟨q0, q1, q2, q3⟩ := four_cells hgrow1 (by omega))
              | go_in)
            have hsn := seen_new hs hown1
            have hbn := round_below hbl hgrow1 (by omega) (by omega)
            have hzn : w.heap.size + 1 < w1.heap.size := by have := hgrow1.size; simp at this; omega
            clear hown1 hgrow1
            go_roundw
            case rel => exact ⟨k + 1, _, by omega, by go_num, by rw [H1.out]; go_num, by rw [H2.out], by rw [H1.out]; push_cast; omega, by rw [H2.out]; omega, hsn, hbn, hzn⟩
            case measure => simp [intOf]; omega
        · have hC' : C k = false := by simpa using hC
          have HC : Hid _ := hC'
          rw [hC'] at h2
          clear hC hC'
          have H1 : Hid _ := side_hit hf HC.out
          have H2 : Hid _ := side_miss (R := R) (b := true) HC.out
          by_cases hgt : f < (cnt (side R C false) k : Int) + 1
          · go_wp2_with (first
              | (at_lookup; refine wpList_lookup_own_bool _ rfl _ _ 46 rfl 3 4 law3 Try.underlying46 Try.underlying4 (zero4 _) (w.heap.size + 1) k D rfl (hs.1.alloc _) _ _ rfl hkey false (seen_at_no hs hf) ?_)
              | (at_mapUpdate; refine wpList_mapUpdate_own _ rfl _ _ _ 46 rfl 3 4 law3 Try.underlying46 _ (w.heap.size + 1) k D rfl (hs.1.alloc _) (by unfold maxLen; omega) _ _ _ rfl rfl hkey _ [] (plainElem_bool Try.underlying4 true) ?_; intro w1 hown1 hgrow1; obtain ⟨q0, q1, q2, q3⟩ := four_cells hgrow1 (by omega))
              | go_in)
            have hbn := round_below hbl hgrow1 (by omega) (by omega)
            go_ret2
            exact ⟨⟨false, true, rfl, Or.inr ⟨k, hlt, HC.out.symm, rfl, both (p := fun b => (cnt (side R C b) k : Int) ≤ f) ht hff, by rw [HC.out, H1.out]; push_cast; exact hgt⟩⟩, hbn⟩
          · go_wp2_with (first
              | (at_lookup; refine wpList_lookup_own_bool _ rfl _ _ 46 rfl 3 4 law3 Try.underlying46 Try.underlying4 (zero4 _) (w.heap.size + 1) k D rfl (hs.1.alloc _) _ _ rfl hkey false (seen_at_no hs hf) ?_)
              | (at_mapUpdate; refine wpList_mapUpdate_own _ rfl _ _ _ 46 rfl 3 4 law3 Try.underlying46 _ (w.heap.size + 1) k D rfl (hs.1.alloc _) (by unfold maxLen; omega) _ _ _ rfl rfl hkey _ [] (plainElem_bool Try.underlying4 true) ?_; intro w1 hown1 hgrow1; obtain ⟨q0, q1, q2, q3⟩ := four_cells hgrow1 (by omega))
              | go_in)
            have hsn := seen_new hs hown1
            have hbn := round_below hbl hgrow1 (by omega) (by omega)
            have hzn : w.heap.size + 1 < w1.heap.size := by have := hgrow1.size; simp at this; omega
            clear hown1 hgrow1
            go_roundw
            case rel => exact ⟨k + 1, _, by omega, by go_num, by rw [H2.out], by rw [H1.out]; go_num, by rw [H2.out]; omega, by rw [H1.out]; push_cast; omega, hsn, hbn, hzn⟩
            case measure => simp [intOf]; omega
      · have hf' : first R k = false := by simpa using hf
        have H1 : Hid _ := side_old (C := C) true hf'
        have H2 : Hid _ := side_old (C := C) false hf'
        go_wp2_with (first
          | (at_lookup; refine wpList_lookup_own_bool _ rfl _ _ 46 rfl 3 4 law3 Try.underlying46 Try.underlying4 (zero4 _) (w.heap.size + 1) k D rfl (hs.1.alloc _) _ _ rfl hkey true (seen_at_yes hs hf') ?_)
          | go_in)
        go_roundw
        case rel => exact ⟨k + 1, D, by omega, by go_num, by rw [H1.out], by rw [H2.out], by rw [H1.out]; exact ht, by rw [H2.out]; exact hff, (seen_old hs hf').alloc _, hbl.alloc (by omega) _, by simp; omega⟩
        case measure => simp [intOf]; omega
    · go_wp2
      have : k = n := by omega
      subst this
      go_ret2
      exact ⟨⟨false, false, rfl, Or.inl ⟨rfl, rfl, both (p := fun b => (cnt (side R C b) k : Int) ≤ f) ht hff⟩⟩, hbl⟩

set_option maxRecDepth 100000 in
theorem decision_none (a : Option Addr) (f : Int) (cap : Nat) (w : World) :
    Calls Try.prog 11 #[.agg #[.slice a 0 cap], .int .i64 f] w fun e w' => e = .returned (.tuple #[.bool false, .bool false]) ∧ Below w.heap.size w w' := by
  have hmm := @run_makeMap Try.prog
  go_enter Try.func11, Try.ntmps11
  go_wp2
  refine wp_loop_rounds 1 ?_
  rw [rounds_succ]
  go_wp2
  go_ret2
  exact ⟨rfl, ((Below.refl _ _).alloc (Nat.le_refl _) _).alloc (by simp) _⟩
end Go.Proofs.Qxb6619327a
