/-
  THE WALK OF Outcome.Vouching (17).
-/
import Derived.Test.Qxb6619327aMaps
namespace Go.Proofs.Qxb6619327a
open Go.RowKit Go.Proofs.Qxb6619327a.Plain Go.Maps

theorem vouch_old {R V : Nat → Int} {m : Int} {k : Nat} (h : first R k = false) : cnt (vouch R V m) (k + 1) = cnt (vouch R V m) k := cnt_no (by simp [vouch, h])

theorem vouch_no4 {R V : Nat → Int} {m : Int} {k : Nat} (h : (R k != m) = false ∨ (V k == 1) = false) : cnt (vouch R V m) (k + 1) = cnt (vouch R V m) k :=
  cnt_no (by rcases h with h | h <;> simp [vouch, h])

set_option maxRecDepth 100000 in
set_option maxHeartbeats 800000 in
theorem vouching_some (b off n cap : Nat) (R : Nat → Int) (C : Nat → Bool) (V U : Nat → Int) (m : Int) (w : World) (hn : n ≤ 4096) (hb : b < w.heap.size) (hr : Reps w b off n R C V U) :
    Calls Try.prog 17 #[.agg #[.slice (some ⟨b, off, none⟩) n cap], .int .i64 m] w fun e w' => e = .returned (.int .i64 (cnt (vouch R V m) n : Int)) ∧ Below w.heap.size w w' := by
  have hmm := @run_makeMap Try.prog
  have hst := seen_made (w.alloc (.cells #[.slice (some ⟨b, off, none⟩) n cap] 27)) R
  rw [show (w.alloc (.cells #[.slice (some ⟨b, off, none⟩) n cap] 27)).heap.size = w.heap.size + 1 by simp] at hst
  have HS : Hid _ := hst
  clear hst
  go_enter Try.func17, Try.ntmps17
  go_wp2
  go_loopw [6, 13] (fun c i wr => ∃ (k : Nat) (D : DataW Unit), k ≤ n ∧ i = .int .i64 k ∧ c = .int .i64 (cnt (vouch R V m) k : Int) ∧ Seen wr (w.heap.size + 1) k R D ∧ Below w.heap.size w wr ∧ w.heap.size + 1 < wr.heap.size) (fun _ i _ => n - (intOf i).toNat)
  case atStart => exact ⟨0, _, Nat.zero_le _, rfl, rfl, HS.out, ((Below.refl _ _).alloc (Nat.le_refl _) _).alloc (by simp) _, by simp⟩
  case round =>
    obtain ⟨k, D, hk, rfl, rfl, hs, hbl, hz⟩ := hrel
    by_cases hlt : k < n
    · have hr' := hr.below hbl hb
      have h1 := hr'.r k hlt
      have h2 := hr'.c k hlt
      have h3 := hr'.v k hlt
      have h4 := hr'.u k hlt
      have hc := cnt_le (vouch R V m) k
      have hkey : keyOf Try.prog 3 (.int .i64 (R k)) = some (.int .i64 (R k)) := keyOf_int_mk Try.underlying3 (hr.wr k hlt)
      by_cases hf : first R k = true
      · go_wp2_with (first
          | (at_lookup; refine wpList_lookup_own_bool _ rfl _ _ 46 rfl 3 4 law3 Try.underlying46 Try.underlying4 (zero4 _) (w.heap.size + 1) k D rfl (hs.1.alloc _) _ _ rfl hkey false (seen_at_no hs hf) ?_)
          | (at_mapUpdate; refine wpList_mapUpdate_own _ rfl _ _ _ 46 rfl 3 4 law3 Try.underlying46 _ (w.heap.size + 1) k D rfl (hs.1.alloc _) (by unfold maxLen; omega) _ _ _ rfl rfl hkey _ [] (plainElem_bool Try.underlying4 true) ?_; intro w1 hown1 hgrow1; obtain ⟨q0, q1, q2, q3⟩ := four_cells hgrow1 (by omega))
          | go_in)
        all_goals
          have hsn := seen_new hs hown1
          have hbn := round_below hbl hgrow1 (by omega) (by omega)
          have hzn : w.heap.size + 1 < w1.heap.size := by have := hgrow1.size; simp at this; omega
          clear hown1 hgrow1
        · have g := vouch_no1 (V := V) (show R k = m by assumption)
          go_roundw
          case rel => exact ⟨k + 1, _, by omega, by go_num, by rw [g], hsn, hbn, hzn⟩
          case measure => simp [intOf]; omega
        · have g := show (R k != m) = true ∧ (V k == 1) = true by assumption
          have g := vouch_yes (V := V) (by simpa using g.2) ⟨g.1, hf⟩
          go_roundw
          case rel => exact ⟨k + 1, _, by omega, by go_num, by rw [g]; go_num, hsn, hbn, hzn⟩
          case measure => simp [intOf]; omega
        · have g := show (R k != m) = false ∨ (V k == 1) = false by assumption
          have g := vouch_no4 g
          go_roundw
          case rel => exact ⟨k + 1, _, by omega, by go_num, by rw [g], hsn, hbn, hzn⟩
          case measure => simp [intOf]; omega
      · have hf' : first R k = false := by simpa using hf
        go_wp2_with (first
          | (at_lookup; refine wpList_lookup_own_bool _ rfl _ _ 46 rfl 3 4 law3 Try.underlying46 Try.underlying4 (zero4 _) (w.heap.size + 1) k D rfl (hs.1.alloc _) _ _ rfl hkey true (seen_at_yes hs hf') ?_)
          | go_in)
        have g := vouch_old (V := V) (m := m) hf'
        go_roundw
        case rel => exact ⟨k + 1, D, by omega, by go_num, by rw [g], (seen_old hs hf').alloc _, hbl.alloc (by omega) _, by simp; omega⟩
        case measure => simp [intOf]; omega
    · go_wp2
      go_ret
      have : k = n := by omega
      subst this
      exact ⟨rfl, hbl⟩

set_option maxRecDepth 100000 in
theorem vouching_none (a : Option Addr) (m : Int) (cap : Nat) (w : World) :
    Calls Try.prog 17 #[.agg #[.slice a 0 cap], .int .i64 m] w fun e w' => e = .returned (.int .i64 0) ∧ Below w.heap.size w w' := by
  have hmm := @run_makeMap Try.prog
  go_enter Try.func17, Try.ntmps17
  go_wp2
  refine wp_loop_rounds 1 ?_
  rw [rounds_succ]
  go_wp2
  go_ret
  exact ⟨rfl, ((Below.refl _ _).alloc (Nat.le_refl _) _).alloc (by simp) _⟩

theorem vmodel_none (a : Option Addr) (m : Int) (cap : Nat) (w : World) :
    Calls Try.prog 18 #[.slice a 0 cap, .int .i64 m] w fun e w' => e = .returned (.int .i64 0) ∧ w = w' := by
  go_enter Try.func18, Try.ntmps18
  go_wp2
  refine wp_loop_rounds 1 ?_
  rw [rounds_succ]
  go_wp2
  go_ret
  exact ⟨rfl, rfl⟩
end Go.Proofs.Qxb6619327a
