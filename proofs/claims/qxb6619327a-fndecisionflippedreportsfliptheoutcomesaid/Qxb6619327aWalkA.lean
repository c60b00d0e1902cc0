/-
  THE WALKS THAT ONLY READ: zzFirst (24), zzVouchingModel (18), zzFirstMatched (20), zzReach (23): each answers what the plain functions of Qxb6619327aPlain say; the world is the old one but for draws.
-/
import Derived.Test.Qxb6619327aRows
import Derived.Test.Qxb6619327aPlain
import Derived.WalkKit
import Derived.Deep.QuietTactic
import Derived.BigQuiet
import Derived.WalkSpells
namespace Go.Proofs.Qxb6619327a
open Go.RowKit Go.Proofs.Qxb6619327a.Plain

theorem ret_bool {a b : Bool} (h : a = b) : Ending.returned (.bool a) = .returned (.bool b) := by rw [h]
theorem ret_int {k : IntKind} {a b : Int} (h : a = b) : Ending.returned (.int k a) = .returned (.int k b) := by rw [h]

/-- FROM ⟨b, off⟩ ON LIE n REPORTS, four cells each: the replica R, committed C, the verdict V, the view U. -/
structure Reps (w : World) (b off n : Nat) (R : Nat → Int) (C : Nat → Bool) (V U : Nat → Int) : Prop where
  r : ∀ j, j < n → w.cell? ⟨b, off + j * 4, none⟩ = some (.int .i64 (R j))
  c : ∀ j, j < n → w.cell? ⟨b, off + j * 4 + 1, none⟩ = some (.bool (C j))
  v : ∀ j, j < n → w.cell? ⟨b, off + j * 4 + 2, none⟩ = some (.int .u8 (V j))
  u : ∀ j, j < n → w.cell? ⟨b, off + j * 4 + 3, none⟩ = some (.int .u64 (U j))
  wr : ∀ j, j < n → (Lit.int .i64 (R j)).wf = true

theorem Reps.of {w w' : World} {b off n : Nat} {R : Nat → Int} {C : Nat → Bool} {V U : Nat → Int} (h : Reps w b off n R C V U) (hc : ∀ o, w'.cell? ⟨b, o, none⟩ = w.cell? ⟨b, o, none⟩) : Reps w' b off n R C V U :=
  ⟨fun j hj => (hc _).trans (h.r j hj), fun j hj => (hc _).trans (h.c j hj), fun j hj => (hc _).trans (h.v j hj), fun j hj => (hc _).trans (h.u j hj), h.wr⟩
theorem Reps.drewN {w : World} {b off n : Nat} {R : Nat → Int} {C : Nat → Bool} {V U : Nat → Int} (h : Reps w b off n R C V U) (k : Nat) : Reps (w.drewN k) b off n R C V U := h.of (fun _ => rfl)
theorem Reps.below {w w' : World} {B b off n : Nat} {R : Nat → Int} {C : Nat → Bool} {V U : Nat → Int} (h : Reps w b off n R C V U) (hb : Below B w w') (hl : b < B) : Reps w' b off n R C V U :=
  h.of (fun o => hb.cell (p := ⟨b, o, none⟩) hl)
theorem Reps.cut {w : World} {b off n m : Nat} {R : Nat → Int} {C : Nat → Bool} {V U : Nat → Int} (h : Reps w b off n R C V U) (hm : m ≤ n) : Reps w b off m R C V U :=
  ⟨fun j hj => h.r j (by omega), fun j hj => h.c j (by omega), fun j hj => h.v j (by omega), fun j hj => h.u j (by omega), fun j hj => h.wr j (by omega)⟩

set_option maxHeartbeats 400000 in
theorem first_any (b off n cap i : Nat) (R : Nat → Int) (C : Nat → Bool) (V U : Nat → Int) (w : World) (hn : n ≤ 4096) (hi : i < n) (hr : Reps w b off n R C V U) :
    Calls Try.prog 24 #[.slice (some ⟨b, off, none⟩) n cap, .int .i64 (i : Int)] w fun e w' => e = .returned (.bool (first R i)) ∧ ∃ nq, w' = w.drewN nq := by
  go_enter Try.func24, Try.ntmps24
  go_wp2
  go_loopw [5] (fun j wr => ∃ k : Nat, k ≤ i ∧ j = .int .i64 k ∧ (∀ m, m < k → R m ≠ R i) ∧ ∃ nq, wr = w.drewN nq) (fun j _ => i - (intOf j).toNat)
  case atStart => exact ⟨0, Nat.zero_le _, rfl, fun m hm => absurd hm (by omega), 0, rfl⟩
  case round =>
    obtain ⟨k, hk, rfl, hne, nq, rfl⟩ := hrel
    by_cases hlt : k < i
    · have h1 := hr.r k (by omega)
      have h2 := hr.r i hi
      go_wp2
      go_quiet (fail)
      go_wp2
      · go_ret
        have he : (R k == R i) = true := by assumption
        exact ⟨ret_bool (first_false.2 ⟨k, hlt, by simpa using he⟩).symm, _, World.drewN_drewN _ _ _⟩
      · have he : (R k == R i) = false := by assumption
        go_roundw
        case rel =>
          refine ⟨k + 1, by omega, by go_num, ?_, _, rfl⟩
          intro m hm
          by_cases e : m = k
          · subst e; simpa using he
          · exact hne m (by omega)
        case measure => simp [intOf]; omega
    · go_wp2
      go_ret
      exact ⟨ret_bool (first_true.2 (fun j hj => hne j (by omega))).symm, _, rfl⟩

theorem vouch_no1 {R V : Nat → Int} {m : Int} {k : Nat} (h : R k = m) : cnt (vouch R V m) (k + 1) = cnt (vouch R V m) k := cnt_no (by simp [vouch, h])
theorem vouch_no2 {R V : Nat → Int} {m : Int} {k : Nat} (h : ¬ V k = 1) : cnt (vouch R V m) (k + 1) = cnt (vouch R V m) k := cnt_no (by simp [vouch, h])
theorem vouch_no3 {R V : Nat → Int} {m : Int} {k : Nat} (h : (R k != m) = false ∨ first R k = false) : cnt (vouch R V m) (k + 1) = cnt (vouch R V m) k :=
  cnt_no (by rcases h with h | h <;> simp [vouch, h])
theorem vouch_yes {R V : Nat → Int} {m : Int} {k : Nat} (h : V k = 1) (h2 : (R k != m) = true ∧ first R k = true) : cnt (vouch R V m) (k + 1) = cnt (vouch R V m) k + 1 := cnt_yes (by simp [vouch, h, h2.1, h2.2])

set_option maxHeartbeats 400000 in
theorem vmodel_any (b off n cap : Nat) (R : Nat → Int) (C : Nat → Bool) (V U : Nat → Int) (m : Int) (w : World) (hn : n ≤ 4096) (hr : Reps w b off n R C V U) :
    Calls Try.prog 18 #[.slice (some ⟨b, off, none⟩) n cap, .int .i64 m] w fun e w' => e = .returned (.int .i64 (cnt (vouch R V m) n : Int)) ∧ ∃ nq, w' = w.drewN nq := by
  go_enter Try.func18, Try.ntmps18
  go_wp2
  go_loopw [5, 6] (fun c j wr => ∃ k : Nat, k ≤ n ∧ j = .int .i64 k ∧ c = .int .i64 (cnt (vouch R V m) k : Int) ∧ ∃ nq, wr = w.drewN nq) (fun _ j _ => n - (intOf j).toNat)
  case atStart => exact ⟨0, Nat.zero_le _, rfl, rfl, 0, rfl⟩
  case round =>
    obtain ⟨k, hk, rfl, rfl, nq, rfl⟩ := hrel
    by_cases hlt : k < n
    · have h1 := hr.r k hlt
      have h2 := hr.v k hlt
      have hc := cnt_le (vouch R V m) k
      go_wp2_with (go_at_call 24; refine (first_any b off n cap k R C V U (w.drewN nq) hn hlt (hr.drewN nq)).mono ?_; rintro e w1 ⟨rfl, nq1, rfl⟩)
      · have g := vouch_no1 (V := V) (show R k = m by assumption)
        go_roundw
        case rel => exact ⟨k + 1, by omega, by go_num, by rw [g], _, rfl⟩
        case measure => simp [intOf]; omega
      · have g := vouch_yes (show V k = 1 by assumption) (show (R k != m) = true ∧ first R k = true by assumption)
        go_roundw
        case rel => exact ⟨k + 1, by omega, by go_num, by rw [g]; go_num, _, rfl⟩
        case measure => simp [intOf]; omega
      · have g := vouch_no3 (V := V) (show (R k != m) = false ∨ first R k = false by assumption)
        go_roundw
        case rel => exact ⟨k + 1, by omega, by go_num, by rw [g], _, rfl⟩
        case measure => simp [intOf]; omega
      · have g := vouch_no2 (R := R) (m := m) (show ¬ V k = 1 by assumption)
        go_roundw
        case rel => exact ⟨k + 1, by omega, by go_num, by rw [g], _, rfl⟩
        case measure => simp [intOf]; omega
    · go_wp2
      go_ret
      have : k = n := by omega
      subst this
      exact ⟨rfl, _, rfl⟩
end Go.Proofs.Qxb6619327a
