/-
  THE WALK OF zzFirstMatched (20).
-/
import Derived.Test.Qxb6619327aWalkA
namespace Go.Proofs.Qxb6619327a
open Go.RowKit Go.Proofs.Qxb6619327a.Plain

theorem fmatched_some (b off n cap : Nat) (R : Nat → Int) (C : Nat → Bool) (V U : Nat → Int) (x : Int) (w : World) (hn : n ≤ 4096) (hr : Reps w b off n R C V U) :
    Calls Try.prog 20 #[.slice (some ⟨b, off, none⟩) n cap, .int .i64 x] w fun e w' => (∃ r, e = .returned (.int .i64 r) ∧ FirstMatched R V n x r) ∧ w = w' := by
  go_enter Try.func20, Try.ntmps20
  go_wp2
  go_loop [5] (fun i => ∃ k : Nat, k ≤ n ∧ i = .int .i64 k ∧ ∀ j, j < k → R j ≠ x) (fun i => n - (intOf i).toNat)
  case atStart => exact ⟨0, Nat.zero_le _, rfl, fun j hj => absurd hj (by omega)⟩
  case round =>
    obtain ⟨k, hk, rfl, hne⟩ := hrel
    by_cases hlt : k < n
    · have h1 := hr.r k hlt
      have h2 := hr.v k hlt
      by_cases hx : R k = x
      · have HX : Hid _ := hx
        rw [hx] at h1
        clear hx
        by_cases hv : V k = 1
        · have HV : Hid _ := hv
          rw [hv] at h2
          clear hv
          go_wp2
          go_ret
          exact ⟨⟨1, rfl, Or.inr ⟨k, hlt, HX.out, hne, by rw [if_pos HV.out]⟩⟩, rfl⟩
        · have hv' : (V k == 1) = false := by simpa using hv
          have HV : Hid _ := hv
          clear hv
          go_wp2
          go_ret
          exact ⟨⟨0, rfl, Or.inr ⟨k, hlt, HX.out, hne, by rw [if_neg HV.out]⟩⟩, rfl⟩
      · have hx' : (R k == x) = false := by simpa using hx
        have HX : Hid _ := hx
        clear hx
        go_wp2
        go_round
        case rel =>
          refine ⟨k + 1, by omega, by go_num, fun j hj => ?_⟩
          by_cases e : j = k
          · rw [e]; exact HX.out
          · exact hne j (by omega)
        case measure => simp [intOf]; omega
    · go_wp2
      go_ret
      exact ⟨⟨0, rfl, Or.inl ⟨rfl, fun i hi => hne i (by omega)⟩⟩, rfl⟩

theorem fmatched_none (a : Option Addr) (cap : Nat) (x : Int) (w : World) :
    Calls Try.prog 20 #[.slice a 0 cap, .int .i64 x] w fun e w' => e = .returned (.int .i64 0) ∧ w = w' := by
  go_enter Try.func20, Try.ntmps20
  go_wp2
  refine wp_loop_rounds 1 ?_
  rw [rounds_succ]
  go_wp2
  go_ret
  exact ⟨rfl, rfl⟩
end Go.Proofs.Qxb6619327a
