/-
  THE WALK OF zzFlip (14): a fresh slice of the same reports, Committed negated.
-/
import Derived.Test.Qxb6619327aWalkOut
namespace Go.Proofs.Qxb6619327a
open Go.RowKit Go.Proofs.Qxb6619327a.Plain

set_option maxHeartbeats 800000 in
theorem flip_some (b off n cap : Nat) (R : Nat → Int) (C : Nat → Bool) (V U : Nat → Int) (w : World) (hn : n ≤ 4096) (hb : b < w.heap.size) (hr : Reps w b off n R C V U) :
    Calls Try.prog 14 #[.slice (some ⟨b, off, none⟩) n cap] w fun e w' => e = .returned (.slice (some ⟨w.heap.size, 0, none⟩) n n) ∧ Reps w' w.heap.size 0 n R (fun i => !C i) V U ∧ Below w.heap.size w w' ∧ w.heap.size < w'.heap.size := by
  have e1 := fun (w : World) (a : Option Addr) (l c : Nat) => Lib.run_eql_slice_nil (P := Try.prog) w 22 41 a l c 0 0 Try.underlying22
  have hmk := make41 n hn
  have hst : Half (w.alloc (.cells (zeros n) 41)) w.heap.size n 0 R (fun i => !C i) V U := half_made w 41 n R (fun i => !C i) V U
  have HS : Hid _ := hst
  clear hst
  go_enter Try.func14, Try.ntmps14
  go_wp2
  go_loopw [4] (fun i wr => ∃ k : Nat, k ≤ n ∧ i = .int .i64 k ∧ Half wr w.heap.size n k R (fun i => !C i) V U ∧ Below w.heap.size w wr ∧ w.heap.size < wr.heap.size) (fun i _ => n - (intOf i).toNat)
  case atStart => exact ⟨0, Nat.zero_le _, rfl, HS.out, (Below.refl _ _).alloc (Nat.le_refl _) _, by simp⟩
  case round =>
    obtain ⟨k, hk, rfl, hh, hbl, hz⟩ := hrel
    by_cases hlt : k < n
    · have hr' := hr.below hbl hb
      have h1 := hr'.r k hlt
      have h2 := hr'.c k hlt
      have h3 := hr'.v k hlt
      have h4 := hr'.u k hlt
      have hnew := half_step hh hlt (hr.wr k hlt)
      have hbn : Below w.heap.size w ((((wr.setCell ⟨w.heap.size, k * 4, none⟩ (.int .i64 (R k))).setCell ⟨w.heap.size, k * 4 + 1, none⟩ (.bool (!C k))).setCell ⟨w.heap.size, k * 4 + 2, none⟩ (.int .u8 (V k))).setCell ⟨w.heap.size, k * 4 + 3, none⟩ (.int .u64 (U k))).drew :=
        put4_below hbl (Nat.le_refl _)
      have HN : Hid _ := hnew
      have HB : Hid _ := hbn
      clear hnew hbn HS
      obtain ⟨v0, g0⟩ := hh.full (k * 4) (by omega)
      obtain ⟨v1, g1⟩ := hh.full (k * 4 + 1) (by omega)
      obtain ⟨v2, g2⟩ := hh.full (k * 4 + 2) (by omega)
      obtain ⟨v3, g3⟩ := hh.full (k * 4 + 3) (by omega)
      have f0 := hh.fz (k * 4)
      have f1 := hh.fz (k * 4 + 1)
      have f2 := hh.fz (k * 4 + 2)
      have f3 := hh.fz (k * 4 + 3)
      go_wp2
      go_region
      go_wp2
      go_roundw
      case rel => exact ⟨k + 1, by omega, by go_num, HN.out, HB.out, by simpa using hz⟩
      case measure => simp [intOf]; omega
    · have : k = n := by omega
      subst this
      go_wp2
      go_ret
      exact ⟨rfl, hh.reps, hbl, hz⟩

theorem flip_none (a : Option Addr) (cap : Nat) (w : World) :
    Calls Try.prog 14 #[.slice a 0 cap] w fun e w' => (∃ a', e = .returned (.slice a' 0 0)) ∧ Below w.heap.size w w' := by
  have e1 := fun (w : World) (a : Option Addr) (l c : Nat) => Lib.run_eql_slice_nil (P := Try.prog) w 22 41 a l c 0 0 Try.underlying22
  have hmk : ∀ w : World, (Instr.makeSlice 22 (.int .i64 0) (.int .i64 0)).run Try.prog w = .ok (.slice (some ⟨w.heap.size, 0, none⟩) 0 0) (w.alloc (.cells (zeros 0) 41)) := make41 0 (by omega)
  cases a with
  | none =>
    go_enter Try.func14, Try.ntmps14
    go_wp2
    go_ret
    exact ⟨⟨_, rfl⟩, Below.refl _ _⟩
  | some a =>
    go_enter Try.func14, Try.ntmps14
    go_wp2
    refine wp_loop_rounds 1 ?_
    rw [rounds_succ]
    go_wp2
    go_ret
    exact ⟨⟨_, rfl⟩, (Below.refl _ _).alloc (Nat.le_refl _) _⟩
end Go.Proofs.Qxb6619327a
