/-
  THE WALK OF zzOutcome (10): a fresh slice that holds the same reports; the caller's memory stands.
-/
import Derived.Test.Qxb6619327aWalkA
namespace Go.Proofs.Qxb6619327a
open Go.RowKit Go.Proofs.Qxb6619327a.Plain
theorem Try.info45 : (Try.prog.info? 45).map (fun i => (i.zero, i.size, i.bytes)) = some (some (.agg #[.int .i64 0, .bool false, .int .u8 0, .int .u64 0]), 4, 24) := by kernel_rfl
theorem Try.info41 : (Try.prog.info? 41).map (fun i => (i.zero, i.size, i.bytes)) = some (some (.agg #[.int .i64 0, .bool false, .int .u8 0, .int .u64 0]), 4, 24) := by kernel_rfl

/-- n new reports, all zero. -/
def zeros (n : Nat) : Array Value := madeCells (Value.agg #[.int .i64 0, .bool false, .int .u8 0, .int .u64 0]).cells (n * 4)
theorem size_zeros (n : Nat) : (zeros n).size = n * 4 := size_madeCells _ _

theorem make45 (n : Nat) (hn : n ≤ 4096) (w : World) : (Instr.makeSlice 25 (.int .i64 (n : Int)) (.int .i64 (n : Int))).run Try.prog w =
    .ok (.slice (some ⟨w.heap.size, 0, none⟩) n n) (w.alloc (.cells (zeros n) 45)) := by
  obtain ⟨i0, hi, hz0, hz1, hz2⟩ := info_parts Try.info45
  have h := run_make (P := Try.prog) w 25 45 i0 _ Try.underlying25 hi hz0 .i64 .i64 (n : Int) (n : Int) (by omega) (by omega) (by rw [hz2]; omega) (by omega)
  rw [h, hz1]
  rfl
theorem make41 (n : Nat) (hn : n ≤ 4096) (w : World) : (Instr.makeSlice 22 (.int .i64 (n : Int)) (.int .i64 (n : Int))).run Try.prog w =
    .ok (.slice (some ⟨w.heap.size, 0, none⟩) n n) (w.alloc (.cells (zeros n) 41)) := by
  obtain ⟨i0, hi, hz0, hz1, hz2⟩ := info_parts Try.info41
  have h := run_make (P := Try.prog) w 22 41 i0 _ Try.underlying22 hi hz0 .i64 .i64 (n : Int) (n : Int) (by omega) (by omega) (by rw [hz2]; omega) (by omega)
  rw [h, hz1]
  rfl

/-- BLOCK g IS A ROW OF n REPORTS, none frozen, OF WHICH THE FIRST k ARE FILLED. -/
structure Half (w : World) (g n k : Nat) (R : Nat → Int) (C : Nat → Bool) (V U : Nat → Int) : Prop where
  fz : ∀ o, w.frozen? ⟨g, o, none⟩ = false
  full : ∀ o, o < n * 4 → ∃ v, w.cell? ⟨g, o, none⟩ = some v
  reps : Reps w g 0 k R C V U

theorem half_made (w : World) (t : TypeId) (n : Nat) (R : Nat → Int) (C : Nat → Bool) (V U : Nat → Int) : Half (w.alloc (.cells (zeros n) t)) w.heap.size n 0 R C V U := by
  have hh : (w.alloc (.cells (zeros n) t)).heap[w.heap.size]? = some (.cells (zeros n) t (0, 0)) := heap_alloc_new w _
  refine ⟨fun o => frozen_of_row _ _ o _ t hh, fun o ho => ?_, ⟨fun j hj => absurd hj (by omega), fun j hj => absurd hj (by omega), fun j hj => absurd hj (by omega), fun j hj => absurd hj (by omega), fun j hj => absurd hj (by omega)⟩⟩
  rw [cell_of_row _ _ o _ t (0, 0) hh]
  rw [← size_zeros] at ho
  exact ⟨_, Array.getElem?_eq_getElem ho⟩

theorem other_off {g o o' : Nat} (h : o ≠ o') : (⟨g, o, none⟩ : Addr) ≠ ⟨g, o', none⟩ := fun e => h (congrArg Addr.off e)

/-- One report stored: by what the new world holds. -/
theorem half_next {w W : World} {g n k : Nat} {R : Nat → Int} {C : Nat → Bool} {V U : Nat → Int} (h : Half w g n k R C V U) (hw : (Lit.int .i64 (R k)).wf = true)
    (hf : ∀ o, W.frozen? ⟨g, o, none⟩ = w.frozen? ⟨g, o, none⟩)
    (out : ∀ o, o ≠ k * 4 → o ≠ k * 4 + 1 → o ≠ k * 4 + 2 → o ≠ k * 4 + 3 → W.cell? ⟨g, o, none⟩ = w.cell? ⟨g, o, none⟩)
    (i0 : W.cell? ⟨g, k * 4, none⟩ = some (.int .i64 (R k))) (i1 : W.cell? ⟨g, k * 4 + 1, none⟩ = some (.bool (C k)))
    (i2 : W.cell? ⟨g, k * 4 + 2, none⟩ = some (.int .u8 (V k))) (i3 : W.cell? ⟨g, k * 4 + 3, none⟩ = some (.int .u64 (U k))) : Half W g n (k + 1) R C V U := by
  refine ⟨fun o => (hf o).trans (h.fz o), fun o ho => ?_, ⟨fun j hj => ?_, fun j hj => ?_, fun j hj => ?_, fun j hj => ?_, fun j hj => ?_⟩⟩
  · by_cases a0 : o = k * 4
    · rw [a0]; exact ⟨_, i0⟩
    · by_cases a1 : o = k * 4 + 1
      · rw [a1]; exact ⟨_, i1⟩
      · by_cases a2 : o = k * 4 + 2
        · rw [a2]; exact ⟨_, i2⟩
        · by_cases a3 : o = k * 4 + 3
          · rw [a3]; exact ⟨_, i3⟩
          · obtain ⟨v, hv⟩ := h.full o ho
            exact ⟨v, (out o a0 a1 a2 a3).trans hv⟩
  · by_cases e : j = k
    · rw [e, Nat.zero_add]; exact i0
    · exact (out _ (by omega) (by omega) (by omega) (by omega)).trans (h.reps.r j (by omega))
  · by_cases e : j = k
    · rw [e, Nat.zero_add]; exact i1
    · exact (out _ (by omega) (by omega) (by omega) (by omega)).trans (h.reps.c j (by omega))
  · by_cases e : j = k
    · rw [e, Nat.zero_add]; exact i2
    · exact (out _ (by omega) (by omega) (by omega) (by omega)).trans (h.reps.v j (by omega))
  · by_cases e : j = k
    · rw [e, Nat.zero_add]; exact i3
    · exact (out _ (by omega) (by omega) (by omega) (by omega)).trans (h.reps.u j (by omega))
  · by_cases e : j = k
    · rw [e]; exact hw
    · exact h.reps.wr j (by omega)

theorem four_out (w : World) (g o : Nat) (a c v u : Value) (x : Nat) (a0 : x ≠ o) (a1 : x ≠ o + 1) (a2 : x ≠ o + 2) (a3 : x ≠ o + 3) :
    ((((w.setCell ⟨g, o, none⟩ a).setCell ⟨g, o + 1, none⟩ c).setCell ⟨g, o + 2, none⟩ v).setCell ⟨g, o + 3, none⟩ u).drew.cell? ⟨g, x, none⟩ = w.cell? ⟨g, x, none⟩ := by
  rw [World.cell?_drew, World.cell?_setCell_other _ _ _ _ (other_off (Ne.symm a3)), World.cell?_setCell_other _ _ _ _ (other_off (Ne.symm a2)), World.cell?_setCell_other _ _ _ _ (other_off (Ne.symm a1)), World.cell?_setCell_other _ _ _ _ (other_off (Ne.symm a0))]
theorem four_0 (w : World) (g o : Nat) (a c v u : Value) {z : Value} (h : w.cell? ⟨g, o, none⟩ = some z) :
    ((((w.setCell ⟨g, o, none⟩ a).setCell ⟨g, o + 1, none⟩ c).setCell ⟨g, o + 2, none⟩ v).setCell ⟨g, o + 3, none⟩ u).drew.cell? ⟨g, o, none⟩ = some a := by
  rw [World.cell?_drew, World.cell?_setCell_other _ _ _ _ (other_off (by omega)), World.cell?_setCell_other _ _ _ _ (other_off (by omega)), World.cell?_setCell_other _ _ _ _ (other_off (by omega)), World.cell?_setCell_same _ _ _ h]
theorem four_1 (w : World) (g o : Nat) (a c v u : Value) {z : Value} (h : w.cell? ⟨g, o + 1, none⟩ = some z) :
    ((((w.setCell ⟨g, o, none⟩ a).setCell ⟨g, o + 1, none⟩ c).setCell ⟨g, o + 2, none⟩ v).setCell ⟨g, o + 3, none⟩ u).drew.cell? ⟨g, o + 1, none⟩ = some c := by
  rw [World.cell?_drew, World.cell?_setCell_other _ _ _ _ (other_off (by omega)), World.cell?_setCell_other _ _ _ _ (other_off (by omega))]
  exact World.cell?_setCell_same _ _ _ (by rw [World.cell?_setCell_other _ _ _ _ (other_off (by omega))]; exact h)
theorem four_2 (w : World) (g o : Nat) (a c v u : Value) {z : Value} (h : w.cell? ⟨g, o + 2, none⟩ = some z) :
    ((((w.setCell ⟨g, o, none⟩ a).setCell ⟨g, o + 1, none⟩ c).setCell ⟨g, o + 2, none⟩ v).setCell ⟨g, o + 3, none⟩ u).drew.cell? ⟨g, o + 2, none⟩ = some v := by
  rw [World.cell?_drew, World.cell?_setCell_other _ _ _ _ (other_off (by omega))]
  exact World.cell?_setCell_same _ _ _ (by rw [World.cell?_setCell_other _ _ _ _ (other_off (by omega)), World.cell?_setCell_other _ _ _ _ (other_off (by omega))]; exact h)
theorem four_3 (w : World) (g o : Nat) (a c v u : Value) {z : Value} (h : w.cell? ⟨g, o + 3, none⟩ = some z) :
    ((((w.setCell ⟨g, o, none⟩ a).setCell ⟨g, o + 1, none⟩ c).setCell ⟨g, o + 2, none⟩ v).setCell ⟨g, o + 3, none⟩ u).drew.cell? ⟨g, o + 3, none⟩ = some u := by
  rw [World.cell?_drew]
  exact World.cell?_setCell_same _ _ _ (by rw [World.cell?_setCell_other _ _ _ _ (other_off (by omega)), World.cell?_setCell_other _ _ _ _ (other_off (by omega)), World.cell?_setCell_other _ _ _ _ (other_off (by omega))]; exact h)
theorem four_frozen (w : World) (g o : Nat) (a c v u : Value) (x : Addr) :
    ((((w.setCell ⟨g, o, none⟩ a).setCell ⟨g, o + 1, none⟩ c).setCell ⟨g, o + 2, none⟩ v).setCell ⟨g, o + 3, none⟩ u).drew.frozen? x = w.frozen? x := by
  rw [World.frozen?_drew, World.frozen?_setCell, World.frozen?_setCell, World.frozen?_setCell, World.frozen?_setCell]

/-- One report stored. -/
theorem half_step {w : World} {g n k : Nat} {R : Nat → Int} {C : Nat → Bool} {V U : Nat → Int} (h : Half w g n k R C V U) (hk : k < n) (hw : (Lit.int .i64 (R k)).wf = true) :
    Half ((((w.setCell ⟨g, k * 4, none⟩ (.int .i64 (R k))).setCell ⟨g, k * 4 + 1, none⟩ (.bool (C k))).setCell ⟨g, k * 4 + 2, none⟩ (.int .u8 (V k))).setCell ⟨g, k * 4 + 3, none⟩ (.int .u64 (U k))).drew g n (k + 1) R C V U := by
  obtain ⟨v0, g0⟩ := h.full (k * 4) (by omega)
  obtain ⟨v1, g1⟩ := h.full (k * 4 + 1) (by omega)
  obtain ⟨v2, g2⟩ := h.full (k * 4 + 2) (by omega)
  obtain ⟨v3, g3⟩ := h.full (k * 4 + 3) (by omega)
  exact half_next h hw (fun o => four_frozen _ _ _ _ _ _ _ _) (four_out _ _ _ _ _ _ _) (four_0 _ _ _ _ _ _ _ g0) (four_1 _ _ _ _ _ _ _ g1) (four_2 _ _ _ _ _ _ _ g2) (four_3 _ _ _ _ _ _ _ g3)

theorem other_block {g g' o o' : Nat} (h : g ≠ g') : (⟨g, o, none⟩ : Addr) ≠ ⟨g', o', none⟩ := fun e => h (congrArg Addr.block e)

theorem four_far (w : World) (g o : Nat) (a c v u : Value) (g' x : Nat) (h : g ≠ g') :
    ((((w.setCell ⟨g, o, none⟩ a).setCell ⟨g, o + 1, none⟩ c).setCell ⟨g, o + 2, none⟩ v).setCell ⟨g, o + 3, none⟩ u).drew.cell? ⟨g', x, none⟩ = w.cell? ⟨g', x, none⟩ := by
  rw [World.cell?_drew, World.cell?_setCell_other _ _ _ _ (other_block h), World.cell?_setCell_other _ _ _ _ (other_block h), World.cell?_setCell_other _ _ _ _ (other_block h), World.cell?_setCell_other _ _ _ _ (other_block h)]

theorem put4_below {B : Nat} {w w' : World} {g o : Nat} {a c v u : Value} (h : Below B w w') (hg : B ≤ g) :
    Below B w ((((w'.setCell ⟨g, o, none⟩ a).setCell ⟨g, o + 1, none⟩ c).setCell ⟨g, o + 2, none⟩ v).setCell ⟨g, o + 3, none⟩ u).drew :=
  ((((h.setCell hg _).setCell hg _).setCell hg _).setCell hg _).drew

set_option maxHeartbeats 800000 in
theorem outcome_some (b off n cap : Nat) (R : Nat → Int) (C : Nat → Bool) (V U : Nat → Int) (w : World) (hn : n ≤ 4096) (hb : b < w.heap.size) (hr : Reps w b off n R C V U) :
    Calls Try.prog 10 #[.slice (some ⟨b, off, none⟩) n cap] w fun e w' => e = .returned (.agg #[.slice (some ⟨w.heap.size + 1, 0, none⟩) n n]) ∧ Reps w' (w.heap.size + 1) 0 n R C V U ∧ Below w.heap.size w w' ∧ w.heap.size + 1 < w'.heap.size := by
  have e1 := fun (w : World) (a : Option Addr) (l c : Nat) => Lib.run_eql_slice_nil (P := Try.prog) w 22 41 a l c 0 0 Try.underlying22
  have hmk := make45 n hn
  have hst : Half ((w.alloc (.cells #[.slice none 0 0] 27)).alloc (.cells (zeros n) 45)) (w.heap.size + 1) n 0 R C V U := by
    have := half_made (w.alloc (.cells #[.slice none 0 0] 27)) 45 n R C V U
    rwa [show (w.alloc (.cells #[.slice none 0 0] 27)).heap.size = w.heap.size + 1 by simp] at this
  go_enter Try.func10, Try.ntmps10
  go_wp2
  go_loopw [4] (fun i wr => ∃ k : Nat, k ≤ n ∧ i = .int .i64 k ∧ Half wr (w.heap.size + 1) n k R C V U ∧ Below w.heap.size w wr ∧ w.heap.size + 1 < wr.heap.size ∧ wr.cell? ⟨w.heap.size, 0, none⟩ = some (.slice none 0 0) ∧ wr.frozen? ⟨w.heap.size, 0, none⟩ = false) (fun i _ => n - (intOf i).toNat)
  case atStart => exact ⟨0, Nat.zero_le _, rfl, hst, ((Below.refl _ _).alloc (Nat.le_refl _) _).alloc (by simp) _, by simp, by simp, by simp⟩
  case round =>
    obtain ⟨k, hk, rfl, hh, hbl, hz, hc0, hf0⟩ := hrel
    by_cases hlt : k < n
    · have hr' := hr.below hbl hb
      have h1 := hr'.r k hlt
      have h2 := hr'.c k hlt
      have h3 := hr'.v k hlt
      have h4 := hr'.u k hlt
      have hnew := half_step hh hlt (hr.wr k hlt)
      have hbn : Below w.heap.size w ((((wr.setCell ⟨w.heap.size + 1, k * 4, none⟩ (.int .i64 (R k))).setCell ⟨w.heap.size + 1, k * 4 + 1, none⟩ (.bool (C k))).setCell ⟨w.heap.size + 1, k * 4 + 2, none⟩ (.int .u8 (V k))).setCell ⟨w.heap.size + 1, k * 4 + 3, none⟩ (.int .u64 (U k))).drew :=
        put4_below hbl (by omega)
      have HN : Hid _ := hnew
      have HB : Hid _ := hbn
      clear hnew hbn hst
      obtain ⟨v0, g0⟩ := hh.full (k * 4) (by omega)
      obtain ⟨v1, g1⟩ := hh.full (k * 4 + 1) (by omega)
      obtain ⟨v2, g2⟩ := hh.full (k * 4 + 2) (by omega)
      obtain ⟨v3, g3⟩ := hh.full (k * 4 + 3) (by omega)
      have f0 := hh.fz (k * 4)
      have f1 := hh.fz (k * 4 + 1)
      have f2 := hh.fz (k * 4 + 2)
      have f3 := hh.fz (k * 4 + 3)
      go_wp2
      go_region
      go_wp2
      go_roundw
      case rel =>
        refine ⟨k + 1, by omega, by go_num, HN.out, HB.out, by simpa using hz, (four_far _ _ _ _ _ _ _ _ _ (by omega)).trans hc0, (four_frozen _ _ _ _ _ _ _ _).trans hf0⟩
      case measure => simp [intOf]; omega
    · have : k = n := by omega
      subst this
      go_wp2
      refine bodyPost_ret (v := .agg #[.slice (some ⟨w.heap.size + 1, 0, none⟩) k k]) (by simp [results, Try.results10, go_sem, hc0]) rfl ⟨rfl, ?_, ?_, ?_⟩
      · exact hh.reps.of (fun o => World.cell?_setCell_other _ _ _ _ (other_block (by omega)))
      · exact hbl.setCell (Nat.le_refl _) _
      · simpa using hz

set_option maxHeartbeats 800000 in
theorem outcome_none (a : Option Addr) (cap : Nat) (w : World) :
    Calls Try.prog 10 #[.slice a 0 cap] w fun e w' => (∃ a', e = .returned (.agg #[.slice a' 0 0])) ∧ Below w.heap.size w w' := by
  have e1 := fun (w : World) (a : Option Addr) (l c : Nat) => Lib.run_eql_slice_nil (P := Try.prog) w 22 41 a l c 0 0 Try.underlying22
  have hmk : ∀ w : World, (Instr.makeSlice 25 (.int .i64 0) (.int .i64 0)).run Try.prog w = .ok (.slice (some ⟨w.heap.size, 0, none⟩) 0 0) (w.alloc (.cells (zeros 0) 45)) := make45 0 (by omega)
  cases a with
  | none =>
    go_enter Try.func10, Try.ntmps10
    go_wp2
    exact bodyPost_ret (v := .agg #[.slice none 0 0]) (by simp [results, Try.results10, go_sem]) rfl ⟨⟨_, rfl⟩, (Below.refl _ _).alloc (Nat.le_refl _) _⟩
  | some a =>
    go_enter Try.func10, Try.ntmps10
    go_wp2
    refine wp_loop_rounds 1 ?_
    rw [rounds_succ]
    go_wp2
    refine bodyPost_ret (v := .agg #[.slice (some ⟨w.heap.size + 1, 0, none⟩) 0 0]) (by simp [results, Try.results10, go_sem]) rfl ⟨⟨_, rfl⟩, ?_⟩
    exact ((Below.refl _ _).alloc (Nat.le_refl _) _).alloc (by simp) _
end Go.Proofs.Qxb6619327a
