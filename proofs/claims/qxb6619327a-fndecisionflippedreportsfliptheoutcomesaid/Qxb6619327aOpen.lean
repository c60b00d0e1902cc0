/-
  A '[]Rep' THAT CAME IN, OPENED: its cells, by index.
-/
import Derived.Test.Qxb6619327aWalkA
import Derived.Deep.Slices
import Derived.ChangeOld
namespace Go.Proofs.Qxb6619327a
open Go.RowKit Go.Proofs.Qxb6619327a.Plain Go.ChangeShapes Go.WideShapes

theorem Try.cells41 : Try.prog.cellsOf 41 = 4 := by kernel_rfl
theorem Try.cells3 : Try.prog.cellsOf 3 = 1 := by kernel_rfl
theorem Try.cells4 : Try.prog.cellsOf 4 = 1 := by kernel_rfl
theorem Try.cells5 : Try.prog.cellsOf 5 = 1 := by kernel_rfl
theorem Try.cells39 : Try.prog.cellsOf 39 = 1 := by kernel_rfl

/-- WHAT THE WALK IS TOLD OF A '[]Rep' THAT CAME IN: nil leads nowhere; where there is an element, the reports lie in memory that was there. -/
def IsReps (w : World) (a : Option Addr) (len cap : Nat) (R : Nat → Int) (C : Nat → Bool) (V U : Nat → Int) : Prop :=
  len ≤ cap ∧ cap ≤ maxLen ∧ (a = none → cap = 0) ∧ (0 < len → ∃ b off, a = some ⟨b, off, none⟩ ∧ b < w.heap.size ∧ Reps w b off len R C V U)

theorem open_reps {H : Type} {enc : TypeId × Value → H} {w : World} {spare : Nat → Bool} {held : Bool} {fuel : Nat} {a : Option Addr} {len cap : Nat} {x : DataW H × List MemPlace}
    (h : DataW.trod enc Try.prog w 0 spare held fuel 22 [.slice a len cap] = some x) : ∃ R C V U, IsReps w a len cap R C V U := by
  rcases Deep.open_slice Try.underlying22 h with ⟨h0, _⟩ | ⟨ad, len', cap', m, n, D, Pl, hcs, _, hl, hm, hmm, rfl, hx⟩
  · simp only [List.cons.injEq, Value.slice.injEq, and_true] at h0
    obtain ⟨rfl, rfl, rfl⟩ := h0
    exact ⟨fun _ => 0, fun _ => false, fun _ => 0, fun _ => 0, by omega, by unfold maxLen; omega, fun _ => rfl, fun h => absurd h (by omega)⟩
  · simp only [List.cons.injEq, Value.slice.injEq, and_true] at hcs
    obtain ⟨rfl, rfl, rfl⟩ := hcs
    have hlm : len ≤ m := by rw [hmm]; split <;> omega
    rw [Try.cells41] at hx
    have each : ∀ i, i < len → ∃ q : Int × Bool × Int × Int, w.cell? (ad.add (i * 4)) = some (.int .i64 q.1) ∧ w.cell? (ad.add (i * 4 + 1)) = some (.bool q.2.1) ∧
        w.cell? (ad.add (i * 4 + 2)) = some (.int .u8 q.2.2.1) ∧ w.cell? (ad.add (i * 4 + 3)) = some (.int .u64 q.2.2.2) ∧ (Lit.int .i64 q.1).wf = true := by
      intro i hi
      obtain ⟨cs', h1, h2⟩ := hx i (by omega)
      obtain ⟨_, hlen, hcell⟩ := World.cells?_some h1
      obtain ⟨xs, k, hk, hxy, _, hxl, hf⟩ := DataW.trod_struct Try.underlying41 h2
      match xs, hxl, cs', hlen with
      | [y0, y1, y2, y3], _, [v0, v1, v2, v3], _ =>
        have g0 := hf 0 _ rfl
        have g1 := hf 1 _ rfl
        have g2 := hf 2 _ rfl
        have g3 := hf 3 _ rfl
        simp [Try.cells3, Try.cells4, Try.cells5, Try.cells39] at g0 g1 g2 g3
        obtain ⟨z0, e0, _, hw⟩ := DataW.trod_int Try.underlying3 g0
        obtain ⟨z1, e1, _⟩ := DataW.trod_bool Try.underlying4 g1
        obtain ⟨z2, e2, _, _⟩ := DataW.trod_int Try.underlying5 g2
        obtain ⟨z3, e3, _, _⟩ := DataW.trod_int Try.underlying39 g3
        simp only [List.cons.injEq, and_true] at e0 e1 e2 e3
        subst e0 e1 e2 e3
        have c0 := hcell 0 (by omega)
        have c1 := hcell 1 (by omega)
        have c2 := hcell 2 (by omega)
        have c3 := hcell 3 (by omega)
        rw [Deep.add_add] at c0 c1 c2 c3
        exact ⟨(z0, z1, z2, z3), by simpa using c0, by simpa using c1, by simpa using c2, by simpa using c3, hw⟩
    obtain ⟨q, hq⟩ := Deep.choose_lt each
    refine ⟨fun i => (q i).1, fun i => (q i).2.1, fun i => (q i).2.2.1, fun i => (q i).2.2.2, hl, hm, fun h => (by cases h), fun hpos => ?_⟩
    obtain ⟨b, off, spot⟩ := ad
    have hc := (hq 0 hpos).1
    have hspot : spot = none := by simpa [Addr.add] using World.cell?_spot hc
    subst hspot
    have hc0 : w.cell? ⟨b, off, none⟩ = some (.int .i64 (q 0).1) := by simpa [Addr.add] using hc
    have hb : b < w.heap.size := by
      apply Classical.byContradiction
      intro hb
      have : w.heap[b]? = none := Array.getElem?_eq_none (by omega)
      simp [World.cell?, this] at hc0
    refine ⟨b, off, rfl, hb, ⟨fun j hj => ?_, fun j hj => ?_, fun j hj => ?_, fun j hj => ?_, fun j hj => (hq j hj).2.2.2.2⟩⟩
    · rw [← add_plain]; exact (hq j hj).1
    · rw [Nat.add_assoc, ← add_plain]; exact (hq j hj).2.1
    · rw [Nat.add_assoc, ← add_plain]; exact (hq j hj).2.2.1
    · rw [Nat.add_assoc, ← add_plain]; exact (hq j hj).2.2.2.1
end Go.Proofs.Qxb6619327a
