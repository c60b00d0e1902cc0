/-
  A LAW THAT THE KIT LACKS: 'm[k]' IN A map[K]bool THAT THE CALL HAS MADE; AND THE SET OF THE REPLICAS SEEN.
-/
import Derived.Test.Qxb6619327aWalkA
import Derived.Maps.OwnSet
namespace Go.Proofs.Qxb6619327a
open Go.RowKit Go.Proofs.Qxb6619327a.Plain Go.Maps

theorem plainElem_bool_inv {H : Type} {P : Program} {e : TypeId} (he : P.underlying e = some .bool) {v : Value} {z : DataW H × List MemPlace} (h : plainElem P e v = some z) : ∃ a, v = .bool a ∧ z = (.lit (.bool a), []) := by
  unfold plainElem at h
  rw [he] at h
  cases v <;> simp at h
  exact ⟨_, rfl, h.symm⟩

/-- 'm[k]' (without 'ok') AT bool ELEMENTS. -/
theorem wpList_lookup_own_bool {H : Type} {P : Program} (w : World) {ops : Array Oper} {rest : List Oper} {o : Oper} {a : Act} {Q : Exit → Act → World → Prop}
    (hg : o.guard = none) (m x : Operand) (t : TypeId) (hop : o.op = Op.lookup t m x false)
    (k e : TypeId) (K : Keyed P k) (ht : P.underlying t = some (.map k e)) (he : P.underlying e = some .bool) (hz : (zeroValue e).run P w = .ok (.bool false) w) (b n : Nat) (D : DataW H)
    (hm : a.eval m = .map (some b)) (hown : w.ownsMap P k (plainElem P e) b n D) (key : Value) (kl : Lit) (hx : a.eval x = key) (hkey : keyOf P k key = some kl)
    (xb : Bool) (hat : D.atKey kl (.lit (.bool false)) = .lit (.bool xb))
    (hK : wpList P ops Q rest (a.put o.dst (.bool xb)) w) :
    wpList P ops Q (o :: rest) a w := by
  refine wpList_plain hg fun K' hK' => ?_
  obtain ⟨v, ps, hrun, hv⟩ := hown.lookup K ht hz (plainElem_bool he false) hkey
  obtain ⟨c, rfl, hc⟩ := plainElem_bool_inv he hv
  simp only [Prod.mk.injEq] at hc
  have : c = xb := by have := hat.symm.trans hc.1; simpa using this.symm
  subst this
  unfold Oper.wp
  simp [execOp, hop, hm, hx, hrun, Result.andThen]
  exact hK' _ _ hK

theorem law3 : Keyed Try.prog 3 := int_keyed Try.underlying3
theorem zero4 (w : World) : (zeroValue 4).run Try.prog w = .ok (.bool false) w := by kernel_rfl

/-- BLOCK B IS A map[int]bool THAT HOLDS JUST THE REPLICAS OF THE FIRST k REPORTS. -/
def Seen (w : World) (B k : Nat) (R : Nat → Int) (D : DataW Unit) : Prop :=
  w.ownsMap Try.prog 3 (plainElem Try.prog 4) B k D ∧ IsMap D ∧ ∀ x, D.atKey (.int .i64 x) (.lit (.bool false)) = .lit (.bool (Plain.seen R k x))

theorem seen_made (w : World) (R : Nat → Int) : Seen (w.alloc (.map #[] 0)) w.heap.size 0 R (.map []) :=
  ⟨World.ownsMap_made _ _ _ _, isMap_empty, fun _ => rfl⟩
theorem seen_old {w : World} {B k : Nat} {R : Nat → Int} {D : DataW Unit} (h : Seen w B k R D) (hf : first R k = false) : Seen w B (k + 1) R D :=
  ⟨h.1.mono (Nat.le_succ _), h.2.1, fun x => by rw [seen_succ_old R k (by rw [seen_at, hf]; rfl) x]; exact h.2.2 x⟩
theorem seen_new {w w' : World} {B k : Nat} {R : Nat → Int} {D : DataW Unit} (h : Seen w B k R D) (ho : w'.ownsMap Try.prog 3 (plainElem Try.prog 4) B (k + 1) (D.put (.int .i64 (R k)) (.lit (.bool true)))) :
    Seen w' B (k + 1) R (D.put (.int .i64 (R k)) (.lit (.bool true))) := by
  refine ⟨ho, h.2.1.put _ _, fun x => ?_⟩
  by_cases e : x = R k
  · subst e; rw [seen_succ_same]; exact atKey_put_same (k := .int .i64 (R k)) h.2.1 trivial _ _
  · rw [atKey_put_other (fun e' => e (by simpa using e')), seen_succ_other R k x e]; exact h.2.2 x
theorem seen_at_no {w : World} {B k : Nat} {R : Nat → Int} {D : DataW Unit} (h : Seen w B k R D) (hf : first R k = true) : D.atKey (.int .i64 (R k)) (.lit (.bool false)) = .lit (.bool false) := by
  rw [h.2.2, seen_at, hf]; rfl
theorem seen_at_yes {w : World} {B k : Nat} {R : Nat → Int} {D : DataW Unit} (h : Seen w B k R D) (hf : first R k = false) : D.atKey (.int .i64 (R k)) (.lit (.bool false)) = .lit (.bool true) := by
  rw [h.2.2, seen_at, hf]; rfl
theorem Seen.alloc {w : World} {B k : Nat} {R : Nat → Int} {D : DataW Unit} (h : Seen w B k R D) (o : Obj) : Seen (w.alloc o) B k R D := ⟨h.1.alloc o, h.2⟩

theorem grown_cell {w w' : World} {row : Option Nat} {g o : Nat} (h : w.grownBy w' row) (hl : g < w.heap.size) (hne : some g ≠ row) : w'.cell? ⟨g, o, none⟩ = w.cell? ⟨g, o, none⟩ := by
  simp [World.cell?, h.block g hl hne]
/-- The round's own copy of a report stands while the map is written. -/
theorem four_cells {wr w1 : World} {a b c d : Value} {B : Nat} (h : (wr.alloc (.cells #[a, b, c, d] 45)).grownBy w1 (some B)) (hB : B < wr.heap.size) :
    w1.cell? ⟨wr.heap.size, 0, none⟩ = some a ∧ w1.cell? ⟨wr.heap.size, 1, none⟩ = some b ∧ w1.cell? ⟨wr.heap.size, 2, none⟩ = some c ∧ w1.cell? ⟨wr.heap.size, 3, none⟩ = some d := by
  have hs : wr.heap.size < (wr.alloc (.cells #[a, b, c, d] 45)).heap.size := by simp
  have hne : some wr.heap.size ≠ some B := by simp; omega
  refine ⟨?_, ?_, ?_, ?_⟩ <;> (rw [grown_cell h hs hne]; simp)
theorem round_below {B : Nat} {w wr w1 : World} {o : Obj} {G : Nat} (h : Below B w wr) (hg : (wr.alloc o).grownBy w1 (some G)) (hB : B ≤ G) (hs : B ≤ wr.heap.size) : Below B w w1 :=
  (h.alloc hs o).grown hg (by simp; omega) (fun j hj => by cases hj; exact hB)
end Go.Proofs.Qxb6619327a
