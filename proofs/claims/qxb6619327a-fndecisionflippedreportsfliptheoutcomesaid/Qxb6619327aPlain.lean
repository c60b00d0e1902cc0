/-
  THE PLAIN MATHEMATICS of the seat's laws: reports by their index (R: the replica, C: committed, V: the verdict), first reports, counts. No Go, no program.
-/
namespace Go.Proofs.Qxb6619327a.Plain

/-- Report i is its replica's first. -/
def first (R : Nat → Int) (i : Nat) : Bool := (List.range i).all (fun j => R j != R i)
/-- Replica x is among the first k reports. -/
def seen (R : Nat → Int) (k : Nat) (x : Int) : Bool := (List.range k).any (fun j => R j == x)

theorem first_true {R : Nat → Int} {i : Nat} : first R i = true ↔ ∀ j, j < i → R j ≠ R i := by
  simp [first, List.all_eq_true]
theorem first_false {R : Nat → Int} {i : Nat} : first R i = false ↔ ∃ j, j < i ∧ R j = R i := by
  simp [first, List.all_eq_false]
theorem seen_true {R : Nat → Int} {k : Nat} {x : Int} : seen R k x = true ↔ ∃ j, j < k ∧ R j = x := by
  simp [seen, List.any_eq_true]
theorem seen_at (R : Nat → Int) (k : Nat) : seen R k (R k) = !first R k := by
  cases h : first R k
  · rw [first_false] at h; simpa [seen_true] using h
  · rw [first_true] at h
    cases hs : seen R k (R k)
    · rfl
    · obtain ⟨j, hj, e⟩ := seen_true.1 hs; exact absurd e (h j hj)
theorem seen_zero (R : Nat → Int) (x : Int) : seen R 0 x = false := rfl
theorem seen_succ (R : Nat → Int) (k : Nat) (x : Int) : seen R (k + 1) x = (seen R k x || R k == x) := by
  simp [seen, List.range_succ]
theorem seen_succ_same (R : Nat → Int) (k : Nat) : seen R (k + 1) (R k) = true := by simp [seen_succ]
theorem seen_succ_other (R : Nat → Int) (k : Nat) (x : Int) (h : x ≠ R k) : seen R (k + 1) x = seen R k x := by
  rw [seen_succ]; have : (R k == x) = false := by simpa using fun e => h e.symm
  simp [this]
theorem seen_succ_old (R : Nat → Int) (k : Nat) (h : seen R k (R k) = true) (x : Int) : seen R (k + 1) x = seen R k x := by
  by_cases e : x = R k
  · subst e; rw [seen_succ_same, h]
  · exact seen_succ_other R k x e

/-- How many of the first k indices meet p. -/
def cnt (p : Nat → Bool) : Nat → Nat
  | 0 => 0
  | k + 1 => cnt p k + (if p k = true then 1 else 0)
theorem cnt_le (p : Nat → Bool) : ∀ k, cnt p k ≤ k
  | 0 => Nat.le_refl _
  | k + 1 => by have := cnt_le p k; simp only [cnt]; split <;> omega
theorem cnt_yes {p : Nat → Bool} {k : Nat} (h : p k = true) : cnt p (k + 1) = cnt p k + 1 := by simp [cnt, h]
theorem cnt_no {p : Nat → Bool} {k : Nat} (h : p k = false) : cnt p (k + 1) = cnt p k := by simp [cnt, h]
theorem cnt_mono {p : Nat → Bool} {i j : Nat} (h : i ≤ j) : cnt p i ≤ cnt p j := by
  induction j with
  | zero => have : i = 0 := by omega
            subst this; exact Nat.le_refl _
  | succ j ih =>
    by_cases e : i = j + 1
    · subst e; exact Nat.le_refl _
    · have := ih (by omega); simp only [cnt]; omega
theorem cnt_congr {p q : Nat → Bool} {n : Nat} (h : ∀ i, i < n → p i = q i) : cnt p n = cnt q n := by
  induction n with
  | zero => rfl
  | succ n ih => simp only [cnt]; rw [ih (fun i hi => h i (by omega)), h n (by omega)]

/-- A first report on the side b. -/
def side (R : Nat → Int) (C : Nat → Bool) (b : Bool) (i : Nat) : Bool := C i == b && first R i
/-- A first report, Matched, of a replica other than m. -/
def vouch (R V : Nat → Int) (m : Int) (i : Nat) : Bool := V i == 1 && R i != m && first R i

/-! ### Decision -/
/-- What 'Decision' answers, (committed, decided), over n reports. -/
def Decides (R : Nat → Int) (C : Nat → Bool) (n : Nat) (f : Int) (c d : Bool) : Prop :=
  (c = false ∧ d = false ∧ ∀ b, (cnt (side R C b) n : Int) ≤ f) ∨
  ∃ k, k < n ∧ c = C k ∧ d = true ∧ (∀ b, (cnt (side R C b) k : Int) ≤ f) ∧ f < (cnt (side R C (C k)) (k + 1) : Int)
/-- What 'zzReach' answers. -/
def Reaches (R : Nat → Int) (C : Nat → Bool) (n : Nat) (f : Int) (b : Bool) (r : Int) : Prop :=
  (r = -1 ∧ (cnt (side R C b) n : Int) ≤ f) ∨
  ∃ k : Nat, k < n ∧ r = (k : Int) ∧ (cnt (side R C b) k : Int) ≤ f ∧ f < (cnt (side R C b) (k + 1) : Int)

theorem side_other {R : Nat → Int} {C : Nat → Bool} {k : Nat} {b : Bool} (h : C k = !b) : side R C b k = false := by
  simp [side, h]

theorem reaches_same {R : Nat → Int} {C : Nat → Bool} {n k : Nat} {f : Int} {b : Bool} {r : Int} (h : Reaches R C n f b r) (hk : k < n)
    (h1 : (cnt (side R C b) k : Int) ≤ f) (h2 : f < (cnt (side R C b) (k + 1) : Int)) : r = (k : Int) := by
  rcases h with ⟨_, h3⟩ | ⟨j, hj, rfl, h3, h4⟩
  · have := cnt_mono (p := side R C b) (show k + 1 ≤ n by omega); omega
  · by_cases e1 : j < k
    · have := cnt_mono (p := side R C b) (show j + 1 ≤ k by omega); omega
    · by_cases e2 : k < j
      · have := cnt_mono (p := side R C b) (show k + 1 ≤ j by omega); omega
      · omega
theorem reaches_later {R : Nat → Int} {C : Nat → Bool} {n k : Nat} {f : Int} {b : Bool} {r : Int} (h : Reaches R C n f b r)
    (h1 : (cnt (side R C b) (k + 1) : Int) ≤ f) : r = -1 ∨ (k : Int) < r := by
  rcases h with ⟨h3, _⟩ | ⟨j, hj, rfl, h3, h4⟩
  · exact Or.inl h3
  · right
    by_cases e1 : j < k + 1
    · have := cnt_mono (p := side R C b) (show j + 1 ≤ k + 1 by omega); omega
    · omega
theorem reaches_none {R : Nat → Int} {C : Nat → Bool} {n : Nat} {f : Int} {b : Bool} {r : Int} (h : Reaches R C n f b r)
    (h1 : (cnt (side R C b) n : Int) ≤ f) : r = -1 := by
  rcases h with ⟨h3, _⟩ | ⟨j, hj, rfl, h3, h4⟩
  · exact h3
  · have := cnt_mono (p := side R C b) (show j + 1 ≤ n by omega); omega

/-- THE LAW: 'Decision' is the model. -/
theorem decides_model {R : Nat → Int} {C : Nat → Bool} {n : Nat} {f : Int} {c d : Bool} {rc rr : Int} (h : Decides R C n f c d) (hc : Reaches R C n f true rc) (hr : Reaches R C n f false rr) :
    d = (decide (0 ≤ rc) || decide (0 ≤ rr)) ∧ c = (decide (0 ≤ rc) && (decide (rr < 0) || decide (rc < rr))) := by
  rcases h with ⟨rfl, rfl, h⟩ | ⟨k, hk, rfl, rfl, h1, h2⟩
  · rw [reaches_none hc (h true), reaches_none hr (h false)]; decide
  · cases hb : C k
    · rw [hb] at h2
      have e := reaches_same hr hk (h1 false) h2
      have l := reaches_later (k := k) hc (by rw [cnt_no (side_other (b := true) hb)]; exact h1 true)
      subst e
      rcases l with rfl | l
      · have : ¬ ((k : Int) < 0) := by omega
        simp
      · have h3 : (0 : Int) ≤ rc := by omega
        have h4 : ¬ (rc < (k : Int)) := by omega
        have h5 : ¬ ((k : Int) < 0) := by omega
        simp [h3, h4, h5]
    · rw [hb] at h2
      have e := reaches_same hc hk (h1 true) h2
      have l := reaches_later (k := k) hr (by rw [cnt_no (side_other (b := false) hb)]; exact h1 false)
      subst e
      rcases l with rfl | l
      · simp
      · simp [l]

/-- 'Decision' has one answer. -/
theorem decides_one {R : Nat → Int} {C : Nat → Bool} {n k : Nat} {f : Int} {c d : Bool} (h : Decides R C n f c d) (hk : k < n)
    (h1 : ∀ b, (cnt (side R C b) k : Int) ≤ f) (h2 : f < (cnt (side R C (C k)) (k + 1) : Int)) : c = C k ∧ d = true := by
  rcases h with ⟨_, _, h⟩ | ⟨j, hj, rfl, rfl, h3, h4⟩
  · have := cnt_mono (p := side R C (C k)) (show k + 1 ≤ n by omega); have := h (C k); omega
  · have : j = k := by
      by_cases e1 : j < k
      · have := cnt_mono (p := side R C (C j)) (show j + 1 ≤ k by omega); have := h1 (C j); omega
      · by_cases e2 : k < j
        · have := cnt_mono (p := side R C (C k)) (show k + 1 ≤ j by omega); have := h3 (C k); omega
        · omega
    subst this; exact ⟨rfl, rfl⟩

/-- A DECIDED CUT STANDS. -/
theorem decides_cut {R : Nat → Int} {C : Nat → Bool} {m n : Nat} {f : Int} {cp dp c d : Bool} (hm : m ≤ n) (hp : Decides R C m f cp dp) (h : Decides R C n f c d) :
    (!dp || (d && c == cp)) = true := by
  rcases hp with ⟨_, rfl, _⟩ | ⟨k, hk, rfl, rfl, h1, h2⟩
  · rfl
  · obtain ⟨rfl, rfl⟩ := decides_one h (by omega) h1 h2; simp

/-- THE FLIP. -/
theorem side_flip (R : Nat → Int) (C : Nat → Bool) (b : Bool) : side R (fun i => !C i) b = side R C (!b) := by
  funext i; simp only [side]; cases C i <;> cases b <;> rfl
theorem decides_flip {R : Nat → Int} {C : Nat → Bool} {n : Nat} {f : Int} {c d c2 d2 : Bool} (h : Decides R C n f c d) (h2 : Decides R (fun i => !C i) n f c2 d2) :
    d = d2 ∧ c2 = (d && !c) := by
  rcases h with ⟨rfl, rfl, h⟩ | ⟨k, hk, rfl, rfl, h1, h3⟩
  · rcases h2 with ⟨rfl, rfl, _⟩ | ⟨k, hk, rfl, rfl, _, h3⟩
    · exact ⟨rfl, rfl⟩
    · rw [side_flip] at h3
      simp only [Bool.not_not] at h3
      have := cnt_mono (p := side R C (C k)) (show k + 1 ≤ n by omega); have := h (C k); omega
  · have e := decides_one (k := k) h2 hk (fun b => by rw [side_flip]; exact h1 _) (by rw [side_flip]; simpa using h3)
    obtain ⟨rfl, rfl⟩ := e
    simp

/-! ### Vouching -/
/-- What 'zzFirstMatched' answers. -/
def FirstMatched (R V : Nat → Int) (n : Nat) (x : Int) (r : Int) : Prop :=
  (r = 0 ∧ ∀ i, i < n → R i ≠ x) ∨ ∃ k, k < n ∧ R k = x ∧ (∀ j, j < k → R j ≠ x) ∧ r = if V k = 1 then 1 else 0

/-- Is there, among the first k, a first report of x that is Matched? -/
def fm (R V : Nat → Int) (x : Int) : Nat → Nat := cnt (fun i => V i == 1 && R i == x && first R i)
theorem fm_none {R V : Nat → Int} {x : Int} {n : Nat} (h : ∀ i, i < n → R i ≠ x) : fm R V x n = 0 := by
  induction n with
  | zero => rfl
  | succ n ih =>
    unfold fm at *
    rw [cnt_no (by have : (R n == x) = false := by simpa using h n (by omega)
                   simp [this]), ih (fun i hi => h i (by omega))]
theorem fm_after {R V : Nat → Int} {x : Int} {k : Nat} (hk : R k = x) : ∀ n, k < n → fm R V x n = fm R V x (k + 1) := by
  intro n hn
  induction n with
  | zero => omega
  | succ n ih =>
    by_cases e : k = n
    · subst e; rfl
    · rw [← ih (by omega)]
      unfold fm
      refine cnt_no ?_
      by_cases e2 : R n = x
      · have : first R n = false := first_false.2 ⟨k, by omega, by rw [hk, e2]⟩
        simp [this]
      · simp [e2]
theorem firstMatched_fm {R V : Nat → Int} {n : Nat} {x r : Int} (h : FirstMatched R V n x r) : r = (fm R V x n : Int) := by
  rcases h with ⟨rfl, h⟩ | ⟨k, hk, hx, hb, rfl⟩
  · rw [fm_none h]; rfl
  · rw [fm_after hx n hk]
    have h0 : fm R V x k = 0 := fm_none hb
    have hf : first R k = true := first_true.2 (fun j hj => by rw [hx]; exact hb j hj)
    unfold fm at *
    by_cases hv : V k = 1
    · rw [cnt_yes (by simp [hv, hx, hf]), h0]; simp [hv]
    · rw [cnt_no (by simp [hv]), h0]; simp [hv]
/-- Of all first reports that are Matched, those of x and those of the others. -/
theorem vouch_split (R V : Nat → Int) (x : Int) : ∀ n, cnt (vouch R V x) n + fm R V x n = cnt (fun i => V i == 1 && first R i) n
  | 0 => rfl
  | n + 1 => by
    have ih := vouch_split R V x n
    unfold fm at *
    by_cases hv : V n = 1
    · by_cases hf : first R n = true
      · rw [cnt_yes (p := fun i => V i == 1 && first R i) (by simp [hv, hf])]
        by_cases hr : R n = x
        · rw [cnt_no (p := vouch R V x) (by simp [vouch, hr]), cnt_yes (p := fun i => V i == 1 && R i == x && first R i) (by simp [hv, hr, hf])]; omega
        · rw [cnt_yes (p := vouch R V x) (by simp [vouch, hr, hv, hf]), cnt_no (p := fun i => V i == 1 && R i == x && first R i) (by simp [hr])]; omega
      · rw [cnt_no (p := vouch R V x) (by simp [vouch, hf]), cnt_no (p := fun i => V i == 1 && R i == x && first R i) (by simp [hf]), cnt_no (p := fun i => V i == 1 && first R i) (by simp [hf])]; exact ih
    · rw [cnt_no (p := vouch R V x) (by simp [vouch, hv]), cnt_no (p := fun i => V i == 1 && R i == x && first R i) (by simp [hv]), cnt_no (p := fun i => V i == 1 && first R i) (by simp [hv])]; exact ih
/-- THE LAW OF TWO MASTERS. -/
theorem two_masters {R V : Nat → Int} {n : Nat} {a b ra rb : Int} (ha : FirstMatched R V n a ra) (hb : FirstMatched R V n b rb) :
    (cnt (vouch R V a) n : Int) + ra = (cnt (vouch R V b) n : Int) + rb := by
  rw [firstMatched_fm ha, firstMatched_fm hb]
  have h1 := vouch_split R V a n
  have h2 := vouch_split R V b n
  omega
theorem firstMatched_le {R V : Nat → Int} {n : Nat} {x r : Int} (h : FirstMatched R V n x r) : 0 ≤ r ∧ r ≤ 1 := by
  rcases h with ⟨rfl, _⟩ | ⟨_, _, _, _, rfl⟩
  · omega
  · split <;> omega

end Go.Proofs.Qxb6619327a.Plain
