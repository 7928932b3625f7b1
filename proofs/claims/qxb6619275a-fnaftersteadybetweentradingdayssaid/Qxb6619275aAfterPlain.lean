/- The plain mathematics of After: a strictly ascending row of numbers, and where a date cuts it. No Go in sight. -/
namespace Go.Proofs.Qxb6619275a.AfterPlain

/-- The first n numbers of D ascend strictly. -/
def Asc (D : Nat → Int) (n : Nat) : Prop := ∀ i j, i < j → j < n → D i < D j

/-- .. as far as neighbours go, up to k. -/
def Adj (D : Nat → Int) (k : Nat) : Prop := ∀ i, i + 1 < k → D i < D (i + 1)

theorem asc_of_adj {D : Nat → Int} {n : Nat} (h : Adj D n) : Asc D n := by
  intro i j
  induction j with
  | zero => intro hij; omega
  | succ j ih =>
    intro hij hj
    have h1 := h j (by omega)
    rcases Nat.lt_or_ge i j with h2 | h2
    · have := ih h2 (by omega); omega
    · have : i = j := by omega
      subst this
      exact h1
theorem adj_start (D : Nat → Int) : Adj D 1 := fun i hi => by omega
theorem adj_step {D : Nat → Int} {k : Nat} (h : Adj D k) (hk : D (k - 1) < D k) : Adj D (k + 1) := by
  intro i hi
  rcases Nat.lt_or_ge (i + 1) k with h1 | h1
  · exact h i h1
  · have e : i = k - 1 := by omega
    have e2 : i + 1 = k := by omega
    rw [e2, e]
    exact hk
theorem adj_le {D : Nat → Int} {k n : Nat} (h : Adj D k) (hn : n ≤ k) : Adj D n := fun i hi => h i (by omega)

/-- Of the first n numbers just the first c are at most d. -/
structure Cut (D : Nat → Int) (n : Nat) (d : Int) (c : Nat) : Prop where
  le : c ≤ n
  low : ∀ j, j < c → D j ≤ d
  high : ∀ j, c ≤ j → j < n → d < D j

theorem cut_exists {D : Nat → Int} {n : Nat} (h : Asc D n) (d : Int) : ∃ c, Cut D n d c := by
  have step : ∀ k, k ≤ n → ∃ c, Cut D k d c := by
    intro k
    induction k with
    | zero => intro _; exact ⟨0, Nat.le_refl _, fun j hj => by omega, fun j _ hj => by omega⟩
    | succ k ih =>
      intro hk
      obtain ⟨c, hc⟩ := ih (by omega)
      rcases Nat.lt_or_ge c k with h1 | h1
      · refine ⟨c, by omega, hc.low, fun j h2 h3 => ?_⟩
        rcases Nat.lt_or_ge j k with h4 | h4
        · exact hc.high j h2 h4
        · have e : j = k := by omega
          have h5 := hc.high c (Nat.le_refl _) h1
          have h6 := h c k h1 (by omega)
          rw [e]; omega
      · have e : c = k := by have := hc.le; omega
        by_cases hd : D k ≤ d
        · refine ⟨k + 1, Nat.le_refl _, fun j hj => ?_, fun j _ _ => by omega⟩
          rcases Nat.lt_or_ge j k with h4 | h4
          · exact hc.low j (by omega)
          · have e' : j = k := by omega
            rw [e']; exact hd
        · refine ⟨k, by omega, fun j hj => hc.low j (by omega), fun j h2 h3 => ?_⟩
          have e' : j = k := by omega
          rw [e']; omega
  exact step n (Nat.le_refl _)

theorem Cut.lt_iff {D : Nat → Int} {n : Nat} {d : Int} {c : Nat} (h : Cut D n d c) (j : Nat) (hj : j < n) : j < c ↔ D j ≤ d := by
  constructor
  · exact h.low j
  · intro h1
    rcases Nat.lt_or_ge j c with h2 | h2
    · exact h2
    · have := h.high j h2 hj; omega

theorem Cut.mono {D : Nat → Int} {n : Nat} {d e : Int} {c f : Nat} (h : Cut D n d c) (k : Cut D n e f) (hde : d ≤ e) : c ≤ f := by
  rcases Nat.lt_or_ge f c with h1 | h1
  · have h2 := h.low f h1
    have h3 := k.high f (Nat.le_refl _) (by have := h.le; omega)
    omega
  · exact h1

/-- At a listed day the cut lies right behind it. -/
theorem Cut.at {D : Nat → Int} {n : Nat} (h : Asc D n) {q : Nat} (hq : q < n) : Cut D n (D q) (q + 1) :=
  ⟨by omega, fun j hj => by
    rcases Nat.lt_or_ge j q with h1 | h1
    · have := h j q h1 hq; omega
    · have e : j = q := by omega
      rw [e]; exact Int.le_refl _, fun j h1 h2 => h q j (by omega) h2⟩

/-- What After answers where the cut lies at c: the m-th day above. -/
def aft (D : Nat → Int) (n c : Nat) (m : Int) : Int := if (c : Int) + m ≤ n then D (c + m.toNat - 1) else 0
def aok (n c : Nat) (m : Int) : Bool := decide ((c : Int) + m ≤ n)

theorem aft_yes {D : Nat → Int} {n c : Nat} {m : Int} (h : (c : Int) + m ≤ n) : aft D n c m = D (c + m.toNat - 1) := if_pos h
theorem aft_no {D : Nat → Int} {n c : Nat} {m : Int} (h : ¬ (c : Int) + m ≤ n) : aft D n c m = 0 := if_neg h
theorem aok_yes {n c : Nat} {m : Int} (h : (c : Int) + m ≤ n) : aok n c m = true := decide_eq_true h
theorem aok_no {n c : Nat} {m : Int} (h : ¬ (c : Int) + m ≤ n) : aok n c m = false := decide_eq_false h

end Go.Proofs.Qxb6619275a.AfterPlain
