import Derived.Lib.RowBridge
namespace Go.Proofs.Qxb6619257a.Plain
open Go.Lib

/-- The keys sorted, without duplicates: what ForEach holds. -/
def S (ss : List (List UInt8)) : List (List UInt8) := Lib.compact (ss.mergeSort fun x y => decide (x ≤ y))

theorem mem_compactUpTo (d : Array (List UInt8)) (x : List UInt8) : ∀ m, x ∈ compactUpTo d m ↔ ∃ j, j < m ∧ d[j]! = x := by
  intro m
  induction m with
  | zero => simp [compactUpTo]
  | succ m ih =>
    rw [compactUpTo_succ, List.mem_append, ih]
    by_cases hk : keeps d m = true
    · rw [if_pos hk]
      constructor
      · rintro (⟨j, hj, e⟩ | h)
        · exact ⟨j, by omega, e⟩
        · exact ⟨m, by omega, (List.mem_singleton.1 h).symm⟩
      · rintro ⟨j, hj, e⟩
        rcases Nat.lt_or_ge j m with h | h
        · exact .inl ⟨j, h, e⟩
        · have : j = m := by omega
          subst this
          exact .inr (List.mem_singleton.2 e.symm)
    · rw [if_neg hk]
      have hk' : ¬ (m = 0 ∨ d[m]! ≠ d[m - 1]!) := by simpa [keeps] using hk
      have hm : m ≠ 0 := fun e => hk' (.inl e)
      have he : d[m]! = d[m - 1]! := Classical.byContradiction fun e => hk' (.inr e)
      constructor
      · rintro (⟨j, hj, e⟩ | h)
        · exact ⟨j, by omega, e⟩
        · cases h
      · rintro ⟨j, hj, e⟩
        rcases Nat.lt_or_ge j m with h | h
        · exact .inl ⟨j, h, e⟩
        · have : j = m := by omega
          subst this
          exact .inl ⟨j - 1, by omega, by rw [← he]; exact e⟩

theorem lt_of_le_ne {x y : List UInt8} (h : x ≤ y) (hn : x ≠ y) : x < y := by
  apply Classical.byContradiction
  intro hc
  exact hn (List.le_antisymm h (List.not_lt.1 hc))

theorem compactUpTo_lt (d : Array (List UInt8)) (hs : ∀ i j, i ≤ j → j < d.size → d[i]! ≤ d[j]!) : ∀ m, m ≤ d.size → (compactUpTo d m).Pairwise (· < ·) := by
  intro m
  induction m with
  | zero => intro _; simp [compactUpTo]
  | succ m ih =>
    intro hm
    rw [compactUpTo_succ]
    by_cases hk : keeps d m = true
    · rw [if_pos hk, List.pairwise_append]
      refine ⟨ih (by omega), List.pairwise_singleton _ _, ?_⟩
      intro x hx y hy
      obtain ⟨j, hj, rfl⟩ := (mem_compactUpTo d x m).1 hx
      rw [List.mem_singleton] at hy
      subst hy
      have hk' : m = 0 ∨ d[m]! ≠ d[m - 1]! := by simpa [keeps] using hk
      have hne : d[m]! ≠ d[m - 1]! := by
        rcases hk' with h | h
        · omega
        · exact h
      have h1 : d[j]! ≤ d[m - 1]! := hs j (m - 1) (by omega) (by omega)
      have h2 : d[m - 1]! < d[m]! := lt_of_le_ne (hs (m - 1) m (by omega) (by omega)) (fun e => hne e.symm)
      exact List.lt_of_le_of_lt h1 h2
    · rw [if_neg hk, List.append_nil]
      exact ih (by omega)

theorem leB_trans (a b c : List UInt8) (h1 : decide (a ≤ b) = true) (h2 : decide (b ≤ c) = true) : decide (a ≤ c) = true := by
  simp only [decide_eq_true_eq] at *; exact List.le_trans h1 h2
theorem leB_total (a b : List UInt8) : (decide (a ≤ b) || decide (b ≤ a)) = true := by
  simp only [Bool.or_eq_true, decide_eq_true_eq]; exact List.le_total a b

theorem sorted_get (zs : List (List UInt8)) (hp : zs.Pairwise fun a b => decide (a ≤ b) = true) : ∀ i j, i ≤ j → j < zs.toArray.size → zs.toArray[i]! ≤ zs.toArray[j]! := by
  intro i j hij hj
  have hj' : j < zs.length := by simpa using hj
  rcases Nat.lt_or_ge i j with h | h
  · have := List.pairwise_iff_getElem.1 hp i j (by omega) hj' h
    simp only [decide_eq_true_eq] at this
    rw [getElem!_pos _ i (by simp; omega), getElem!_pos _ j hj]
    simpa using this
  · have : i = j := by omega
    subst this
    exact List.le_refl _

theorem S_mem (ss : List (List UInt8)) (x : List UInt8) : x ∈ S ss ↔ x ∈ ss := by
  unfold S compact
  rw [mem_compactUpTo]
  rw [← List.mem_mergeSort (le := fun x y => decide (x ≤ y)), List.mem_iff_getElem]
  constructor
  · rintro ⟨j, hj, e⟩
    refine ⟨j, hj, ?_⟩
    rw [← e, getElem!_pos _ j (by simpa using hj)]
    simp
  · rintro ⟨j, hj, e⟩
    refine ⟨j, hj, ?_⟩
    rw [← e, getElem!_pos _ j (by simpa using hj)]
    simp

theorem S_lt (ss : List (List UInt8)) : (S ss).Pairwise (· < ·) :=
  compactUpTo_lt _ (sorted_get _ (List.pairwise_mergeSort leB_trans leB_total ss)) _ (by simp)

theorem nodup_of_lt {l : List (List UInt8)} (h : l.Pairwise (· < ·)) : l.Nodup :=
  List.pairwise_iff_getElem.2 fun i j hi hj hij e => by
    have h1 := List.pairwise_iff_getElem.1 h i j hi hj hij
    rw [e] at h1
    exact List.lt_irrefl _ h1
theorem S_nodup (ss : List (List UInt8)) : (S ss).Nodup := nodup_of_lt (S_lt ss)

/-- Two strictly increasing lists with the same members are one. -/
theorem eq_of_lt {l l' : List (List UInt8)} (h : l.Pairwise (· < ·)) (h' : l'.Pairwise (· < ·)) (hm : ∀ x, x ∈ l ↔ x ∈ l') : l = l' := by
  have hp : l.Perm l' := (List.perm_ext_iff_of_nodup (nodup_of_lt h) (nodup_of_lt h')).2 hm
  exact List.Perm.eq_of_pairwise (le := fun a b => a < b) (fun a b _ _ h1 h2 => absurd (List.lt_trans h1 h2) (List.lt_irrefl a)) h h' hp

theorem S_congr {l l' : List (List UInt8)} (hm : ∀ x, x ∈ l ↔ x ∈ l') : S l = S l' :=
  eq_of_lt (S_lt l) (S_lt l') fun x => by rw [S_mem, S_mem, hm]
theorem S_S (l : List (List UInt8)) : S (S l) = S l := S_congr fun x => S_mem l x

theorem S_len_le (l : List (List UInt8)) : (S l).length ≤ l.length := by
  have := Lib.compact_length_le (l.mergeSort fun x y => decide (x ≤ y))
  rwa [List.length_mergeSort] at this

theorem S_len_new {l l' : List (List UInt8)} {k : List UInt8} (hm : ∀ x, x ∈ l' ↔ x = k ∨ x ∈ l) (hk : ¬ k ∈ l) : (S l').length = (S l).length + 1 := by
  have hp : (S l').Perm (k :: S l) := (List.perm_ext_iff_of_nodup (S_nodup l') (List.nodup_cons.2 ⟨by rw [S_mem]; exact hk, S_nodup l⟩)).2 fun x => by
    rw [S_mem, List.mem_cons, S_mem, hm]
  simpa using hp.length_eq
theorem S_len_old {l l' : List (List UInt8)} {k : List UInt8} (hm : ∀ x, x ∈ l' ↔ x = k ∨ x ∈ l) (hk : k ∈ l) : (S l').length = (S l).length := by
  rw [S_congr (l := l') (l' := l) fun x => by rw [hm]; constructor <;> intro h <;> (first | (rcases h with h | h; (subst h; exact hk); exact h) | exact .inr h)]
theorem S_len_pos {l : List (List UInt8)} {k : List UInt8} (hk : k ∈ l) : 1 ≤ (S l).length :=
  List.length_pos_of_mem ((S_mem l k).2 hk)

end Go.Proofs.Qxb6619257a.Plain
