/- FnLenOfForEachGrowsByOneForNewKey: the list with k put in at place p, and the row that is being built by appends. -/
import Derived.Test.Qxb6619257aForEach
namespace Go.Proofs.Qxb6619257a.Base
open Go.RowKit Go.Proofs.Qxb6619257a.Plain Go.Proofs.Qxb6619257a.Lib

/-- E with k put in at place p. -/
def insF (E : Nat → ByteArray) (k : ByteArray) (p : Nat) (j : Nat) : ByteArray := if j < p then E j else if j = p then k else E (j - 1)
theorem insF_low {E : Nat → ByteArray} {k : ByteArray} {p j : Nat} (h : j < p) : insF E k p j = E j := if_pos h
theorem insF_at (E : Nat → ByteArray) (k : ByteArray) (p : Nat) : insF E k p p = k := by simp [insF]
theorem insF_high {E : Nat → ByteArray} {k : ByteArray} {p j : Nat} (h : p ≤ j) : insF E k p (j + 1) = E j := by
  simp [insF, show ¬ j + 1 < p by omega, show ¬ j + 1 = p by omega]

theorem mem_L {E : Nat → ByteArray} {n : Nat} {x : List UInt8} : x ∈ L E n ↔ ∃ j, j < n ∧ (E j).data.toList = x := by
  simp [L]

theorem mem_ins {E : Nat → ByteArray} {k : ByteArray} {p n : Nat} (hp : p ≤ n) (x : List UInt8) : x ∈ L (insF E k p) (n + 1) ↔ x = k.data.toList ∨ x ∈ L E n := by
  rw [mem_L, mem_L]
  constructor
  · rintro ⟨j, hj, rfl⟩
    rcases Nat.lt_trichotomy j p with h | h | h
    · rw [insF_low h]; exact .inr ⟨j, by omega, rfl⟩
    · rw [h, insF_at]; exact .inl rfl
    · obtain ⟨i, rfl⟩ : ∃ i, j = i + 1 := ⟨j - 1, by omega⟩
      rw [insF_high (by omega)]; exact .inr ⟨i, by omega, rfl⟩
  · rintro (rfl | ⟨j, hj, rfl⟩)
    · exact ⟨p, by omega, by rw [insF_at]⟩
    · rcases Nat.lt_or_ge j p with h | h
      · exact ⟨j, by omega, by rw [insF_low h]⟩
      · exact ⟨j + 1, by omega, by rw [insF_high h]⟩

/-- The first t strings of F, as cells. -/
def cellsF (F : Nat → ByteArray) (t : Nat) : List Value := (List.range t).map fun j => Value.string (F j)

/-- A row of the call's own that is being built by appends within its room. -/
structure Ins (w wr : World) (N : Nat) (F : Nat → ByteArray) (t : Nat) : Prop where
  row : wr.ownsRow w.heap.size 9 1 (.slice (some ⟨w.heap.size, 0, none⟩) t N) t (cellsF F t)
  below : Below w.heap.size w wr

theorem Ins.size {w wr : World} {N : Nat} {F : Nat → ByteArray} {t : Nat} (h : Ins w wr N F t) : w.heap.size < wr.heap.size := (h.row.lt _ rfl).2

theorem Ins.step {w wr w' : World} {N : Nat} {F : Nat → ByteArray} {t : Nat} {o : Obj} {x : ByteArray} (h : Ins w wr N F t) (hx : F t = x)
    (hown : w'.ownsRow w.heap.size 9 1 (.slice (some ⟨w.heap.size, 0, none⟩) (t + 1) N) (t + 1) (cellsF F t ++ [Value.string x]))
    (hg : (wr.alloc o).grownBy w' (some w.heap.size)) : Ins w w' N F (t + 1) where
  row := by
    have e : cellsF F (t + 1) = cellsF F t ++ [Value.string x] := by rw [cellsF, cellsF, List.range_succ, List.map_append, List.map_singleton, hx]
    rw [e]
    exact hown
  below := (h.below.alloc (Nat.le_of_lt h.size) o).grown hg (by rw [World.size_alloc]; have := h.size; omega) (fun k hk => by cases hk; exact Nat.le_refl _)

theorem Ins.krow {w wr : World} {N : Nat} {F : Nat → ByteArray} {t : Nat} (h : Ins w wr N F t) : KRow wr (some ⟨w.heap.size, 0, none⟩) t F where
  nil := fun e => by cases e
  at' := fun _ => ⟨w.heap.size, 0, rfl, h.size, fun j hj => by rw [Nat.zero_add, h.row.cellAt j (by omega)]; simp [cellsF, hj]⟩

theorem str_oneCell (x : ByteArray) : ∀ u ∈ [Value.string x], u.oneCell' = true := by intro u hu; rw [List.mem_singleton] at hu; subst hu; rfl

theorem ne_of_test {x y : ByteArray} (h : (x.toList == y.toList) = false) : x.data.toList ≠ y.data.toList := by
  rw [ByteArray.toList_eq, ByteArray.toList_eq] at h
  simpa using h
theorem eq_of_test {x y : ByteArray} (h : (x.toList == y.toList) = true) : x.data.toList = y.data.toList := by
  rw [ByteArray.toList_eq, ByteArray.toList_eq] at h
  simpa using h

/-- The two counts, k being among the keys or not. -/
theorem counts_old {E : Nat → ByteArray} {k : ByteArray} {p n : Nat} (hp : p ≤ n) {j : Nat} (hj : j < n) (h : (E j).data.toList = k.data.toList) : (S (L (insF E k p) (n + 1))).length = (S (L E n)).length :=
  S_len_old (mem_ins hp) (mem_L.2 ⟨j, hj, h⟩)
theorem counts_new {E : Nat → ByteArray} {k : ByteArray} {p n : Nat} (hp : p ≤ n) (h : ∀ x, x < n → (E x).data.toList ≠ k.data.toList) : (S (L (insF E k p) (n + 1))).length = (S (L E n)).length + 1 :=
  S_len_new (mem_ins hp) (fun hm => by obtain ⟨j, hj, e⟩ := mem_L.1 hm; exact h j hj e)
theorem counts_pos {E : Nat → ByteArray} {k : ByteArray} {p n : Nat} (hp : p ≤ n) : 1 ≤ (S (L (insF E k p) (n + 1))).length := S_len_pos ((mem_ins hp _).2 (.inl rfl))
theorem counts_le (E : Nat → ByteArray) (n : Nat) : (S (L E n)).length ≤ n := by have := S_len_le (L E n); rwa [L_length] at this
end Go.Proofs.Qxb6619257a.Base
