import Derived.RowKit
namespace Go.Proofs.Qxb6619275a.Plain
open Go.RowKit (wrap64)

theorem wrap_add_l (a b : Int) : wrap64 (wrap64 a + b) = wrap64 (a + b) := by unfold wrap64; omega
theorem wrap_add_r (a b : Int) : wrap64 (a + wrap64 b) = wrap64 (a + b) := by unfold wrap64; omega
theorem wrap_shift (a k : Int) : wrap64 (a + 18446744073709551616 * k) = wrap64 a := by unfold wrap64; omega
theorem wrap_is (a : Int) : ∃ k, wrap64 a = a + 18446744073709551616 * k :=
  ⟨-((a + 9223372036854775808) / 18446744073709551616), by unfold wrap64; omega⟩
theorem wrap_mul_l (a b : Int) : wrap64 (wrap64 a * b) = wrap64 (a * b) := by
  obtain ⟨k, hk⟩ := wrap_is a
  rw [hk, Int.add_mul, Int.mul_assoc, wrap_shift]
theorem wrap_mul_r (a b : Int) : wrap64 (a * wrap64 b) = wrap64 (a * b) := by
  rw [Int.mul_comm, wrap_mul_l, Int.mul_comm]
theorem wrap_wrap (a : Int) : wrap64 (wrap64 a) = wrap64 a := by unfold wrap64; omega

/-- The number that a list of decimal digits writes, exactly. -/
def dv (l : List UInt8) : Int := l.foldl (fun n c => n * 10 + ((c.toNat : Int) - 48)) 0
def isDig (c : UInt8) : Bool := decide (48 ≤ (c.toNat : Int) ∧ (c.toNat : Int) ≤ 57)
def allD (l : List UInt8) : Bool := l.all isDig

theorem dv_nil : dv [] = 0 := rfl
theorem dv_snoc (l : List UInt8) (c : UInt8) : dv (l ++ [c]) = dv l * 10 + ((c.toNat : Int) - 48) := by
  simp [dv, List.foldl_append]
theorem foldl_from (l : List UInt8) : ∀ n : Int, l.foldl (fun n c => n * 10 + ((c.toNat : Int) - 48)) n = n * 10 ^ l.length + dv l := by
  induction l with
  | nil => intro n; simp [dv]
  | cons c l ih =>
    intro n
    unfold dv
    rw [List.foldl_cons, List.foldl_cons, ih, ih, List.length_cons, Int.pow_succ]
    simp only [Int.add_mul, Int.zero_mul, Int.zero_add, Int.mul_assoc, Int.mul_comm (10 : Int), Int.add_assoc]
theorem dv_cons (c : UInt8) (l : List UInt8) : dv (c :: l) = ((c.toNat : Int) - 48) * 10 ^ l.length + dv l := by
  show (c :: l).foldl _ _ = _
  rw [List.foldl_cons, foldl_from]; simp
theorem dv_append (a b : List UInt8) : dv (a ++ b) = dv a * 10 ^ b.length + dv b := by
  unfold dv
  rw [List.foldl_append, foldl_from b]; rfl

theorem allD_append (a b : List UInt8) : allD (a ++ b) = (allD a && allD b) := by simp [allD]
theorem allD_cons (c : UInt8) (l : List UInt8) : allD (c :: l) = (isDig c && allD l) := by simp [allD]

theorem pow10_pos (n : Nat) : (0 : Int) < 10 ^ n := Int.pow_pos (by decide)

theorem dv_bounds (l : List UInt8) (h : allD l = true) : 0 ≤ dv l ∧ dv l < 10 ^ l.length := by
  induction l with
  | nil => simp [dv]
  | cons c l ih =>
    rw [allD_cons, Bool.and_eq_true] at h
    obtain ⟨h1, h2⟩ := h
    obtain ⟨i1, i2⟩ := ih h2
    simp only [isDig, decide_eq_true_eq] at h1
    rw [dv_cons, List.length_cons, Int.pow_succ]
    have hp := pow10_pos l.length
    generalize (10 : Int) ^ l.length = P at *
    have e1 : 0 ≤ ((c.toNat : Int) - 48) * P := Int.mul_nonneg (by omega) (by omega)
    have e2 : ((c.toNat : Int) - 48) * P ≤ 9 * P := Int.mul_le_mul_of_nonneg_right (by omega) (by omega)
    omega

theorem dv_low (c : UInt8) (l : List UInt8) (h : allD (c :: l) = true) (hc : c ≠ 48) : 10 ^ l.length ≤ dv (c :: l) := by
  rw [allD_cons, Bool.and_eq_true] at h
  obtain ⟨h1, h2⟩ := h
  obtain ⟨i1, i2⟩ := dv_bounds l h2
  simp only [isDig, decide_eq_true_eq] at h1
  have hc' : c.toNat ≠ 48 := fun e => hc (UInt8.toNat_inj.1 (by simpa using e))
  rw [dv_cons]
  have hp := pow10_pos l.length
  generalize (10 : Int) ^ l.length = P at *
  have e2 : 1 * P ≤ ((c.toNat : Int) - 48) * P := Int.mul_le_mul_of_nonneg_right (by omega) (by omega)
  omega

theorem pow10_mono {m n : Nat} (h : m ≤ n) : (10 : Int) ^ m ≤ 10 ^ n := by
  obtain ⟨k, rfl⟩ : ∃ k, n = m + k := ⟨n - m, by omega⟩
  rw [Int.pow_add]
  have := pow10_pos m
  have h1 := pow10_pos k
  have : (10 : Int) ^ m * 1 ≤ 10 ^ m * 10 ^ k := Int.mul_le_mul_of_nonneg_left (by omega) (by omega)
  omega

def cmpI (x y : Int) : Int := if x < y then -1 else if y < x then 1 else 0

/-- no leading zero -/
def lead (l : List UInt8) : Prop := ∀ c r, l = c :: r → c ≠ 48

theorem dv_lt_of_len {a b : List UInt8} (ha : allD a = true) (hb : allD b = true) (lb : lead b) (h : a.length < b.length) : dv a < dv b := by
  obtain ⟨_, h1⟩ := dv_bounds a ha
  cases b with
  | nil => simp at h
  | cons c r =>
    have h2 := dv_low c r hb (lb c r rfl)
    have h3 : (10 : Int) ^ a.length ≤ 10 ^ r.length := pow10_mono (by simp at h; omega)
    omega

theorem cmp_len {a b : List UInt8} (ha : allD a = true) (hb : allD b = true) (la : lead a) (lb : lead b) (h : a.length ≠ b.length) : cmpI (dv a) (dv b) = cmpI a.length b.length := by
  rcases Nat.lt_or_ge a.length b.length with h1 | h1
  · have := dv_lt_of_len ha hb lb h1
    simp only [cmpI]; rw [if_pos this, if_pos (by omega)]
  · have := dv_lt_of_len hb ha la (by omega)
    simp only [cmpI]; rw [if_neg (by omega), if_pos this, if_neg (by omega), if_pos (by omega)]

theorem dv_lt_at (p u v : List UInt8) (c d : UInt8) (hu : allD u = true) (hv : allD v = true) (hl : u.length = v.length) (h : (c.toNat : Int) < d.toNat) :
    dv (p ++ c :: u) < dv (p ++ d :: v) := by
  rw [dv_append, dv_append, dv_cons, dv_cons, List.length_cons, List.length_cons, hl]
  obtain ⟨a1, a2⟩ := dv_bounds u hu
  obtain ⟨b1, b2⟩ := dv_bounds v hv
  rw [hl] at a2
  have hp := pow10_pos v.length
  generalize dv p * 10 ^ (v.length + 1) = Q
  generalize (10 : Int) ^ v.length = P at *
  have e2 : ((c.toNat : Int) - 48 + 1) * P ≤ ((d.toNat : Int) - 48) * P := Int.mul_le_mul_of_nonneg_right (by omega) (by omega)
  rw [Int.add_mul, Int.one_mul] at e2
  omega

theorem cmp_at (p u v : List UInt8) (c d : UInt8) (hu : allD u = true) (hv : allD v = true) (hl : u.length = v.length) (h : c ≠ d) :
    cmpI (dv (p ++ c :: u)) (dv (p ++ d :: v)) = cmpI c.toNat d.toNat := by
  have hn : c.toNat ≠ d.toNat := fun e => h (UInt8.toNat_inj.1 e)
  rcases Nat.lt_or_ge c.toNat d.toNat with h1 | h1
  · have := dv_lt_at p u v c d hu hv hl (by omega)
    simp only [cmpI]; rw [if_pos this, if_pos (by omega)]
  · have := dv_lt_at p v u d c hv hu hl.symm (by omega)
    simp only [cmpI]; rw [if_neg (by omega), if_pos this, if_neg (by omega), if_pos (by omega)]

theorem dv_zeros (l : List UInt8) : ∀ k, (∀ j, j < k → l[j]? = some 48) → dv (l.drop k) = dv l := by
  intro k
  induction k with
  | zero => intro _; simp
  | succ k ih =>
    intro h
    rw [← ih fun j hj => h j (by omega)]
    have hk := h k (by omega)
    obtain ⟨hlt, e⟩ := List.getElem?_eq_some_iff.1 hk
    rw [List.drop_eq_getElem_cons hlt, dv_cons, e]
    simp

theorem allD_drop (l : List UInt8) (k : Nat) (h : allD l = true) : allD (l.drop k) = true := by
  rw [← List.take_append_drop k l, allD_append, Bool.and_eq_true] at h
  exact h.2

theorem small18 {l : List UInt8} (h : allD l = true) (hl : l.length ≤ 18) : 0 ≤ dv l ∧ dv l < 1000000000000000000 := by
  obtain ⟨h1, h2⟩ := dv_bounds l h
  have := pow10_mono hl
  have e : (10 : Int) ^ 18 = 1000000000000000000 := by decide
  omega
theorem wrap_small {x : Int} (h : 0 ≤ x ∧ x < 1000000000000000000) : wrap64 x = x := by unfold wrap64; omega

end Go.Proofs.Qxb6619275a.Plain
