/- The contracts of digits, ZZDigits, decimalByPlaces, powerOfTen: what each computes, by a walk of its text. -/
import Derived.Test.Qxb6619275aRows
import Derived.Test.Qxb6619275aPlain
import Derived.WalkKit
import Derived.WalkSpells
namespace Go.Proofs.Qxb6619275a.Digits
open Go.RowKit Go.Proofs.Qxb6619275a.Plain

theorem int_eq {k : IntKind} {a b : Int} (h : a = b) : Value.int k a = .int k b := by rw [h]
theorem ret_int {k : IntKind} {a b : Int} (h : a = b) : Ending.returned (.int k a) = .returned (.int k b) := by rw [h]
theorem ret_bool {a b : Bool} (h : a = b) : Ending.returned (.bool a) = .returned (.bool b) := by rw [h]
theorem ret_pair {k : IntKind} {a b : Int} {c d : Bool} (h : a = b) (h' : c = d) : Ending.returned (.tuple #[.int k a, .bool c]) = .returned (.tuple #[.int k b, .bool d]) := by rw [h, h']

theorem take_snoc (s : ByteArray) (k : Nat) (h : k < s.size) : s.data.toList.take (k + 1) = s.data.toList.take k ++ [s[k]] := by
  rw [List.take_succ_eq_append_getElem (by simpa using h)]; rfl
theorem drop_cons (s : ByteArray) (k : Nat) (h : k < s.size) : s.data.toList.drop k = s[k] :: s.data.toList.drop (k + 1) := by
  rw [List.drop_eq_getElem_cons (by simpa using h)]; rfl

/-- What digits answers. -/
def dN (l : List UInt8) : Int := if allD l then wrap64 (dv l) else 0

theorem all_step {s : ByteArray} {k : Nat} (h : k < s.size) (hd : 48 ≤ (s[k].toNat : Int) ∧ (s[k].toNat : Int) ≤ 57) (ha : allD (s.data.toList.take k) = true) : allD (s.data.toList.take (k + 1)) = true := by
  rw [take_snoc s k h, allD_append, ha]; simp [allD, isDig, hd]
theorem val_step {s : ByteArray} {k : Nat} (h : k < s.size) : wrap64 (wrap64 (wrap64 (dv (s.data.toList.take k)) * 10) + ((s[k].toNat : Int) - 48)) = wrap64 (dv (s.data.toList.take (k + 1))) := by
  rw [take_snoc s k h, dv_snoc, wrap_add_l, ← wrap_add_l (_ * 10), wrap_mul_l, wrap_add_l]
theorem bad_at {s : ByteArray} {k : Nat} (h : k < s.size) (hd : ¬ (48 ≤ (s[k].toNat : Int) ∧ (s[k].toNat : Int) ≤ 57)) : allD s.data.toList = false := by
  rw [← List.take_append_drop k s.data.toList, drop_cons s k h, allD_append, allD_cons]
  have : isDig s[k] = false := by simp only [isDig]; exact decide_eq_false hd
  rw [this]; simp
theorem dN_bad {l : List UInt8} (h : allD l = false) : dN l = 0 := by simp [dN, h]
theorem dN_good {l : List UInt8} (h : allD l = true) : dN l = wrap64 (dv l) := by simp [dN, h]

set_option maxHeartbeats 400000 in
theorem digits_any (s : ByteArray) (w : World) (hs : s.size ≤ maxLen) :
    Calls Try.prog 23 #[.string s] w fun e w' => e = .returned (.tuple #[.int .i64 (dN s.data.toList), .bool (allD s.data.toList)]) ∧ w' = w := by
  unfold maxLen at hs
  go_enter Try.func23, Try.ntmps23
  go_wp2
  go_loop [4, 5] (fun n i => ∃ k : Nat, k ≤ s.size ∧ i = .int .i64 k ∧ allD (s.data.toList.take k) = true ∧ n = .int .i64 (wrap64 (dv (s.data.toList.take k)))) (fun _ i => s.size - (intOf i).toNat)
  case atStart => exact ⟨0, Nat.zero_le _, rfl, rfl, int_eq (by simp [dv, wrap64])⟩
  case round =>
    obtain ⟨k, hk, rfl, hall, rfl⟩ := hrel
    have HA : Hid (allD (s.data.toList.take k) = true) := hall
    clear hall
    by_cases hlt : k < s.size
    · by_cases hd : 48 ≤ (s[k].toNat : Int) ∧ (s[k].toNat : Int) ≤ 57
      · go_wp2
        go_round
        case rel => exact ⟨k + 1, by omega, by go_num, all_step hlt hd HA.out, int_eq (val_step hlt)⟩
        case measure => simp [intOf]; omega
      · have hb := bad_at hlt hd
        have HB : Hid (allD s.data.toList = false) := hb
        clear hb
        go_wp2
        all_goals
          go_ret2
          exact ⟨ret_pair (dN_bad HB.out).symm HB.out.symm, rfl⟩
    · go_wp2
      go_ret2
      have e : s.data.toList.take k = s.data.toList := List.take_of_length_le (by simp; omega)
      have hA := HA.out
      rw [e] at hA
      exact ⟨ret_pair (by rw [e, dN_good hA]) hA.symm, rfl⟩

set_option maxHeartbeats 400000 in
theorem zzdigits_any (s : ByteArray) (w : World) (hs : s.size ≤ maxLen) :
    Calls Try.prog 8 #[.string s] w fun e w' => e = .returned (.tuple #[.int .i64 (dN s.data.toList), .bool (allD s.data.toList)]) ∧ w' = w := by
  go_enter Try.func8, Try.ntmps8
  go_wp2_with (go_at_call 23; refine (digits_any _ _ hs).mono ?_; rintro e w' ⟨rfl, rfl⟩)
  go_ret2
  exact ⟨rfl, rfl⟩

/-! powerOfTen -/
theorem pow_step (k : Nat) : wrap64 (wrap64 (10 ^ k) * 10) = wrap64 (10 ^ (k + 1)) := by rw [wrap_mul_l, Int.pow_succ]

set_option maxHeartbeats 400000 in
theorem power_any (n : Nat) (w : World) (hn : n ≤ maxLen) :
    Calls Try.prog 10 #[.int .i64 n] w fun e w' => e = .returned (.int .i64 (wrap64 (10 ^ n))) ∧ w' = w := by
  unfold maxLen at hn
  go_enter Try.func10, Try.ntmps10
  go_wp2
  go_loop [3, 4] (fun p i => ∃ k : Nat, k ≤ n ∧ i = .int .i64 k ∧ p = .int .i64 (wrap64 (10 ^ k))) (fun _ i => n - (intOf i).toNat)
  case atStart => exact ⟨0, Nat.zero_le _, rfl, int_eq (by simp [wrap64])⟩
  case round =>
    obtain ⟨k, hk, rfl, rfl⟩ := hrel
    generalize hP : (10 : Int) ^ k = P
    have HP : Hid ((10 : Int) ^ k = P) := hP
    clear hP
    by_cases hlt : k < n
    · go_wp2
      go_round
      case rel => exact ⟨k + 1, by omega, by go_num, int_eq (by rw [← pow_step, HP.out])⟩
      case measure => simp [intOf]; omega
    · go_wp2
      go_ret
      have : k = n := by omega
      subst this
      exact ⟨ret_int (by rw [HP.out]), rfl⟩

/-! decimalByPlaces: from the right -/
theorem place_step {s : ByteArray} {k : Nat} (h : k < s.size) (m : Nat) (hm : m = s.size - (k + 1)) : wrap64 (wrap64 (dv (s.data.toList.drop (k + 1))) + wrap64 (((s[k].toNat : Int) - 48) * wrap64 (10 ^ m))) = wrap64 (dv (s.data.toList.drop k)) := by
  rw [drop_cons s k h, dv_cons, wrap_add_l, wrap_add_r, ← wrap_add_r, wrap_mul_r, wrap_add_r, Int.add_comm]
  have : (List.drop (k + 1) s.data.toList).length = m := by rw [hm]; simp
  rw [this]
theorem drop_all (s : ByteArray) : s.data.toList.drop s.size = [] := List.drop_eq_nil_of_le (by simp)
theorem all_drop {s : ByteArray} {k : Nat} (h : k < s.size) (hd : 48 ≤ (s[k].toNat : Int) ∧ (s[k].toNat : Int) ≤ 57) (ha : allD (s.data.toList.drop (k + 1)) = true) : allD (s.data.toList.drop k) = true := by
  rw [drop_cons s k h, allD_cons, ha]; simp [isDig, hd]

set_option maxHeartbeats 400000 in
theorem places_any (s : ByteArray) (w : World) (hs : s.size ≤ maxLen) :
    Calls Try.prog 9 #[.string s] w fun e w' => e = .returned (.tuple #[.int .i64 (dN s.data.toList), .bool (allD s.data.toList)]) ∧ w' = w := by
  unfold maxLen at hs
  go_enter Try.func9, Try.ntmps9
  go_wp2
  go_loop [4, 5, 6] (fun v p i => ∃ k : Nat, k ≤ s.size ∧ i = .int .i64 ((k : Int) - 1) ∧ allD (s.data.toList.drop k) = true ∧ v = .int .i64 (wrap64 (dv (s.data.toList.drop k))) ∧ p = .int .i64 (wrap64 (10 ^ (s.size - k)))) (fun _ _ i => (intOf i + 1).toNat)
  case atStart => exact ⟨s.size, Nat.le_refl _, rfl, by rw [drop_all]; rfl, int_eq (by rw [drop_all]; simp [dv, wrap64]), int_eq (by simp [wrap64])⟩
  case round =>
    obtain ⟨k0, hk, rfl, hall, rfl, rfl⟩ := hrel
    have HA : Hid (allD (s.data.toList.drop k0) = true) := hall
    clear hall
    generalize hP : (10 : Int) ^ (s.size - k0) = P
    have HP : Hid ((10 : Int) ^ (s.size - k0) = P) := hP
    clear hP
    cases k0 with
    | zero =>
      have hA := HA.out
      rw [List.drop_zero] at hA
      have HB : Hid (allD s.data.toList = true) := hA
      clear hA
      go_wp2
      go_ret2
      exact ⟨ret_pair (by rw [dN_good HB.out]) HB.out.symm, rfl⟩
    | succ k =>
      have hlt : k < s.size := by omega
      have ek : ((k + 1 : Nat) : Int) - 1 = (k : Int) := by omega
      rw [ek]
      clear ek
      by_cases hd : 48 ≤ (s[k].toNat : Int) ∧ (s[k].toNat : Int) ≤ 57
      · go_wp2
        go_round
        case rel => exact ⟨k, by omega, by go_num, all_drop hlt hd HA.out, int_eq (by rw [← HP.out]; exact place_step hlt _ rfl), int_eq (by rw [← HP.out, pow_step]; congr 2; omega)⟩
        case measure => simp [intOf]
      · have hb := bad_at hlt hd
        have HB : Hid (allD s.data.toList = false) := hb
        clear hb
        go_wp2
        all_goals
          go_ret2
          exact ⟨ret_pair (dN_bad HB.out).symm HB.out.symm, rfl⟩
end Go.Proofs.Qxb6619275a.Digits
