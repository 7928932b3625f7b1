/- The walk of FnDigitsOrderMatchesDecimalOrder and its callees. -/
import Derived.Test.Qxb6619275aDigits
import Derived.RowKit3
import Derived.Deep.QuietTactic
import Derived.BigQuiet
import Derived.WalkLawsBesides
namespace Go.Proofs.Qxb6619275a.OrderWalk
open Go.RowKit Go.Proofs.Qxb6619275a.Plain Go.Proofs.Qxb6619275a.Digits

set_option maxHeartbeats 400000 in
theorem bytes_any (a b : ByteArray) (w : World) (ha : a.size ≤ maxLen) (hb : b.size ≤ maxLen) :
    Calls Try.prog 11 #[.string a, .string b] w fun e w' => ∃ r : Bool, e = .returned (.bool r) ∧ w' = w := by
  unfold maxLen at ha hb
  go_enter Try.func11, Try.ntmps11
  go_wp2
  all_goals
    go_ret
    exact ⟨_, rfl, rfl⟩

set_option maxHeartbeats 400000 in
theorem only_any (s : ByteArray) (w : World) (hs : s.size ≤ maxLen) :
    Calls Try.prog 12 #[.string s] w fun e w' => e = .returned (.bool (allD s.data.toList)) ∧ w' = w := by
  unfold maxLen at hs
  go_enter Try.func12, Try.ntmps12
  go_wp2
  go_loop [3] (fun i => ∃ k : Nat, k ≤ s.size ∧ i = .int .i64 k ∧ allD (s.data.toList.take k) = true) (fun i => s.size - (intOf i).toNat)
  case atStart => exact ⟨0, Nat.zero_le _, rfl, rfl⟩
  case round =>
    obtain ⟨k, hk, rfl, hall⟩ := hrel
    have HA : Hid (allD (s.data.toList.take k) = true) := hall
    clear hall
    by_cases hlt : k < s.size
    · by_cases hd : 48 ≤ (s[k].toNat : Int) ∧ (s[k].toNat : Int) ≤ 57
      · go_wp2
        go_round
        case rel => exact ⟨k + 1, by omega, by go_num, all_step hlt hd HA.out⟩
        case measure => simp [intOf]; omega
      · have hb := bad_at hlt hd
        have HB : Hid (allD s.data.toList = false) := hb
        clear hb
        go_wp2
        all_goals
          go_ret
          exact ⟨ret_bool HB.out.symm, rfl⟩
    · go_wp2
      go_ret
      have e : s.data.toList.take k = s.data.toList := List.take_of_length_le (by simp; omega)
      have hA := HA.out
      rw [e] at hA
      exact ⟨ret_bool hA.symm, rfl⟩

set_option maxHeartbeats 400000 in
theorem cmpInts_any (x y : Int) (w : World) :
    Calls Try.prog 14 #[.int .i64 x, .int .i64 y] w fun e w' => e = .returned (.int .i64 (cmpI x y)) ∧ w' = w := by
  by_cases h : x < y
  · go_enter Try.func14, Try.ntmps14
    go_wp2
    go_ret
    exact ⟨ret_int (by rw [cmpI, if_pos h]), rfl⟩
  · by_cases h' : y < x
    · go_enter Try.func14, Try.ntmps14
      go_wp2
      go_ret
      exact ⟨ret_int (by rw [cmpI, if_neg (by omega), if_pos h']), rfl⟩
    · go_enter Try.func14, Try.ntmps14
      go_wp2
      go_ret
      exact ⟨ret_int (by rw [cmpI, if_neg (by omega), if_neg (by omega)]), rfl⟩

/-- The first k bytes are zeros. -/
def zeros (s : ByteArray) (k : Nat) : Prop := ∀ j, j < k → s.data.toList[j]? = some 48
theorem zero_at {s : ByteArray} {k : Nat} (h : k < s.size) : s.data.toList[k]? = some s[k] := by
  rw [List.getElem?_eq_getElem (by simpa using h)]; rfl

set_option maxHeartbeats 400000 in
theorem strip_any (s : ByteArray) (w : World) (hs : s.size ≤ maxLen) :
    Calls Try.prog 13 #[.string s] w fun e w' => ∃ k, k ≤ s.size ∧ e = .returned (.string (s.extract k s.size)) ∧ zeros s k ∧ lead (s.data.toList.drop k) ∧ w' = w := by
  unfold maxLen at hs
  go_enter Try.func13, Try.ntmps13
  go_wp2
  go_loop [3] (fun i => ∃ k : Nat, k ≤ s.size ∧ i = .int .i64 k ∧ zeros s k) (fun i => s.size - (intOf i).toNat)
  case atStart => exact ⟨0, Nat.zero_le _, rfl, fun j hj => absurd hj (Nat.not_lt_zero j)⟩
  case round =>
    obtain ⟨k, hk, rfl, hall⟩ := hrel
    have HA : Hid (zeros s k) := hall
    clear hall
    by_cases hlt : k < s.size
    · by_cases hd : (s[k].toNat : Int) = 48
      · have hd' : ((s[k].toNat : Int) == 48) = true := by simp [hd]
        have HD : Hid ((s[k].toNat : Int) = 48) := hd
        clear hd
        go_wp2
        go_round
        case rel =>
          refine ⟨k + 1, by omega, by go_num, fun j hj => ?_⟩
          by_cases e : j = k
          · subst e
            rw [zero_at hlt]
            have h48 : s[j] = 48 := UInt8.toNat_inj.1 (by have := HD.out; simpa using (by omega : s[j].toNat = 48))
            rw [h48]
          · exact HA.out j (by omega)
        case measure => simp [intOf]; omega
      · have hd' : ((s[k].toNat : Int) == 48) = false := by simp [hd]
        have HD : Hid (¬ (s[k].toNat : Int) = 48) := hd
        clear hd
        go_wp2
        go_ret
        refine ⟨k, hk, rfl, HA.out, ?_, rfl⟩
        intro c r e hc
        rw [drop_cons s k hlt] at e
        injection e with e1 e2
        subst e1
        apply HD.out
        rw [hc]; rfl
    · go_wp2
      go_ret
      refine ⟨k, hk, rfl, HA.out, ?_, rfl⟩
      intro c r e
      rw [List.drop_eq_nil_of_le (by simp; omega)] at e
      cases e
end Go.Proofs.Qxb6619275a.OrderWalk
