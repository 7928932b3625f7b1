/- The walk of FnDigitsConcatenation. -/
import Derived.Test.Qxb6619275aDigits
import Derived.RowKit3
namespace Go.Proofs.Qxb6619275a.ConcatWalk
open Go.RowKit Go.Proofs.Qxb6619275a.Plain Go.Proofs.Qxb6619275a.Digits

set_option maxHeartbeats 400000 in
theorem bytes_any (a b : ByteArray) (w : World) (ha : a.size ≤ maxLen) (hb : b.size ≤ maxLen) :
    Calls Try.prog 7 #[.string a, .string b] w fun e w' => ∃ r : Bool, e = .returned (.bool r) ∧ w' = w := by
  unfold maxLen at ha hb
  go_enter Try.func7, Try.ntmps7
  go_wp2
  all_goals
    go_ret
    exact ⟨_, rfl, rfl⟩

theorem list_app (a b : ByteArray) : (a ++ b).data.toList = a.data.toList ++ b.data.toList := by simp
theorem size_app (a b : ByteArray) : (a ++ b).size = a.size + b.size := by simp

/-- ZZDigits of the two texts joined, both of digits alone. -/
theorem sum_tt (a b : ByteArray) (w : World) (h0 : a.size ≤ 65536) (h1 : b.size ≤ 65536) (hA : allD a.data.toList = true) (hB : allD b.data.toList = true) :
    Calls Try.prog 8 #[.string (a ++ b)] w fun e w' => e = .returned (.tuple #[.int .i64 (wrap64 (wrap64 (dN a.data.toList * wrap64 (10 ^ b.size)) + dN b.data.toList)), .bool true]) ∧ w' = w := by
  refine (zzdigits_any (a ++ b) w (by rw [size_app]; unfold maxLen; omega)).mono ?_
  rintro e w' ⟨rfl, rfl⟩
  have hAB : allD (a ++ b).data.toList = true := by rw [list_app, allD_append, hA, hB]; rfl
  refine ⟨ret_pair ?_ hAB, rfl⟩
  rw [dN_good hAB, dN_good hA, dN_good hB, list_app, dv_append, wrap_mul_r, wrap_mul_l, wrap_add_l, wrap_add_r]
  have : b.data.toList.length = b.size := by simp
  rw [this]
/-- .. and where one of them holds another byte. -/
theorem sum_ff (a b : ByteArray) (w : World) (h0 : a.size ≤ 65536) (h1 : b.size ≤ 65536) (h : (allD a.data.toList && allD b.data.toList) = false) :
    Calls Try.prog 8 #[.string (a ++ b)] w fun e w' => e = .returned (.tuple #[.int .i64 0, .bool false]) ∧ w' = w := by
  refine (zzdigits_any (a ++ b) w (by rw [size_app]; unfold maxLen; omega)).mono ?_
  rintro e w' ⟨rfl, rfl⟩
  have hAB : allD (a ++ b).data.toList = false := by rw [list_app, allD_append, h]
  exact ⟨ret_pair (dN_bad hAB) hAB, rfl⟩
theorem power_size (b : ByteArray) (w : World) (h : b.size ≤ maxLen) : Calls Try.prog 10 #[.int .i64 b.size] w fun e w' => e = .returned (.int .i64 (wrap64 (10 ^ b.size))) ∧ w' = w := power_any b.size w h

set_option maxHeartbeats 800000 in
/-- The walk behind the two guards, for whatever the four calls answer. -/
theorem core (a b : ByteArray) (w : World) (h0 : a.size ≤ 65536) (h1 : b.size ≤ 65536) (x y z P : Int) (p q : Bool) (w0 : a.size ≤ maxLen) (w1 : b.size ≤ maxLen)
   (ca : Hid (∀ w, Calls Try.prog 8 #[.string a] w fun e w' => e = .returned (.tuple #[.int .i64 x, .bool p]) ∧ w' = w))
   (cb : Hid (∀ w, Calls Try.prog 8 #[.string b] w fun e w' => e = .returned (.tuple #[.int .i64 y, .bool q]) ∧ w' = w))
   (cab : Hid (∀ w, Calls Try.prog 8 #[.string (a ++ b)] w fun e w' => e = .returned (.tuple #[.int .i64 z, .bool (p && q)]) ∧ w' = w))
   (cpl : Hid (∀ w, Calls Try.prog 9 #[.string a] w fun e w' => e = .returned (.tuple #[.int .i64 x, .bool p]) ∧ w' = w))
   (cpw : Hid (∀ w, Calls Try.prog 10 #[.int .i64 b.size] w fun e w' => e = .returned (.int .i64 P) ∧ w' = w))
   (hy : Hid (q = false → y = 0)) (hzf : Hid ((p && q) = false → z = 0)) (hzt : Hid ((p && q) = true → z = wrap64 (wrap64 (x * P) + y))) :
    Calls Try.prog 3 #[.string a, .string b] w fun e w' => e = .returned (.bool true) ∧ Grown w w' := by
  have c7 := bytes_any a b w w0 w1
  go_enter Try.func3, Try.ntmps3
  go_wp2_with fail
  refine c7.mono ?_
  rintro e w' ⟨r, rfl, rfl⟩
  cases r with
  | false =>
    go_wp2
    go_ret
    exact ⟨rfl, Grown.refl _⟩
  | true =>
    clear c7
    go_wp2_with fail
    refine (ca.out _).mono ?_; rintro e w' ⟨rfl, rfl⟩
    go_wp2_with fail
    refine (cb.out _).mono ?_; rintro e w' ⟨rfl, rfl⟩
    go_wp2_with fail
    refine (cab.out _).mono ?_; rintro e w' ⟨rfl, rfl⟩
    go_wp2_with fail
    refine (cpl.out _).mono ?_; rintro e w' ⟨rfl, rfl⟩
    clear ca cb cab cpl
    cases q with
    | false =>
      obtain rfl := hy.out rfl
      obtain rfl := hzf.out (by simp)
      clear hy hzf hzt cpw
      cases p <;>
      · go_wp2
        go_ret
        exact ⟨rfl, Grown.refl _⟩
    | true =>
      cases p with
      | false =>
        obtain rfl := hzf.out (by simp)
        clear hy hzf hzt cpw
        go_wp2
        go_ret
        exact ⟨rfl, Grown.refl _⟩
      | true =>
        obtain rfl := hzt.out (by simp)
        clear hy hzf hzt
        go_wp2_with fail
        refine (cpw.out _).mono ?_; rintro e w' ⟨rfl, rfl⟩
        clear cpw
        go_wp2
        go_ret
        exact ⟨by simp, Grown.refl _⟩

set_option maxHeartbeats 800000 in
theorem long (a b : ByteArray) (w : World) (w0 : a.size ≤ maxLen) (w1 : b.size ≤ maxLen) (h : 65536 < a.size ∨ 65536 < b.size) :
    Calls Try.prog 3 #[.string a, .string b] w fun e w' => e = .returned (.bool true) ∧ Grown w w' := by
  have c7 := bytes_any a b w w0 w1
  rcases Nat.lt_or_ge 65536 a.size with h0 | h0
  · go_enter Try.func3, Try.ntmps3
    go_wp2_with fail
    refine c7.mono ?_
    rintro e w' ⟨r, rfl, rfl⟩
    cases r <;>
    · go_wp2
      go_ret
      exact ⟨rfl, Grown.refl _⟩
  · have h1 : 65536 < b.size := by omega
    clear h
    go_enter Try.func3, Try.ntmps3
    go_wp2_with fail
    refine c7.mono ?_
    rintro e w' ⟨r, rfl, rfl⟩
    cases r <;>
    · go_wp2
      go_ret
      exact ⟨rfl, Grown.refl _⟩

theorem walk (a b : ByteArray) (w0 : a.size ≤ maxLen) (w1 : b.size ≤ maxLen) (w : World) :
    Calls Try.prog 3 #[.string a, .string b] w fun e w' => e = .returned (.bool true) ∧ Grown w w' := by
  by_cases h : 65536 < a.size ∨ 65536 < b.size
  · exact long a b w w0 w1 h
  have h0 : a.size ≤ 65536 := by omega
  have h1 : b.size ≤ 65536 := by omega
  by_cases hAB : (allD a.data.toList && allD b.data.toList) = true
  · have hAB' := hAB
    rw [Bool.and_eq_true] at hAB
    refine core a b w h0 h1 _ _ (wrap64 (wrap64 (dN a.data.toList * wrap64 (10 ^ b.size)) + dN b.data.toList)) _ _ _ w0 w1 (fun w => zzdigits_any a w w0) (fun w => zzdigits_any b w w1) (fun w => ?_) (fun w => places_any a w w0) (fun w => power_size b w w1) dN_bad (fun h' => absurd hAB' (by simp [h'])) (fun _ => rfl)
    rw [hAB']
    exact sum_tt a b w h0 h1 hAB.1 hAB.2
  · have hAB' : (allD a.data.toList && allD b.data.toList) = false := by simpa using hAB
    refine core a b w h0 h1 _ _ 0 _ _ _ w0 w1 (fun w => zzdigits_any a w w0) (fun w => zzdigits_any b w w1) (fun w => ?_) (fun w => places_any a w w0) (fun w => power_size b w w1) dN_bad (fun _ => rfl) (fun h' => absurd h' hAB)
    rw [hAB']
    exact sum_ff a b w h0 h1 hAB'
end Go.Proofs.Qxb6619275a.ConcatWalk
