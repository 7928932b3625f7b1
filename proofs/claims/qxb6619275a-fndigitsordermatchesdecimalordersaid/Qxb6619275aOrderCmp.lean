/- compareDecimalTexts: the contract. -/
import Derived.Test.Qxb6619275aOrderWalk
namespace Go.Proofs.Qxb6619275a.OrderWalk
open Go.RowKit Go.Proofs.Qxb6619275a.Plain Go.Proofs.Qxb6619275a.Digits

theorem split_at (s : ByteArray) (k : Nat) (h : k < s.size) : s.data.toList = s.data.toList.take k ++ s[k] :: s.data.toList.drop (k + 1) := by
  rw [← drop_cons s k h, List.take_append_drop]

theorem cmp_differ {x y : ByteArray} {k : Nat} (hx : allD x.data.toList = true) (hy : allD y.data.toList = true) (hkx : k < x.size) (hky : k < y.size) (hl : x.size = y.size)
    (he : x.data.toList.take k = y.data.toList.take k) (hd : ¬ (x[k].toNat : Int) = y[k].toNat) : cmpI (dv x.data.toList) (dv y.data.toList) = cmpI x[k].toNat y[k].toNat := by
  rw [split_at x k hkx, split_at y k hky, he]
  exact cmp_at _ _ _ _ _ (allD_drop _ _ hx) (allD_drop _ _ hy) (by simp [hl]) (fun e => hd (by rw [e]))

theorem wrap_byte (c : UInt8) : wrap64 (c.toNat : Int) = c.toNat := by have := c.toNat_lt; unfold wrap64; omega
theorem cmpI_self (a : Int) : cmpI a a = 0 := by simp [cmpI]

theorem take_agree {x y : ByteArray} {k : Nat} (hkx : k < x.size) (hky : k < y.size) (he : x.data.toList.take k = y.data.toList.take k) (hd : (x[k].toNat : Int) = y[k].toNat) : x.data.toList.take (k + 1) = y.data.toList.take (k + 1) := by
  rw [take_snoc x k hkx, take_snoc y k hky, he]
  have : x[k] = y[k] := UInt8.toNat_inj.1 (by omega)
  rw [this]

set_option maxHeartbeats 400000 in
theorem cmpTexts_len (x y : ByteArray) (w : World) (ax : allD x.data.toList = true) (ay : allD y.data.toList = true)
    (lx : lead x.data.toList) (ly : lead y.data.toList) (hl : x.size ≠ y.size) :
    Calls Try.prog 15 #[.string x, .string y] w fun e w' => e = .returned (.int .i64 (cmpI (dv x.data.toList) (dv y.data.toList))) ∧ ∃ n, w' = w.drewN n := by
  have hc : cmpI (dv x.data.toList) (dv y.data.toList) = cmpI x.size y.size := by
    have := cmp_len ax ay lx ly (by simpa using hl)
    simpa using this
  have HC : Hid (cmpI (dv x.data.toList) (dv y.data.toList) = cmpI x.size y.size) := hc
  clear hc ax ay lx ly
  have hne : ((x.size : Int) != (y.size : Int)) = true := by simp only [bne_iff_ne, ne_eq]; omega
  clear hl
  go_enter Try.func15, Try.ntmps15
  go_wp2_with (go_at_call 14; refine (cmpInts_any _ _ _).mono ?_; rintro e w' ⟨rfl, rfl⟩)
  go_ret
  exact ⟨ret_int HC.out.symm, 0, rfl⟩

set_option maxHeartbeats 800000 in
theorem cmpTexts_same (x y : ByteArray) (w : World) (hx : x.size ≤ maxLen) (ax : allD x.data.toList = true) (ay : allD y.data.toList = true) (hl : x.size = y.size) :
    Calls Try.prog 15 #[.string x, .string y] w fun e w' => e = .returned (.int .i64 (cmpI (dv x.data.toList) (dv y.data.toList))) ∧ ∃ n, w' = w.drewN n := by
  have AX : Hid (allD x.data.toList = true) := ax
  have AY : Hid (allD y.data.toList = true) := ay
  have HL : Hid (x.size = y.size) := hl
  clear ax ay
  unfold maxLen at hx
  have hne : ((x.size : Int) != (y.size : Int)) = false := by rw [hl]; simp
  clear hl
  go_enter Try.func15, Try.ntmps15
  go_wp2
  clear hne
  go_loopw [5] (fun i wr => ∃ k n : Nat, k ≤ x.size ∧ i = .int .i64 k ∧ wr = w.drewN n ∧ x.data.toList.take k = y.data.toList.take k) (fun i _ => x.size - (intOf i).toNat)
  case atStart => exact ⟨0, 0, Nat.zero_le _, rfl, rfl, by simp⟩
  case round =>
    obtain ⟨k, n, hk, rfl, rfl, he⟩ := hrel
    have HE : Hid (x.data.toList.take k = y.data.toList.take k) := he
    clear he
    by_cases hlt : k < x.size
    · have hly : k < y.size := by have := HL.out; omega
      have hi : (k : Int) < (x.size : Int) := by omega
      have hi2 : (k : Int) < (y.size : Int) := by omega
      by_cases hd : (x[k].toNat : Int) = y[k].toNat
      · have HD : Hid ((x[k].toNat : Int) = y[k].toNat) := hd
        have hb : ((x[k].toNat : Int) != (y[k].toNat : Int)) = false := by simpa using hd
        clear hd
        go_wp2
        go_quiet (fail)
        go_wp2
        go_roundw
        case rel => exact ⟨k + 1, _, by omega, by go_num, rfl, take_agree hlt hly HE.out HD.out⟩
        case measure => simp [intOf]; omega
      · have HD : Hid (¬ (x[k].toNat : Int) = y[k].toNat) := hd
        have hb : ((x[k].toNat : Int) != (y[k].toNat : Int)) = true := by simpa using hd
        clear hd
        go_wp2
        go_quiet (fail)
        go_wp2
        obtain ⟨m, hm⟩ : ∃ m, (w.drewN n).drewN nq = w.drewN m := ⟨n + nq, by simp⟩
        rw [hm]
        clear hm
        generalize hW : w.drewN m = W
        have HW : Hid (w.drewN m = W) := hW
        clear hW
        go_quiet ((go_at_call 14; exact Calls.quiet_of_same (cmpInts_any _ _ _)))
        go_wp2
        go_ret
        exact ⟨ret_int (by rw [wrap_byte, wrap_byte, cmp_differ AX.out AY.out hlt hly HL.out HE.out HD.out]), m + nq, by rw [← HW.out]; simp⟩
    · go_wp2
      go_ret
      have e : x.data.toList = y.data.toList := by
        have h := HE.out
        rwa [List.take_of_length_le (by simp; omega), List.take_of_length_le (by have := HL.out; simp; omega)] at h
      exact ⟨ret_int (by rw [e, cmpI_self]), _, rfl⟩

theorem cmpTexts_any (x y : ByteArray) (w : World) (hx : x.size ≤ maxLen) (ax : allD x.data.toList = true) (ay : allD y.data.toList = true)
    (lx : lead x.data.toList) (ly : lead y.data.toList) :
    Calls Try.prog 15 #[.string x, .string y] w fun e w' => e = .returned (.int .i64 (cmpI (dv x.data.toList) (dv y.data.toList))) ∧ ∃ n, w' = w.drewN n := by
  by_cases hl : x.size = y.size
  · exact cmpTexts_same x y w hx ax ay hl
  · exact cmpTexts_len x y w ax ay lx ly hl
end Go.Proofs.Qxb6619275a.OrderWalk
