/- The contracts of slices.BinarySearch at []Date and (Calendar).After. -/
import Derived.Test.Qxb6619275aAfterWalk
namespace Go.Proofs.Qxb6619275a.AfterWalk
open Go.RowKit Go.Proofs.Qxb6619275a.AfterPlain

set_option maxHeartbeats 400000 in
theorem less_any (x y : Int) (w : World) : Calls Try.prog 26 #[.int .i32 x, .int .i32 y] w fun e w' => e = .returned (.bool (decide (x < y))) ∧ w' = w := by
  go_enter Try.func26, Try.ntmps26
  go_wp2
  go_ret
  exact ⟨rfl, rfl⟩

set_option maxHeartbeats 400000 in
theorem isNaN_any (x : Int) (w : World) : Calls Try.prog 27 #[.int .i32 x] w fun e w' => e = .returned (.bool false) ∧ w' = w := by
  go_enter Try.func27, Try.ntmps27
  go_wp2
  go_ret
  exact ⟨by simp, rfl⟩

/-- What BinarySearch leaves. -/
def Found (D : Nat → Int) (n : Nat) (d : Int) (w : World) (e : Ending) (w' : World) : Prop :=
  ∃ (lo : Nat) (f : Bool), lo ≤ n ∧ e = .returned (.tuple #[.int .i64 lo, .bool f]) ∧ Cut D n d (lo + f.toNat) ∧ w' = w

set_option maxHeartbeats 800000 in
theorem search_any (b off n cap : Nat) (D : Nat → Int) (d : Int) (w : World) (hn : n ≤ 65536) (hc : ∀ j, j < n → w.cell? ⟨b, off + j, none⟩ = some (.int .i32 (D j))) (hasc : Asc D n) :
    Calls Try.prog 25 #[.slice (some ⟨b, off, none⟩) n cap, .int .i32 d] w (Found D n d w) := by
  have HA := hide hasc
  clear hasc
  have HC := hide hc
  clear hc
  go_enter Try.func25, Try.ntmps25
  go_wp2
  go_loop [7, 8] (fun i j => ∃ lo hi : Nat, lo ≤ hi ∧ hi ≤ n ∧ i = .int .i64 lo ∧ j = .int .i64 hi ∧ (∀ p, p < lo → D p < d) ∧ ∀ p, hi ≤ p → p < n → d ≤ D p) (fun i j => (intOf j - intOf i).toNat)
  case atStart => exact ⟨0, n, by omega, by omega, rfl, rfl, fun p hp => by omega, fun p h1 h2 => by omega⟩
  case round =>
    obtain ⟨lo, hi, hlh, hhn, rfl, rfl, hlow, hhigh⟩ := hrel
    have HL := hide hlow
    have HH := hide hhigh
    clear hlow hhigh
    by_cases hlt : lo < hi
    · have hm1 : lo ≤ (lo + hi) / 2 := by omega
      have hm2 : (lo + hi) / 2 < hi := by omega
      have c1 := HC.out ((lo + hi) / 2) (by omega)
      by_cases hd : D ((lo + hi) / 2) < d
      · have HD := hide hd
        generalize hx : D ((lo + hi) / 2) = x at c1 hd
        clear hx
        go_wp2_with (go_at_call 26; refine (less_any _ _ _).mono ?_; rintro e w' ⟨rfl, rfl⟩)
        go_round
        case rel =>
          refine ⟨(lo + hi) / 2 + 1, hi, by omega, hhn, by go_num, rfl, fun p hp => ?_, HH.out⟩
          rcases Nat.lt_or_ge p ((lo + hi) / 2) with h | h
          · have := HA.out p ((lo + hi) / 2) h (by omega)
            have := HD.out
            omega
          · have e : p = (lo + hi) / 2 := by omega
            rw [e]; exact HD.out
        case measure => simp [intOf]; omega
      · have HD := hide hd
        generalize hx : D ((lo + hi) / 2) = x at c1 hd
        clear hx
        go_wp2_with (go_at_call 26; refine (less_any _ _ _).mono ?_; rintro e w' ⟨rfl, rfl⟩)
        go_round
        case rel =>
          refine ⟨lo, (lo + hi) / 2, hm1, by omega, rfl, by go_num, HL.out, fun p h1 h2 => ?_⟩
          rcases Nat.lt_or_ge ((lo + hi) / 2) p with h | h
          · have := HA.out ((lo + hi) / 2) p h h2
            have := HD.out
            omega
          · have e : p = (lo + hi) / 2 := by omega
            rw [e]; have := HD.out; omega
        case measure => simp [intOf]; omega
    · have e : lo = hi := by omega
      subst e
      by_cases hln : lo < n
      · have c1 := HC.out lo hln
        have hi1 : (lo : Int) < (n : Int) := by omega
        by_cases hd : D lo = d
        · have HD := hide hd
          rw [hd] at c1
          clear hd
          go_wp2_with (go_at_call 27; refine (isNaN_any _ _).mono ?_; rintro e w' ⟨rfl, rfl⟩)
          go_ret2
          refine ⟨lo, true, hhn, rfl, ⟨by simp; omega, fun j hj => ?_, fun j h1 h2 => ?_⟩, rfl⟩
          · rcases Nat.lt_or_ge j lo with h | h
            · have := HL.out j h; omega
            · have e : j = lo := by simp at hj; omega
              rw [e, HD.out]; exact Int.le_refl _
          · have := HA.out lo j (by simp at h1; omega) h2
            have := HD.out
            omega
        · have HD := hide hd
          have hb : (D lo == d) = false := by simpa using hd
          clear hd
          have hlo := HH.out lo (Nat.le_refl _) hln
          generalize hx : D lo = x at c1 hb
          clear hx
          go_wp2_with (go_at_call 27; refine (isNaN_any _ _).mono ?_; rintro e w' ⟨rfl, rfl⟩)
          go_ret2
          refine ⟨lo, false, hhn, rfl, ⟨by simpa using hhn, fun j hj => ?_, fun j h1 h2 => ?_⟩, rfl⟩
          · have := HL.out j (by simpa using hj); omega
          · have h3 := HD.out
            rcases Nat.lt_or_ge lo j with h | h
            · have := HA.out lo j h h2; omega
            · have e : j = lo := by simp at h1; omega
              rw [e]; omega
      · have hi1 : ¬ (lo : Int) < (n : Int) := by omega
        go_wp2
        go_ret2
        refine ⟨lo, false, hhn, rfl, ⟨by simpa using hhn, fun j hj => ?_, fun j h1 h2 => ?_⟩, rfl⟩
        · have := HL.out j (by simpa using hj); omega
        · simp at h1; omega
end Go.Proofs.Qxb6619275a.AfterWalk
