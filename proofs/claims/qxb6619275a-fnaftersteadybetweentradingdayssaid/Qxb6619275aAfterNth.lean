/- The contract of isNthAfter at what After answers: it returns true. -/
import Derived.Test.Qxb6619275aAfterAfter
namespace Go.Proofs.Qxb6619275a.AfterWalk
open Go.RowKit Go.Proofs.Qxb6619275a.AfterPlain

set_option maxHeartbeats 800000 in
theorem nth_few (a : Option Addr) (n cap : Nat) (D : Nat → Int) (d m : Int) (c : Nat) (w : World) (hn : n ≤ 65536) (hrow : Row w a n D) (hcut : Cut D n d c) (hq : ¬ (c : Int) + m ≤ n) :
    Calls Try.prog 20 #[.slice a n cap, .int .i32 d, .int .i64 m, .int .i32 0, .bool false] w fun e w' => e = .returned (.bool true) ∧ w' = w := by
  have cc := count_any a n cap D d c w (by unfold maxLen; omega) hrow hcut
  obtain ⟨t, ht⟩ : ∃ t : Nat, t = n - c := ⟨_, rfl⟩
  rw [← ht] at cc
  have hcn := hcut.le
  have htm : (t : Int) < m := by omega
  clear hrow hcut hq ht
  go_enter Try.func20, Try.ntmps20
  go_wp2_with fail
  refine cc.mono ?_
  rintro e w' ⟨rfl, rfl⟩
  clear cc
  go_wp2
  go_ret
  exact ⟨rfl, rfl⟩

/-- The counters of the loop behind k rounds. -/
def lst (q k : Nat) : Bool := decide (q < k)
def btw (c q k : Nat) : Int := ((min k q - c : Nat) : Int)

set_option maxHeartbeats 1600000 in
theorem nth_yes (a : Option Addr) (n cap : Nat) (D : Nat → Int) (d m : Int) (c q : Nat) (w : World) (hn : n ≤ 65536) (hrow : Row w a n D) (hasc : Asc D n) (hcut : Cut D n d c) (hcq : c ≤ q) (hqn : q < n) (hm : m = (q : Int) - c + 1) :
    Calls Try.prog 20 #[.slice a n cap, .int .i32 d, .int .i64 m, .int .i32 (D q), .bool true] w fun e w' => e = .returned (.bool true) ∧ w' = w := by
  have cc := count_any a n cap D d c w (by unfold maxLen; omega) hrow hcut
  obtain ⟨t, ht⟩ : ∃ t : Nat, t = n - c := ⟨_, rfl⟩
  rw [← ht] at cc
  have hcn := hcut.le
  have htm : ¬ (t : Int) < m := by omega
  have hdq : d < D q := hcut.high q hcq hqn
  have hm1 : 1 ≤ m := by omega
  have hm2 : m ≤ 65536 := by omega
  have HR := hide hrow
  have HA := hide hasc
  have HK := hide hcut
  have HM := hide hm
  clear hrow hcut ht hasc hm
  obtain ⟨x, hx⟩ : ∃ x, x = D q := ⟨_, rfl⟩
  have HX := hide hx
  rw [← hx] at hdq
  rw [← hx]
  clear hx
  go_enter Try.func20, Try.ntmps20
  go_wp2_with fail
  refine cc.mono ?_
  rintro e w' ⟨rfl, rfl⟩
  clear cc
  rename_i w
  go_wp2
  clear htm
  go_loop [11, 12, 13] (fun l s i => ∃ k : Nat, k ≤ n ∧ i = .int .i64 k ∧ l = .bool (lst q k) ∧ s = .int .i64 (btw c q k)) (fun _ _ i => n - (intOf i).toNat)
  case atStart => exact ⟨0, by omega, rfl, by simp [lst], int_eq (by simp [btw])⟩
  case round =>
    obtain ⟨k, hk, rfl, rfl, rfl⟩ := hrel
    have hbl : 0 ≤ btw c q k := by unfold btw; omega
    have hbh : btw c q k ≤ 65536 := by unfold btw; omega
    by_cases hlt : k < n
    · rcases HR.out with h0 | ⟨b, off, rfl, hc⟩
      · omega
      have c2 := hc k hlt
      clear hc
      have hi : (k : Int) < (n : Int) := by omega
      have stepRel : ∀ (u : Bool) (v : Int), u = lst q (k + 1) → v = btw c q (k + 1) → ∃ k' : Nat, k' ≤ n ∧ Value.int .i64 ((k : Int) + 1) = .int .i64 k' ∧ Value.bool u = .bool (lst q k') ∧ Value.int .i64 v = .int .i64 (btw c q k') :=
        fun u v hu hv => ⟨k + 1, by omega, by go_num, by rw [hu], by rw [hv]⟩
      have SR := hide stepRel
      clear stepRel
      rcases Nat.lt_or_ge k q with hkq | hkq
      · have h1 : D k < x := by rw [HX.out]; exact HA.out k q hkq hqn
        have h2 : (D k == x) = false := by simp; omega
        have el : lst q k = false := by simp [lst]; omega
        have el' : lst q (k + 1) = false := by simp [lst]; omega
        have EL := hide el
        have EL' := hide el'
        clear el el'
        rcases Nat.lt_or_ge k c with hkc | hkc
        · have h3 : D k ≤ d := HK.out.low k hkc
          have eb : btw c q k = btw c q (k + 1) := by simp [btw]; omega
          have EB := hide eb
          clear eb
          generalize hy : D k = y at c2 h1 h2 h3
          clear hy
          go_wp2
          go_round
          case rel => exact SR.out _ _ (by rw [EL.out, EL'.out]) EB.out
          case measure => simp [intOf]; omega
        · have h3 : d < D k := HK.out.high k hkc hlt
          have eb : btw c q k + 1 = btw c q (k + 1) := by simp [btw]; omega
          have EB := hide eb
          clear eb
          generalize hy : D k = y at c2 h1 h2 h3
          clear hy
          go_wp2
          go_round
          case rel => exact SR.out _ _ (by rw [EL.out, EL'.out]) EB.out
          case measure => simp [intOf]; omega
      · have h3 : d < D k := HK.out.high k (by omega) hlt
        have eb : btw c q k = btw c q (k + 1) := by simp [btw]; omega
        have EB := hide eb
        have el' : lst q (k + 1) = true := by simp [lst]; omega
        have EL' := hide el'
        clear eb el'
        by_cases e : k = q
        · have h1 : ¬ D k < x := by rw [HX.out, e]; omega
          have h2 : (D k == x) = true := by rw [HX.out, e]; simp
          generalize hy : D k = y at c2 h1 h2 h3
          clear hy
          have HE := hide e
          clear e
          go_wp2
          go_round
          case rel => exact SR.out _ _ EL'.out.symm EB.out
          case measure => simp [intOf]; omega
        · have h0 : x < D k := by rw [HX.out]; exact HA.out q k (by omega) hlt
          have h1 : ¬ D k < x := by omega
          have h2 : (D k == x) = false := by simp; omega
          have el : lst q k = true := by simp [lst]; omega
          have EL := hide el
          clear el
          generalize hy : D k = y at c2 h1 h2 h3 h0
          clear hy
          go_wp2
          go_round
          case rel => exact SR.out _ _ (by rw [EL.out, EL'.out]) EB.out
          case measure => simp [intOf]; omega
    · have e : k = n := by omega
      subst e
      have el : lst q k = true := by simp [lst]; omega
      have eb : btw c q k = m - 1 := by have := HM.out; simp [btw]; omega
      rw [el, eb]
      clear el eb hbl hbh
      go_wp2
      go_ret
      exact ⟨by simp, rfl⟩
end Go.Proofs.Qxb6619275a.AfterWalk
