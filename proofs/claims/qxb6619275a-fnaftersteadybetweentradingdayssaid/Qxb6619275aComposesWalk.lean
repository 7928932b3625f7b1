/- The walk of FnAfterComposes. -/
import Derived.Test.Qxb6619275aAfterNth
namespace Go.Proofs.Qxb6619275a.AfterWalk
open Go.RowKit Go.Proofs.Qxb6619275a.AfterPlain

theorem below_drewN0 (w : World) (n : Nat) : Below w.heap.size w (w.drewN n) := ⟨rfl, rfl, rfl, Nat.le_refl _, fun _ _ => rfl⟩
theorem Row.drewN {w : World} {a : Option Addr} {n : Nat} {D : Nat → Int} (h : Row w a n D) (k : Nat) : Row (w.drewN k) a n D := h

theorem Row.below {w w2 : World} {a : Option Addr} {n : Nat} {D : Nat → Int} (h : Row w a n D) (hb : Below w.heap.size w w2) (hlow : ∀ b off, a = some ⟨b, off, none⟩ → 0 < n → b < w.heap.size) : Row w2 a n D := by
  rcases h with h0 | ⟨b, off, e, hc⟩
  · exact .inl h0
  · rcases Nat.eq_zero_or_pos n with h0 | h0
    · exact .inl h0
    · exact .inr ⟨b, off, e, fun j hj => (hb.cell (p := ⟨b, off + j, none⟩) (hlow b off e h0)).trans (hc j hj)⟩

theorem aft_plus {D : Nat → Int} {n c q : Nat} {m k : Int} (hm : 1 ≤ m) (hk : 1 ≤ k) (hq : q = c + m.toNat - 1) : aft D n c (m + k) = aft D n (q + 1) k ∧ aok n c (m + k) = aok n (q + 1) k := by
  by_cases h : (c : Int) + (m + k) ≤ n
  · rw [aft_yes h, aft_yes (by omega), aok_yes h, aok_yes (by omega)]
    exact ⟨by congr 1; omega, rfl⟩
  · rw [aft_no h, aft_no (by omega), aok_no h, aok_no (by omega)]
    exact ⟨rfl, rfl⟩

set_option maxHeartbeats 1600000 in
theorem composes (a : Option Addr) (n cap : Nat) (D : Nat → Int) (d m k : Int) (w : World) (hn : n ≤ maxLen) (hrow : Row w a n D) (hlow : ∀ b off, a = some ⟨b, off, none⟩ → 0 < n → b < w.heap.size) :
    Calls Try.prog 5 #[.slice a n cap, .int .i32 d, .int .i64 m, .int .i64 k] w fun e w' => e = .returned (.bool true) ∧ Below w.heap.size w w' := by
  have c16 := bytes16_any a n cap (.int .i32 d) (.int .i64 m) (.int .i64 k) w hn
  have HR := hide hrow
  have HL := hide hlow
  clear hrow hlow
  unfold maxLen at hn
  go_enter Try.func5, Try.ntmps5
  go_wp2_with fail
  refine c16.mono ?_
  rintro e w' ⟨r, rfl, rfl⟩
  rename_i w
  clear c16
  cases r with
  | false =>
    go_wp2
    go_ret
    exact ⟨rfl, Below.refl _ _⟩
  | true =>
    go_wp2_with fail
    all_goals try (go_ret; exact ⟨rfl, Below.refl _ _⟩)
    have hn2 : n ≤ 65536 := by omega
    have hm1 : 1 ≤ m := by omega
    have hk1 : 1 ≤ k := by omega
    have hm2 : m + (n : Int) ≤ 9223372036854775807 := by omega
    have hk2 : k + (n : Int) ≤ 9223372036854775807 := by omega
    have hmk2 : (m + k) + (n : Int) ≤ 9223372036854775807 := by omega
    refine (asc_any a n cap D _ (by unfold maxLen; omega) HR.out).mono ?_
    rintro e w1 ⟨r, rfl, hasc, q1, rfl⟩
    cases r with
    | false =>
      clear hasc
      go_wp2
      go_ret
      exact ⟨rfl, below_drewN0 _ _⟩
    | true =>
      have hA := hasc rfl
      have HA := hide hA
      obtain ⟨c, hc⟩ := cut_exists hA d
      have HC := hide hc
      clear hasc hA hc
      go_wp2_with fail
      refine (calendar_any a n cap D _ hn2 (HR.out.drewN _) HL.out).mono ?_
      rintro e w2 ⟨g, r, rfl, hcal, hbel⟩
      have hbel2 : Below w'.heap.size w' w2 := (below_drewN0 w' q1).trans hbel
      have HB := hide hbel2
      have HR2 := hide (HR.out.below hbel2 HL.out)
      have ca := fun d m c hc hm1 hm2 => after_any g r n D d m c w2 hn2 hcal HA.out hc hm1 hm2
      have CA := hide ca
      clear ca hcal hbel hbel2 HR HL
      by_cases hq : (c : Int) + m ≤ n
      · obtain ⟨q, hqe⟩ : ∃ q : Nat, q = c + m.toNat - 1 := ⟨_, rfl⟩
        obtain ⟨e1, e2⟩ := aft_plus (D := D) (n := n) (c := c) hm1 hk1 hqe
        have ca1 := CA.out d m c HC.out hm1 hm2
        have ca3 := CA.out d (m + k) c HC.out (by omega) hmk2
        have ca2 := CA.out (D q) k (q + 1) (Cut.at HA.out (by omega)) hk1 hk2
        have cn := nth_yes a n cap D d m c q w2 hn2 HR2.out HA.out HC.out (by omega) (by omega) (by omega)
        rw [aft_yes hq, aok_yes hq, ← hqe] at ca1
        rw [e1, e2] at ca3
        clear e1 e2 hqe CA HA HC HR2 hq
        generalize aft D n (q + 1) k = y at ca2 ca3
        generalize aok n (q + 1) k = b at ca2 ca3
        generalize D q = x at ca1 ca2 cn
        have CA1 := hide ca1
        have CA2 := hide ca2
        have CA3 := hide ca3
        have CN := hide cn
        clear ca1 ca2 ca3 cn
        go_wp2_with fail
        refine CA1.out.mono ?_; rintro e w' ⟨rfl, rfl⟩
        go_wp2_with fail
        refine CA3.out.mono ?_; rintro e w' ⟨rfl, rfl⟩
        go_wp2_with fail
        refine CN.out.mono ?_; rintro e w' ⟨rfl, rfl⟩
        go_wp2_with fail
        refine CA2.out.mono ?_; rintro e w' ⟨rfl, rfl⟩
        clear CA1 CA2 CA3 CN
        go_wp2
        go_ret
        exact ⟨by simp, HB.out⟩
      · have ca1 := CA.out d m c HC.out hm1 hm2
        have ca3 := CA.out d (m + k) c HC.out (by omega) hmk2
        have cn := nth_few a n cap D d m c w2 hn2 HR2.out HC.out hq
        have hq2 : ¬ (c : Int) + (m + k) ≤ n := by omega
        rw [aft_no hq, aok_no hq] at ca1
        rw [aft_no hq2, aok_no hq2] at ca3
        clear CA HA HC HR2 hq hq2
        have CA1 := hide ca1
        have CA3 := hide ca3
        have CN := hide cn
        clear ca1 ca3 cn
        go_wp2_with fail
        refine CA1.out.mono ?_; rintro e w' ⟨rfl, rfl⟩
        go_wp2_with fail
        refine CA3.out.mono ?_; rintro e w' ⟨rfl, rfl⟩
        go_wp2_with fail
        refine CN.out.mono ?_; rintro e w' ⟨rfl, rfl⟩
        clear CA1 CA3 CN
        go_wp2
        go_ret
        exact ⟨rfl, HB.out⟩
end Go.Proofs.Qxb6619275a.AfterWalk
