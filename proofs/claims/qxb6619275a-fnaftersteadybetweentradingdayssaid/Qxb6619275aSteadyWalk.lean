/- The walk of FnAfterSteadyBetweenTradingDays. -/
import Derived.Test.Qxb6619275aComposesWalk
namespace Go.Proofs.Qxb6619275a.AfterWalk
open Go.RowKit Go.Proofs.Qxb6619275a.AfterPlain

/-- What the law asks of the two answers, in plain words. -/
structure Steady (n c1 c2 : Nat) (d1 d2 x1 x2 : Int) (k : Int) (o1 o2 : Bool) : Prop where
  g1 : o1 = decide (k ≤ ((n - c1 : Nat) : Int))
  g2 : o2 = decide (k ≤ ((n - c2 : Nat) : Int))
  z1 : o1 = false → x1 = 0
  z2 : o2 = false → x2 = 0
  a1 : o1 = true → d1 < x1
  a2 : o2 = true → d2 < x2
  same : c1 = c2 → x1 = x2 ∧ o1 = o2
  lt : ¬ c1 = c2 → o1 = true → o2 = true → x1 < x2

theorem steady_of {D : Nat → Int} {n : Nat} {d1 d2 k : Int} {c1 c2 : Nat} (hasc : Asc D n) (h1 : Cut D n d1 c1) (h2 : Cut D n d2 c2) (hd : d1 ≤ d2) (hk : 1 ≤ k) :
    Steady n c1 c2 d1 d2 (aft D n c1 k) (aft D n c2 k) k (aok n c1 k) (aok n c2 k) := by
  have l1 := h1.le
  have l2 := h2.le
  have hm := h1.mono h2 hd
  have ok : ∀ c, c ≤ n → aok n c k = decide (k ≤ ((n - c : Nat) : Int)) := fun c hc => by
    unfold aok
    by_cases h : (c : Int) + k ≤ n
    · rw [decide_eq_true h, decide_eq_true (by omega)]
    · rw [decide_eq_false h, decide_eq_false (by omega)]
  have no : ∀ c, aok n c k = false → aft D n c k = 0 := fun c h => aft_no (by simpa [aok] using h)
  have yes : ∀ c, aok n c k = true → (c : Int) + k ≤ n ∧ aft D n c k = D (c + k.toNat - 1) := fun c h => by
    have : (c : Int) + k ≤ n := by simpa [aok] using h
    exact ⟨this, aft_yes this⟩
  refine ⟨ok c1 l1, ok c2 l2, no c1, no c2, fun h => ?_, fun h => ?_, fun h => ?_, fun hne ho1 ho2 => ?_⟩
  · obtain ⟨h3, h4⟩ := yes c1 h
    rw [h4]; exact h1.high _ (by omega) (by omega)
  · obtain ⟨h3, h4⟩ := yes c2 h
    rw [h4]; exact h2.high _ (by omega) (by omega)
  · subst h; exact ⟨rfl, rfl⟩
  · obtain ⟨h3, h4⟩ := yes c1 ho1
    obtain ⟨h5, h6⟩ := yes c2 ho2
    rw [h4, h6]
    exact hasc _ _ (by omega) (by omega)

set_option maxHeartbeats 1600000 in
theorem steady (a : Option Addr) (n cap : Nat) (D : Nat → Int) (d1 d2 k : Int) (w : World) (hn : n ≤ maxLen) (hrow : Row w a n D) (hlow : ∀ b off, a = some ⟨b, off, none⟩ → 0 < n → b < w.heap.size) :
    Calls Try.prog 6 #[.slice a n cap, .int .i32 d1, .int .i32 d2, .int .i64 k] w fun e w' => e = .returned (.bool true) ∧ Below w.heap.size w w' := by
  have c16 := bytes21_any a n cap (.int .i32 d1) (.int .i32 d2) (.int .i64 k) w hn
  have HR := hide hrow
  have HL := hide hlow
  clear hrow hlow
  unfold maxLen at hn
  go_enter Try.func6, Try.ntmps6
  go_wp2_with fail
  refine c16.mono ?_
  rintro e w' ⟨r, rfl, rfl⟩
  clear c16
  cases r with
  | false =>
    go_wp2
    go_ret
    exact ⟨rfl, Below.refl _ _⟩
  | true =>
    go_wp2_with fail
    all_goals try (go_ret; exact ⟨rfl, Below.refl _ _⟩)
    have hn2 : n ≤ 65536 := by omega
    have hk1 : 1 ≤ k := by omega
    have hk2 : k + (n : Int) ≤ 9223372036854775807 := by omega
    have hd : d1 ≤ d2 := by omega
    refine (asc_any a n cap D _ (by unfold maxLen; omega) HR.out).mono ?_
    rintro e w1 ⟨r, rfl, hasc, q1, rfl⟩
    cases r with
    | false =>
      clear hasc
      go_wp2
      go_ret
      exact ⟨rfl, below_drewN0 _ _⟩
    | true =>
      have hA := hasc rfl
      have HA := hide hA
      obtain ⟨c1, hc1⟩ := cut_exists hA d1
      obtain ⟨c2, hc2⟩ := cut_exists hA d2
      have HC1 := hide hc1
      have HC2 := hide hc2
      have HS := hide (steady_of hA hc1 hc2 hd hk1)
      have HLE := hide (And.intro hc1.le hc2.le)
      clear hasc hA hc1 hc2
      go_wp2_with fail
      refine (calendar_any a n cap D _ hn2 (HR.out.drewN _) HL.out).mono ?_
      rintro e w2 ⟨g, r, rfl, hcal, hbel⟩
      have hbel2 : Below w'.heap.size w' w2 := (below_drewN0 w' q1).trans hbel
      have HB := hide hbel2
      have HR2 := hide (HR.out.below hbel2 HL.out)
      have CA1 := hide (after_any g r n D d1 k c1 w2 hn2 hcal HA.out HC1.out hk1 hk2)
      have CA2 := hide (after_any g r n D d2 k c2 w2 hn2 hcal HA.out HC2.out hk1 hk2)
      have CC1 := hide (count_any a n cap D d1 c1 w2 (by unfold maxLen; omega) HR2.out HC1.out)
      have CC2 := hide (count_any a n cap D d2 c2 w2 (by unfold maxLen; omega) HR2.out HC2.out)
      clear hcal hbel hbel2 HR HL HR2 HA HC1 HC2
      revert HS CA1 CA2
      generalize aft D n c1 k = x1
      generalize aft D n c2 k = x2
      generalize aok n c1 k = o1
      generalize aok n c2 k = o2
      intro HS CA1 CA2
      obtain ⟨t1, ht1⟩ : ∃ t : Nat, t = n - c1 := ⟨_, rfl⟩
      obtain ⟨t2, ht2⟩ : ∃ t : Nat, t = n - c2 := ⟨_, rfl⟩
      rw [← ht1] at CC1
      rw [← ht2] at CC2
      have hg1 : o1 = decide (k ≤ (t1 : Int)) := by rw [ht1]; exact HS.out.g1
      have hg2 : o2 = decide (k ≤ (t2 : Int)) := by rw [ht2]; exact HS.out.g2
      have hsame : t1 = t2 → x1 = x2 ∧ o1 = o2 := fun e => HS.out.same (by have := HLE.out; omega)
      have hlt : ¬ t1 = t2 → o1 = true → o2 = true → x1 < x2 := fun e => HS.out.lt (by have := HLE.out; omega)
      have hz1 := HS.out.z1
      have hz2 := HS.out.z2
      have ha1 := HS.out.a1
      have ha2 := HS.out.a2
      clear HS HLE ht1 ht2
      have ALL := hide (And.intro hg1 (And.intro hg2 (And.intro hsame (And.intro hlt (And.intro hz1 (And.intro hz2 (And.intro ha1 ha2)))))))
      clear hg1 hg2 hsame hlt hz1 hz2 ha1 ha2
      go_wp2_with fail
      refine CA1.out.mono ?_; rintro e w' ⟨rfl, rfl⟩
      go_wp2_with fail
      refine CA2.out.mono ?_; rintro e w' ⟨rfl, rfl⟩
      go_wp2_with fail
      refine CC1.out.mono ?_; rintro e w' ⟨rfl, rfl⟩
      go_wp2_with fail
      refine CC2.out.mono ?_; rintro e w' ⟨rfl, rfl⟩
      clear CA1 CA2 CC1 CC2
      obtain ⟨hg1, hg2, hsame, hlt, hz1, hz2, ha1, ha2⟩ := ALL.out
      clear ALL
      by_cases b1 : k ≤ (t1 : Int)
      · have hb1 : o1 = true := by rw [hg1]; exact decide_eq_true b1
        clear hg1
        subst hb1
        by_cases b2 : k ≤ (t2 : Int)
        · have hb2 : o2 = true := by rw [hg2]; exact decide_eq_true b2
          clear hg2
          subst hb2
          have r1 := ha1 rfl
          have r2 := ha2 rfl
          by_cases e : t1 = t2
          · obtain ⟨rfl, _⟩ := hsame e
            subst e
            clear hsame hlt hz1 hz2 ha1 ha2
            go_wp2
            go_ret
            exact ⟨by simp, HB.out⟩
          · have r3 := hlt e rfl rfl
            have e' : ((t1 : Int) == (t2 : Int)) = false := by simp only [beq_eq_false_iff_ne, ne_eq]; omega
            clear hsame hlt hz1 hz2 ha1 ha2 e
            go_wp2
            go_ret
            exact ⟨by simp, HB.out⟩
        · have hb2 : o2 = false := by rw [hg2]; exact decide_eq_false b2
          clear hg2
          subst hb2
          have r1 := ha1 rfl
          obtain rfl := hz2 rfl
          have e' : ((t1 : Int) == (t2 : Int)) = false := by simp only [beq_eq_false_iff_ne, ne_eq]; omega
          clear hsame hlt hz1 hz2 ha1 ha2
          go_wp2
          go_ret
          exact ⟨by simp, HB.out⟩
      · have hb1 : o1 = false := by rw [hg1]; exact decide_eq_false b1
        clear hg1
        subst hb1
        obtain rfl := hz1 rfl
        by_cases b2 : k ≤ (t2 : Int)
        · have hb2 : o2 = true := by rw [hg2]; exact decide_eq_true b2
          clear hg2
          subst hb2
          have r2 := ha2 rfl
          have e' : ((t1 : Int) == (t2 : Int)) = false := by simp only [beq_eq_false_iff_ne, ne_eq]; omega
          clear hsame hlt hz1 hz2 ha1 ha2
          go_wp2
          go_ret
          exact ⟨by simp, HB.out⟩
        · have hb2 : o2 = false := by rw [hg2]; exact decide_eq_false b2
          clear hg2
          subst hb2
          obtain rfl := hz2 rfl
          clear hsame hlt hz1 hz2 ha1 ha2
          by_cases e : t1 = t2
          · subst e
            go_wp2
            go_ret
            exact ⟨by simp, HB.out⟩
          · have e' : ((t1 : Int) == (t2 : Int)) = false := by simp only [beq_eq_false_iff_ne, ne_eq]; omega
            clear e
            go_wp2
            go_ret
            exact ⟨by simp, HB.out⟩
end Go.Proofs.Qxb6619275a.AfterWalk
