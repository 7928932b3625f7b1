/- The walk of FnLenOfForEachGrowsByOneForNewKey. -/
import Derived.Test.Qxb6619257aGrowPlain
namespace Go.Proofs.Qxb6619257a.Base
open Go.RowKit Go.Proofs.Qxb6619257a.Plain Go.Proofs.Qxb6619257a.Lib

set_option maxHeartbeats 1600000 in
theorem grows (a : Option Addr) (n cap : Nat) (E : Nat → ByteArray) (k : ByteArray) (p : Int) (w : World) (hn : n ≤ maxLen) (hrow : KRow w a n E) :
    Calls Try.prog 6 #[.slice a n cap, .string k, .int .i64 p] w fun e w' => e = .returned (.bool true) ∧ Below w.heap.size w w' := by
  obtain ⟨i0, hi, hz0, hz1, hz2⟩ := info_parts Try.info9
  have CB := hide (bytes19_any a n cap k (.int .i64 p) E w hn hrow)
  have CF := hide (fun x => keysFit_any a n cap x E w hn hrow)
  have HR := hide hrow
  clear hrow
  unfold maxLen at hn
  go_enter Try.func6, Try.ntmps6
  go_wp2_with fail
  refine CB.out.mono ?_
  rintro e w' ⟨r, rfl, rfl⟩
  rename_i w
  clear CB
  cases r with
  | false =>
    go_wp2
    go_ret
    exact ⟨rfl, Below.refl _ _⟩
  | true =>
    go_wp2_with fail
    refine (CF.out _).mono ?_
    rintro e w1 ⟨r, rfl, hr, rfl⟩
    clear CF
    cases r with
    | false =>
      clear hr
      go_wp2
      go_ret
      exact ⟨rfl, Below.refl _ _⟩
    | true =>
      have hn2 := hr rfl
      clear hr
      go_wp2_with fail
      all_goals try (go_ret; exact ⟨rfl, Below.refl _ _⟩)
      obtain ⟨q, rfl⟩ : ∃ q : Nat, p = q := ⟨p.toNat, by omega⟩
      have hq : q ≤ n := by omega
      refine (cloneStrings_any a n cap E _ hn2 HR.out).mono ?_
      rintro e w2 ⟨a2, rfl, hk2, hb2⟩
      have HK := hide hk2
      have HB := hide hb2
      clear hk2 hb2 HR
      go_wp2_with (at_make; refine wpList_make_own _ rfl _ _ 22 rfl w2.heap.size 9 i0 (.string ⟨#[]⟩) 1 Try.underlying22 hi hz0 hz1 _ _ _ (n + 1) rfl rfl ?c0 ?c1 ?c2 (Nat.le_refl _) ?_)
      case c0 => omega
      case c1 => rw [hz2]; omega
      case c2 => unfold maxLen; omega
      intro w3 hown3 hgrow3
      have HI : Hid (Ins w2 w3 (n + 1) (insF E k q) 0) := ⟨by simpa [cellsF] using hown3, (Below.refl _ _).grown hgrow3 (Nat.le_refl _) (fun k hk => by cases hk)⟩
      clear hown3 hgrow3
      go_wp2
      go_loopw [7, 8] (fun v i wr => ∃ t : Nat, t ≤ q ∧ i = .int .i64 t ∧ v = .slice (some ⟨w2.heap.size, 0, none⟩) t (n + 1) ∧ Ins w2 wr (n + 1) (insF E k q) t) (fun _ i _ => q - (intOf i).toNat)
      case atStart => exact ⟨0, Nat.zero_le _, rfl, rfl, HI.out⟩
      case round =>
        obtain ⟨t, ht, rfl, rfl, hins⟩ := hrel
        by_cases hlt : t < q
        · obtain ⟨b, off, rfl, hb, hc⟩ := HK.out.at' (by omega)
          have c1 : wr.cell? ⟨b, off + t, none⟩ = some (.string (E t)) := (hins.below.cell (p := ⟨b, off + t, none⟩) hb).trans (hc t (by omega))
          have hxi : (t : Int) < (n : Int) := by omega
          have HN := hide hins
          have HRow := hide hins.row
          have HX : Hid (insF E k q t = E t) := insF_low hlt
          clear hins hc
          generalize E t = x at c1 HX
          go_wp2_with (at_builtin; refine wpList_append_fits _ rfl _ _ 22 rfl w2.heap.size 9 i0 1 Try.underlying22 hi hz1 w2.heap.size t (n + 1) _ rfl (HRow.out.alloc _) ⟨wr.heap.size, 0, none⟩ 1 1 [.string x] rfl rfl (cell_one_new _ _ _) (str_oneCell _) (by omega) ?_)
          intro w4 hown4 hgrow4
          have HI2 := hide (HN.out.step HX.out hown4 hgrow4)
          clear hown4 hgrow4 HN HRow HX c1
          go_wp2
          go_roundw
          case rel => exact ⟨t + 1, by omega, by go_num, rfl, HI2.out⟩
          case measure => simp [intOf]; omega
        · obtain rfl : t = q := by omega
          clear HI
          have HN := hide hins
          have HRow := hide hins.row
          clear hins
          go_wp2_with (at_builtin; refine wpList_append_fits _ rfl _ _ 22 rfl w2.heap.size 9 i0 1 Try.underlying22 hi hz1 w2.heap.size t (n + 1) _ rfl (HRow.out.alloc _) ⟨wr.heap.size, 0, none⟩ 1 1 [.string k] rfl rfl (cell_one_new _ _ _) (str_oneCell _) (by omega) ?_)
          intro w5 hown5 hgrow5
          have HI5 := hide (HN.out.step (insF_at E k t) hown5 hgrow5)
          clear hown5 hgrow5 HN HRow
          go_wp2
          go_loopw [7, 9] (fun v i wr => ∃ s : Nat, t ≤ s ∧ s ≤ n ∧ i = .int .i64 s ∧ v = .slice (some ⟨w2.heap.size, 0, none⟩) (s + 1) (n + 1) ∧ Ins w2 wr (n + 1) (insF E k t) (s + 1)) (fun _ i _ => n - (intOf i).toNat)
          case atStart => exact ⟨t, Nat.le_refl _, hq, rfl, rfl, HI5.out⟩
          case round =>
            obtain ⟨s, hs1, hs, rfl, rfl, hins⟩ := hrel
            by_cases hlt2 : s < n
            · obtain ⟨b, off, rfl, hb, hc⟩ := HK.out.at' (by omega)
              have c1 : wr.cell? ⟨b, off + s, none⟩ = some (.string (E s)) := (hins.below.cell (p := ⟨b, off + s, none⟩) hb).trans (hc s (by omega))
              have hxi : (s : Int) < (n : Int) := by omega
              have HN := hide hins
              have HRow := hide hins.row
              have HX : Hid (insF E k t (s + 1) = E s) := insF_high hs1
              clear hins hc
              generalize E s = x at c1 HX
              go_wp2_with (at_builtin; refine wpList_append_fits _ rfl _ _ 22 rfl w2.heap.size 9 i0 1 Try.underlying22 hi hz1 w2.heap.size (s + 1) (n + 1) _ rfl (HRow.out.alloc _) ⟨wr.heap.size, 0, none⟩ 1 1 [.string x] rfl rfl (cell_one_new _ _ _) (str_oneCell _) (by omega) ?_)
              intro w4 hown4 hgrow4
              have HI2 := hide (HN.out.step HX.out hown4 hgrow4)
              clear hown4 hgrow4 HN HRow HX c1
              go_wp2
              go_roundw
              case rel => exact ⟨s + 1, by omega, by omega, by go_num, rfl, HI2.out⟩
              case measure => simp [intOf]; omega
            · obtain rfl : s = n := by omega
              clear HI5
              have HN := hide hins
              clear hins hi hz0 hz1 hz2
              go_wp2
              go_loop [10, 11] (fun b i => ∃ j : Nat, j ≤ s ∧ i = .int .i64 j ∧ b = .bool true ∧ (∀ x, x < j → (E x).data.toList ≠ k.data.toList)) (fun _ i => s - (intOf i).toNat)
              case atStart => exact ⟨0, Nat.zero_le _, rfl, rfl, fun x hx => absurd hx (Nat.not_lt_zero x)⟩
              case round =>
                obtain ⟨j, hj, rfl, rfl, hno⟩ := hrel
                have HNo := hide hno
                clear hno
                by_cases hlt3 : j < s
                · obtain ⟨b, off, rfl, hb, hc⟩ := HK.out.at' (by omega)
                  have c1 : wr.cell? ⟨b, off + j, none⟩ = some (.string (E j)) := (HN.out.below.cell (p := ⟨b, off + j, none⟩) hb).trans (hc j (by omega))
                  have hxi : (j : Int) < (s : Int) := by omega
                  clear hc
                  by_cases heq : ((E j).toList == k.toList) = true
                  · have HE : Hid ((S (L (insF E k t) (s + 1))).length = (S (L E s)).length) := counts_old hq hlt3 (eq_of_test heq)
                    generalize E j = x at c1 heq
                    go_wp2_with fail
                    refine (forEach_any _ s s E wr (by omega) (HK.out.below HN.out.below (Nat.le_refl _))).mono ?_
                    rintro e w6 ⟨a6, c6, rfl, _, hb6⟩
                    generalize hM1 : (S (L E s)).length = m1
                    have HM1 := hide hM1
                    have hm1 : m1 ≤ s := by rw [← hM1]; exact counts_le E s
                    clear hM1
                    go_wp2_with fail
                    refine (len_any _ _ _ _).mono ?_
                    rintro e w7 ⟨rfl, hb7⟩
                    have HB7 := hide (hb6.trans (hb7.mono hb6.size))
                    clear hb6 hb7
                    go_wp2_with fail
                    refine (forEach_any _ (s + 1) (s + 1) (insF E k t) w7 (by omega) (HN.out.krow.below HB7.out (Nat.le_refl _))).mono ?_
                    rintro e w8 ⟨a8, c8, rfl, _, hb8⟩
                    generalize hM2 : (S (L (insF E k t) (s + 1))).length = m2
                    have HM2 := hide hM2
                    have hm2 : 1 ≤ m2 := by rw [← hM2]; exact counts_pos hq
                    clear hM2
                    go_wp2_with fail
                    refine (len_any _ _ _ _).mono ?_
                    rintro e w9 ⟨rfl, hb9⟩
                    have HB9 := hide (hb8.trans (hb9.mono hb8.size))
                    clear hb8 hb9
                    have hall : Below w1.heap.size w1 w9 := (HB.out.trans (HN.out.below.mono HB.out.size)).trans ((HB7.out.mono (Nat.le_trans HB.out.size HN.out.below.size)).trans (HB9.out.mono (Nat.le_trans (Nat.le_trans HB.out.size HN.out.below.size) HB7.out.size)))
                    have HALL := hide hall
                    clear hall HB7 HB9
                    have e12 : m2 = m1 := by rw [← HM1.out, ← HM2.out]; exact HE.out
                    subst e12
                    clear HM1 HM2 HE heq
                    go_wp2
                    go_ret
                    exact ⟨by simp, HALL.out⟩
                  · have heq' : ((E j).toList == k.toList) = false := by simpa using heq
                    have HE := hide (ne_of_test heq')
                    have HX : Hid (∀ x, x < j + 1 → (E x).data.toList ≠ k.data.toList) := fun x hx => by
                      rcases Nat.lt_or_ge x j with h | h
                      · exact HNo.out x h
                      · have e : x = j := by omega
                        rw [e]; exact HE.out
                    clear heq HE
                    generalize E j = x at c1 heq'
                    go_wp2
                    go_round
                    case rel => exact ⟨j + 1, by omega, by go_num, rfl, HX.out⟩
                    case measure => simp [intOf]; omega
                · have HE : Hid ((S (L (insF E k t) (s + 1))).length = (S (L E s)).length + 1) := counts_new hq (fun x hx => HNo.out x (by omega))
                  go_wp2_with fail
                  refine (forEach_any _ s s E wr (by omega) (HK.out.below HN.out.below (Nat.le_refl _))).mono ?_
                  rintro e w6 ⟨a6, c6, rfl, _, hb6⟩
                  generalize hM1 : (S (L E s)).length = m1
                  have HM1 := hide hM1
                  have hm1 : m1 ≤ s := by rw [← hM1]; exact counts_le E s
                  clear hM1
                  go_wp2_with fail
                  refine (len_any _ _ _ _).mono ?_
                  rintro e w7 ⟨rfl, hb7⟩
                  have HB7 := hide (hb6.trans (hb7.mono hb6.size))
                  clear hb6 hb7
                  go_wp2_with fail
                  refine (forEach_any _ (s + 1) (s + 1) (insF E k t) w7 (by omega) (HN.out.krow.below HB7.out (Nat.le_refl _))).mono ?_
                  rintro e w8 ⟨a8, c8, rfl, _, hb8⟩
                  generalize hM2 : (S (L (insF E k t) (s + 1))).length = m2
                  have HM2 := hide hM2
                  have hm2 : 1 ≤ m2 := by rw [← hM2]; exact counts_pos hq
                  clear hM2
                  go_wp2_with fail
                  refine (len_any _ _ _ _).mono ?_
                  rintro e w9 ⟨rfl, hb9⟩
                  have HB9 := hide (hb8.trans (hb9.mono hb8.size))
                  clear hb8 hb9
                  have hall : Below w1.heap.size w1 w9 := (HB.out.trans (HN.out.below.mono HB.out.size)).trans ((HB7.out.mono (Nat.le_trans HB.out.size HN.out.below.size)).trans (HB9.out.mono (Nat.le_trans (Nat.le_trans HB.out.size HN.out.below.size) HB7.out.size)))
                  have HALL := hide hall
                  clear hall HB7 HB9
                  have e12 : m2 = m1 + 1 := by rw [← HM1.out, ← HM2.out]; exact HE.out
                  have e13 : ((m2 : Int) == (m1 : Int) + 1) = true := by rw [e12]; simp
                  clear HM1 HM2 HE e12
                  go_wp2
                  go_ret
                  exact ⟨by simp, HALL.out⟩
end Go.Proofs.Qxb6619257a.Base
