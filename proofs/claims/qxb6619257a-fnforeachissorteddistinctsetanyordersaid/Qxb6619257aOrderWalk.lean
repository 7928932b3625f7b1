/- The walk of FnForEachIsSortedDistinctSetAnyOrder. -/
import Derived.Test.Qxb6619257aOwnWalk
import Derived.Test.Qxb6619257aGrowPlain
namespace Go.Proofs.Qxb6619257a.Base
open Go.RowKit Go.Proofs.Qxb6619257a.Plain Go.Proofs.Qxb6619257a.Lib

/-- E rotated at q and read backwards. -/
def rotF (E : Nat → ByteArray) (q n : Nat) (j : Nat) : ByteArray := if j < q then E (q - 1 - j) else E (q + n - 1 - j)
theorem rotF_low {E : Nat → ByteArray} {q n j s : Nat} (h : j + (s + 1) = q) : rotF E q n j = E s := by
  rw [rotF, if_pos (by omega)]; congr 1; omega
theorem rotF_high {E : Nat → ByteArray} {q n j s : Nat} (h : j + (s + 1) = q + n) (hj : q ≤ j) : rotF E q n j = E s := by
  rw [rotF, if_neg (by omega)]; congr 1; omega

theorem mem_rot {E : Nat → ByteArray} {q n : Nat} (hq : q ≤ n) (x : List UInt8) : x ∈ L E n ↔ x ∈ L (rotF E q n) n := by
  rw [mem_L, mem_L]
  constructor
  · rintro ⟨j, hj, rfl⟩
    rcases Nat.lt_or_ge j q with h | h
    · exact ⟨q - 1 - j, by omega, by rw [rotF_low (s := j) (by omega)]⟩
    · exact ⟨q + n - 1 - j, by omega, by rw [rotF_high (s := j) (by omega) (by omega)]⟩
  · rintro ⟨j, hj, rfl⟩
    rcases Nat.lt_or_ge j q with h | h
    · exact ⟨q - 1 - j, by omega, by rw [rotF_low (s := q - 1 - j) (by omega)]⟩
    · exact ⟨q + n - 1 - j, by omega, by rw [rotF_high (s := q + n - 1 - j) (by omega) h]⟩

theorem S_rot {E : Nat → ByteArray} {q n : Nat} (hq : q ≤ n) : S (L (rotF E q n) n) = S (L E n) := S_congr fun x => (mem_rot hq x).symm

set_option maxHeartbeats 1600000 in
theorem anyOrder (a : Option Addr) (n cap : Nat) (E : Nat → ByteArray) (p : Int) (w : World) (hn : n ≤ maxLen) (hrow : KRow w a n E) :
    Calls Try.prog 3 #[.slice a n cap, .int .i64 p] w fun e w' => e = .returned (.bool true) ∧ Below w.heap.size w w' := by
  obtain ⟨i0, hi, hz0, hz1, hz2⟩ := info_parts Try.info9
  have CB := hide (bytes7_any a n cap (.int .i64 p) E w hn hrow)
  have CF := hide (fun x => keysFit_any a n cap x E w hn hrow)
  have HR := hide hrow
  clear hrow
  unfold maxLen at hn
  go_enter Try.func3, Try.ntmps3
  go_wp2_with fail
  refine CB.out.mono ?_
  rintro e w' ⟨r, rfl, rfl⟩
  clear CB
  cases r with
  | false =>
    go_wp2
    go_ret
    exact ⟨rfl, Below.refl _ _⟩
  | true =>
    go_wp2_with fail
    refine (CF.out _).mono ?_
    rintro e w1 ⟨r, rfl, hr, rfl⟩
    clear CF
    cases r with
    | false =>
      clear hr
      go_wp2
      go_ret
      exact ⟨rfl, Below.refl _ _⟩
    | true =>
      have hn2 := hr rfl
      clear hr
      go_wp2_with fail
      all_goals try (go_ret; exact ⟨rfl, Below.refl _ _⟩)
      obtain ⟨q, rfl⟩ : ∃ q : Nat, p = q := ⟨p.toNat, by omega⟩
      have hq : q ≤ n := by omega
      refine (cloneStrings_any a n cap E _ hn2 HR.out).mono ?_
      rintro e w2 ⟨a2, rfl, hk2, hb2⟩
      have HK := hide hk2
      have HB := hide hb2
      clear hk2 hb2 HR
      go_wp2_with (at_make; refine wpList_make_own _ rfl _ _ 22 rfl w2.heap.size 9 i0 (.string ⟨#[]⟩) 1 Try.underlying22 hi hz0 hz1 _ _ _ n rfl rfl ?c0 ?c1 ?c2 (Nat.le_refl _) ?_)
      case c0 => omega
      case c1 => rw [hz2]; omega
      case c2 => unfold maxLen; omega
      intro w3 hown3 hgrow3
      have HI : Hid (Ins w2 w3 n (rotF E q n) 0) := ⟨by simpa [cellsF] using hown3, (Below.refl _ _).grown hgrow3 (Nat.le_refl _) (fun k hk => by cases hk)⟩
      clear hown3 hgrow3
      go_wp2
      go_loopw [5, 6] (fun v i wr => ∃ t s : Nat, t + s = q ∧ i = .int .i64 ((s : Int) - 1) ∧ v = .slice (some ⟨w2.heap.size, 0, none⟩) t n ∧ Ins w2 wr n (rotF E q n) t) (fun _ i _ => (intOf i + 1).toNat)
      case atStart => exact ⟨0, q, by omega, rfl, rfl, HI.out⟩
      case round =>
        obtain ⟨t, s, hts, rfl, rfl, hins⟩ := hrel
        cases s with
        | succ s =>
          have es : ((s + 1 : Nat) : Int) - 1 = (s : Int) := by omega
          rw [es]
          clear es
          obtain ⟨b, off, rfl, hb, hc⟩ := HK.out.at' (by omega)
          have c1 : wr.cell? ⟨b, off + s, none⟩ = some (.string (E s)) := (hins.below.cell (p := ⟨b, off + s, none⟩) hb).trans (hc s (by omega))
          have hxi : (s : Int) < (n : Int) := by omega
          have HN := hide hins
          have HRow := hide hins.row
          have HX : Hid (rotF E q n t = E s) := rotF_low hts
          have HTS := hide hts
          have htn : t + 1 ≤ n := by omega
          clear hins hc hts
          generalize E s = x at c1 HX
          go_wp2_with (at_builtin; refine wpList_append_fits _ rfl _ _ 22 rfl w2.heap.size 9 i0 1 Try.underlying22 hi hz1 w2.heap.size t n _ rfl (HRow.out.alloc _) ⟨wr.heap.size, 0, none⟩ 1 1 [.string x] rfl rfl (cell_one_new _ _ _) (str_oneCell _) (by omega) ?_)
          intro w4 hown4 hgrow4
          have HI2 := hide (HN.out.step HX.out hown4 hgrow4)
          clear hown4 hgrow4 HN HRow HX c1
          go_wp2
          go_roundw
          case rel => exact ⟨t + 1, s, by have := HTS.out; omega, rfl, rfl, HI2.out⟩
          case measure => simp [intOf]
        | zero =>
          have es0 : ((0 : Nat) : Int) - 1 = -1 := by omega
          rw [es0]
          clear es0
          obtain rfl : t = q := by omega
          clear HI
          have HN := hide hins
          clear hins hts
          go_wp2
          go_loopw [5, 7] (fun v i wr => ∃ u s : Nat, t ≤ u ∧ t ≤ s ∧ u + s = t + n ∧ i = .int .i64 ((s : Int) - 1) ∧ v = .slice (some ⟨w2.heap.size, 0, none⟩) u n ∧ Ins w2 wr n (rotF E t n) u) (fun _ i _ => (intOf i + 1).toNat)
          case atStart => exact ⟨t, n, by omega, by omega, by omega, rfl, rfl, HN.out⟩
          case round =>
            obtain ⟨u, s, htu, hts, hus, rfl, rfl, hins⟩ := hrel
            by_cases hlt : t < s
            · obtain ⟨s, rfl⟩ : ∃ s', s = s' + 1 := ⟨s - 1, by omega⟩
              have es : ((s + 1 : Nat) : Int) - 1 = (s : Int) := by omega
              rw [es]
              clear es
              obtain ⟨b, off, rfl, hb, hc⟩ := HK.out.at' (by omega)
              have c1 : wr.cell? ⟨b, off + s, none⟩ = some (.string (E s)) := (hins.below.cell (p := ⟨b, off + s, none⟩) hb).trans (hc s (by omega))
              have hxi : (s : Int) < (n : Int) := by omega
              have hts' : (t : Int) ≤ (s : Int) := by omega
              have HN2 := hide hins
              have HRow := hide hins.row
              have HX : Hid (rotF E t n u = E s) := rotF_high hus htu
              have HUS := hide hus
              have htn : u + 1 ≤ n := by omega
              clear hins hc hus
              generalize E s = x at c1 HX
              go_wp2_with (at_builtin; refine wpList_append_fits _ rfl _ _ 22 rfl w2.heap.size 9 i0 1 Try.underlying22 hi hz1 w2.heap.size u n _ rfl (HRow.out.alloc _) ⟨wr.heap.size, 0, none⟩ 1 1 [.string x] rfl rfl (cell_one_new _ _ _) (str_oneCell _) (by omega) ?_)
              intro w4 hown4 hgrow4
              have HI2 := hide (HN2.out.step HX.out hown4 hgrow4)
              clear hown4 hgrow4 HN2 HRow HX c1
              go_wp2
              go_roundw
              case rel => exact ⟨u + 1, s, by omega, by omega, by have := HUS.out; omega, rfl, rfl, HI2.out⟩
              case measure => simp [intOf]
            · obtain rfl : s = t := by omega
              obtain rfl : u = n := by omega
              clear HN
              have HN := hide hins
              clear hins hi hz0 hz1 hz2
              have KE := hide (HK.out.below HN.out.below (Nat.le_refl _))
              have KF := hide HN.out.krow
              have HW := hide (chain HB.out HN.out.below)
              clear HK HB HN
              obtain ⟨idx, hex⟩ := exact_out E u
              have hle := S_len_E E u
              have HX := hide hex
              clear hex
              have HS : Hid (S (L (rotF E s u) u) = S (L E u)) := S_rot hq
              go_wp2_with fail
              refine (forEach_any a2 u u E wr (by omega) KE.out).mono ?_
              rintro e w6 ⟨a6, c6, rfl, hk6, hb6⟩
              have KG : Hid (KRow w6 a6 (S (L E u)).length (outG (S (L E u)))) := hk6
              have HB6 := hide hb6
              clear hk6 hb6
              go_wp2_with fail
              refine (forEach_any (some ⟨w2.heap.size, 0, none⟩) u u (rotF E s u) _ (by omega) ((KF.out.below HB6.out (Nat.le_refl _)).below (B := w6.heap.size) ((Below.refl _ w6).alloc (Nat.le_refl _) _) (Nat.le_refl _))).mono ?_
              rintro e w7 ⟨a7, c7, rfl, hk7, hb7⟩
              have KH : Hid (KRow w7 a7 (S (L E u)).length (outG (S (L E u)))) := by
                have h : KRow w7 a7 (S (L (rotF E s u) u)).length (outG (S (L (rotF E s u) u))) := hk7
                rw [HS.out] at h
                exact h
              rw [World.size_alloc] at hb7
              have HB7 := hide hb7
              clear hk7 hb7
              rw [HS.out]
              clear HS
              revert hle HX KG KH HB7
              generalize outG (S (L E u)) = G
              generalize (S (L E u)).length = m
              intro hle HX KG KH HB7
              have X7 := hide (Box.new HB7.out)
              have H67 := hide (boxed_below HB7.out)
              have HW7 := hide (chain (chain HW.out HB6.out) H67.out)
              have KE7 := hide ((KE.out.below HB6.out (Nat.le_refl _)).below H67.out (Nat.le_refl _))
              have KG7 := hide (KG.out.below H67.out (Nat.le_refl _))
              clear KE KF HW HB6 KG HB7 H67
              obtain ⟨rl, r0, r1, r2⟩ := X7.out
              go_wp2_with fail
              refine (zzKeys_any a6 m c6 _).mono ?_
              rintro e w8 ⟨rfl, hb8⟩
              rw [World.size_alloc] at hb8
              clear r0 r1 r2 rl
              have HB8 := hide (boxed_below hb8)
              have Y8 := hide (Box.new hb8)
              have X8 := hide (X7.out.below HB8.out)
              have HW8 := hide (chain HW7.out HB8.out)
              have KE8 := hide (KE7.out.below HB8.out (Nat.le_refl _))
              have KG8 := hide (KG7.out.below HB8.out (Nat.le_refl _))
              have KH8 := hide (KH.out.below HB8.out (Nat.le_refl _))
              clear hb8 HB8 X7 HW7 KE7 KG7 KH
              obtain ⟨_, r0, r1, r2⟩ := Y8.out
              go_wp2_with fail
              refine (zzKeys_any a7 m c7 _).mono ?_
              rintro e w9 ⟨rfl, hb9⟩
              have HB9 := hide hb9
              clear hb9 r0 r1 r2
              obtain ⟨_, r0, r1, r2⟩ := X8.out.below HB9.out
              go_wp2_with fail
              refine (zzKind_any a6 m c6 _).mono ?_
              rintro e w10 ⟨rfl, hb10⟩
              have HB10 := hide (chain HB9.out hb10)
              clear r0 r1 r2 hb10 HB9
              obtain ⟨_, r0, r1, r2⟩ := Y8.out.below HB10.out
              go_wp2_with fail
              refine (zzKind_any a7 m c7 _).mono ?_
              rintro e w11 ⟨rfl, hb11⟩
              have HB11 := hide (chain HB10.out hb11)
              clear r0 r1 r2 hb11 HB10
              obtain ⟨_, r0, r1, r2⟩ := X8.out.below HB11.out
              go_wp2_with fail
              refine (zzCount_any a6 m c6 _).mono ?_
              rintro e w12 ⟨rfl, hb12⟩
              have HB12 := hide (chain HB11.out hb12)
              clear r0 r1 r2 hb12 HB11
              obtain ⟨_, r0, r1, r2⟩ := Y8.out.below HB12.out
              go_wp2_with fail
              refine (zzCount_any a7 m c7 _).mono ?_
              rintro e w13 ⟨rfl, hb13⟩
              have HB13 := hide (chain HB12.out hb13)
              clear r0 r1 r2 hb13 HB12
              go_wp2_with fail
              refine (exact_any a2 a6 u u m c6 E G idx w13 (by omega) (by omega) (KE8.out.below HB13.out (Nat.le_refl _)) (KG8.out.below HB13.out (Nat.le_refl _)) HX.out).mono ?_
              rintro e w14 ⟨rfl, hb14⟩
              have HB14 := hide (chain HB13.out hb14)
              clear hb14 HB13
              go_wp2_with fail
              refine (same_any a6 a7 m c6 c7 G G w14 (by omega) (KG8.out.below HB14.out (Nat.le_refl _)) (KH8.out.below HB14.out (Nat.le_refl _)) (fun _ _ => rfl)).mono ?_
              rintro e w15 ⟨rfl, q, rfl⟩
              have HALL := hide (chain (chain HW8.out HB14.out) (below_drewN0 w14 q))
              clear HB14 HW8 KE8 KG8 KH8 X8 Y8 HX
              go_wp2
              go_ret
              exact ⟨rfl, HALL.out⟩
end Go.Proofs.Qxb6619257a.Base
