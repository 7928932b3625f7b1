/- The walk of FnDigitsOrderMatchesDecimalOrder itself. -/
import Derived.Test.Qxb6619275aOrderCmp
namespace Go.Proofs.Qxb6619275a.OrderWalk
open Go.RowKit Go.Proofs.Qxb6619275a.Plain Go.Proofs.Qxb6619275a.Digits

theorem grown_drewN (w : World) (n : Nat) : Grown w (w.drewN n) := ⟨(Grown.refl w).1, (Grown.refl w).2.1, (Grown.refl w).2.2⟩

theorem hide {p : Prop} (h : p) : Hid p := h
theorem ext_list {s : ByteArray} {k : Nat} : (s.extract k s.size).data.toList = s.data.toList.drop k := by
  simp only [ByteArray.data_extract, Array.toList_extract, List.extract_eq_take_drop]
  exact List.take_of_length_le (by simp)
theorem ext_size {s : ByteArray} {k : Nat} : (s.extract k s.size).size = s.size - k := by simp

set_option maxHeartbeats 800000 in
/-- What stands behind the first tests. -/
theorem core (a b : ByteArray) (w : World) (h0 : a.size ≤ 65536) (h1 : b.size ≤ 65536) (w0 : a.size ≤ maxLen) (w1 : b.size ≤ maxLen) (ha : allD a.data.toList = true) (hb : allD b.data.toList = true) :
    Calls Try.prog 4 #[.string a, .string b] w fun e w' => e = .returned (.bool true) ∧ Grown w w' := by
  have c11 := bytes_any a b w w0 w1
  have HA : Hid (allD a.data.toList = true) := ha
  have HB : Hid (allD b.data.toList = true) := hb
  have ca := only_any a
  have cb := only_any b
  rw [ha] at ca
  rw [hb] at cb
  have CA := hide ca
  have CB := hide cb
  clear ha hb ca cb
  go_enter Try.func4, Try.ntmps4
  go_wp2_with fail
  refine c11.mono ?_
  rintro e w' ⟨r, rfl, rfl⟩
  cases r with
  | false =>
    go_wp2
    go_ret
    exact ⟨rfl, Grown.refl _⟩
  | true =>
    clear c11
    go_wp2_with fail
    refine (CA.out _ w0).mono ?_; rintro e w' ⟨rfl, rfl⟩
    go_wp2_with fail
    refine (CB.out _ w1).mono ?_; rintro e w' ⟨rfl, rfl⟩
    go_wp2_with fail
    refine (strip_any a _ w0).mono ?_; rintro e w' ⟨ka, hka, rfl, za, la, rfl⟩
    go_wp2_with fail
    refine (strip_any b _ w1).mono ?_; rintro e w' ⟨kb, hkb, rfl, zb, lb, rfl⟩
    rename_i w
    obtain ⟨sa, hsa⟩ : ∃ sa, sa = a.extract ka a.size := ⟨_, rfl⟩
    obtain ⟨sb, hsb⟩ : ∃ sb, sb = b.extract kb b.size := ⟨_, rfl⟩
    rw [← hsa, ← hsb]
    have dsa : dv sa.data.toList = dv a.data.toList ∧ allD sa.data.toList = true ∧ lead sa.data.toList := by
      rw [hsa, ext_list]; exact ⟨dv_zeros _ _ za, allD_drop _ _ HA.out, la⟩
    have dsb : dv sb.data.toList = dv b.data.toList ∧ allD sb.data.toList = true ∧ lead sb.data.toList := by
      rw [hsb, ext_list]; exact ⟨dv_zeros _ _ zb, allD_drop _ _ HB.out, lb⟩
    have za' : sa.size ≤ 65536 := by rw [hsa, ext_size]; omega
    have zb' : sb.size ≤ 65536 := by rw [hsb, ext_size]; omega
    have DA := hide dsa
    have DB := hide dsb
    clear hsa hsb dsa dsb za la zb lb hka hkb CA CB
    by_cases ta : sa.size ≤ 18
    · by_cases tb : sb.size ≤ 18
      · have na : 0 ≤ dv a.data.toList ∧ dv a.data.toList < 1000000000000000000 := by rw [← DA.out.1]; exact small18 DA.out.2.1 (by simpa using ta)
        have nb : 0 ≤ dv b.data.toList ∧ dv b.data.toList < 1000000000000000000 := by rw [← DB.out.1]; exact small18 DB.out.2.1 (by simpa using tb)
        have cda := fun w => zzdigits_any a w w0
        have cdb := fun w => zzdigits_any b w w1
        have cc := fun w => cmpTexts_any sa sb w (by unfold maxLen; omega) DA.out.2.1 DB.out.2.1 DA.out.2.2 DB.out.2.2
        rw [HA.out, dN_good HA.out, Plain.wrap_small na] at cda
        rw [HB.out, dN_good HB.out, Plain.wrap_small nb] at cdb
        rw [DA.out.1, DB.out.1] at cc
        have CDA := hide cda
        have CDB := hide cdb
        have CC := hide cc
        clear cda cdb cc DA DB HA HB
        revert na nb CDA CDB CC
        generalize dv a.data.toList = x
        generalize dv b.data.toList = y
        intro na nb CDA CDB CC
        obtain ⟨na, _⟩ := na
        obtain ⟨nb, _⟩ := nb
        go_wp2_with fail
        refine (CDA.out _).mono ?_; rintro e w' ⟨rfl, rfl⟩
        go_wp2_with fail
        refine (CDB.out _).mono ?_; rintro e w' ⟨rfl, rfl⟩
        clear CDA CDB
        go_wp2_with fail
        refine (cmpInts_any _ _ _).mono ?_; rintro e w' ⟨rfl, rfl⟩
        go_wp2_with fail
        refine (CC.out _).mono ?_; rintro e w' ⟨rfl, n, rfl⟩
        clear CC
        go_wp2
        go_ret
        exact ⟨by simp, grown_drewN _ _⟩
      · go_wp2
        go_ret
        exact ⟨rfl, Grown.refl _⟩
    · go_wp2
      go_ret
      exact ⟨rfl, Grown.refl _⟩
set_option maxHeartbeats 800000 in
theorem other (a b : ByteArray) (w : World) (w0 : a.size ≤ maxLen) (w1 : b.size ≤ maxLen) (h0 : a.size ≤ 65536) (h1 : b.size ≤ 65536) (h : (allD a.data.toList && allD b.data.toList) = false) :
    Calls Try.prog 4 #[.string a, .string b] w fun e w' => e = .returned (.bool true) ∧ Grown w w' := by
  have c11 := bytes_any a b w w0 w1
  have ca := only_any a
  have cb := only_any b
  have CA := hide ca
  have CB := hide cb
  clear ca cb
  revert h CA CB
  generalize allD a.data.toList = p
  generalize allD b.data.toList = q
  intro h CA CB
  have H := hide h
  clear h
  go_enter Try.func4, Try.ntmps4
  go_wp2_with fail
  refine c11.mono ?_
  rintro e w' ⟨r, rfl, rfl⟩
  cases r with
  | false =>
    go_wp2
    go_ret
    exact ⟨rfl, Grown.refl _⟩
  | true =>
    clear c11
    go_wp2_with fail
    refine (CA.out _ w0).mono ?_; rintro e w' ⟨rfl, rfl⟩
    cases p with
    | false =>
      clear CA CB H
      go_wp2
      go_ret
      exact ⟨rfl, Grown.refl _⟩
    | true =>
      obtain rfl : q = false := by simpa using H.out
      go_wp2_with fail
      refine (CB.out _ w1).mono ?_; rintro e w' ⟨rfl, rfl⟩
      clear CA CB H
      go_wp2
      go_ret
      exact ⟨rfl, Grown.refl _⟩

set_option maxHeartbeats 800000 in
theorem long (a b : ByteArray) (w : World) (w0 : a.size ≤ maxLen) (w1 : b.size ≤ maxLen) (h : 65536 < a.size ∨ 65536 < b.size) :
    Calls Try.prog 4 #[.string a, .string b] w fun e w' => e = .returned (.bool true) ∧ Grown w w' := by
  have c7 := bytes_any a b w w0 w1
  rcases Nat.lt_or_ge 65536 a.size with h0 | h0
  · go_enter Try.func4, Try.ntmps4
    go_wp2_with fail
    refine c7.mono ?_
    rintro e w' ⟨r, rfl, rfl⟩
    cases r <;>
    · go_wp2
      go_ret
      exact ⟨rfl, Grown.refl _⟩
  · have h1 : 65536 < b.size := by omega
    clear h
    go_enter Try.func4, Try.ntmps4
    go_wp2_with fail
    refine c7.mono ?_
    rintro e w' ⟨r, rfl, rfl⟩
    cases r <;>
    · go_wp2
      go_ret
      exact ⟨rfl, Grown.refl _⟩

theorem walk (a b : ByteArray) (w0 : a.size ≤ maxLen) (w1 : b.size ≤ maxLen) (w : World) :
    Calls Try.prog 4 #[.string a, .string b] w fun e w' => e = .returned (.bool true) ∧ Grown w w' := by
  by_cases h : 65536 < a.size ∨ 65536 < b.size
  · exact long a b w w0 w1 h
  have h0 : a.size ≤ 65536 := by omega
  have h1 : b.size ≤ 65536 := by omega
  by_cases hAB : (allD a.data.toList && allD b.data.toList) = true
  · rw [Bool.and_eq_true] at hAB
    exact core a b w h0 h1 w0 w1 hAB.1 hAB.2
  · exact other a b w w0 w1 h0 h1 (by simpa using hAB)
end Go.Proofs.Qxb6619275a.OrderWalk
