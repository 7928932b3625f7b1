/- The walk of FnForEachOfItsOwnKeysIsUnchanged. -/
import Derived.Test.Qxb6619257aCountWalk
namespace Go.Proofs.Qxb6619257a.Base
open Go.RowKit Go.Proofs.Qxb6619257a.Plain Go.Proofs.Qxb6619257a.Lib

/-- A repetition of ForEach's boxed in block b. -/
structure Box (w : World) (b : Nat) (a : Option Addr) (m c : Nat) : Prop where
  lt : b < w.heap.size
  r0 : w.cell? ⟨b, 0, none⟩ = some (.int .i64 2)
  r1 : w.cell? ⟨b, 1, none⟩ = some (.int .i64 0)
  r2 : w.cell? ⟨b, 2, none⟩ = some (.slice a m c)
theorem Box.below {w w' : World} {b : Nat} {a : Option Addr} {m c : Nat} (h : Box w b a m c) (hb : Below w.heap.size w w') : Box w' b a m c :=
  ⟨Nat.lt_of_lt_of_le h.lt hb.size, (hb.cell (p := ⟨b, 0, none⟩) h.lt).trans h.r0, (hb.cell (p := ⟨b, 1, none⟩) h.lt).trans h.r1, (hb.cell (p := ⟨b, 2, none⟩) h.lt).trans h.r2⟩
theorem Box.new {w w' : World} {a : Option Addr} {m c : Nat} (h : Below (w.heap.size + 1) (w.alloc (.cells #[.int .i64 2, .int .i64 0, .slice a m c] 27)) w') : Box w' w.heap.size a m c :=
  ⟨boxed_size h, (boxed_cells h).1, (boxed_cells h).2.1, (boxed_cells h).2.2⟩

set_option maxHeartbeats 1600000 in
theorem ownKeys (a : Option Addr) (n cap : Nat) (E : Nat → ByteArray) (w : World) (hn : n ≤ maxLen) (hrow : KRow w a n E) :
    Calls Try.prog 4 #[.slice a n cap] w fun e w' => e = .returned (.bool true) ∧ Below w.heap.size w w' := by
  have CB := hide (bytes16_any a n cap E w hn hrow)
  have CF := hide (fun x => keysFit_any a n cap x E w hn hrow)
  have HR := hide hrow
  clear hrow
  go_enter Try.func4, Try.ntmps4
  go_wp2_with fail
  refine CB.out.mono ?_
  rintro e w' ⟨r, rfl, rfl⟩
  clear CB
  cases r with
  | false =>
    go_wp2
    go_ret
    exact ⟨rfl, Below.refl _ _⟩
  | true =>
    go_wp2_with fail
    refine (CF.out _).mono ?_
    rintro e w1 ⟨r, rfl, hr, rfl⟩
    clear CF
    cases r with
    | false =>
      clear hr
      go_wp2
      go_ret
      exact ⟨rfl, Below.refl _ _⟩
    | true =>
      have hn2 := hr rfl
      clear hr
      go_wp2_with fail
      refine (cloneStrings_any a n cap E _ hn2 HR.out).mono ?_
      rintro e w2 ⟨a2, rfl, hk2, hb2⟩
      have HK := hide hk2
      have HB := hide hb2
      clear hk2 hb2 HR
      go_wp2_with fail
      refine (forEach_any a2 n n E w2 (by omega) HK.out).mono ?_
      rintro e w3 ⟨a3, c3, rfl, hk3, hb3⟩
      obtain ⟨idx, hex⟩ := exact_out E n
      have hle := S_len_E E n
      have HX := hide hex
      have HK3 : Hid (KRow w3 a3 (S (L E n)).length (outG (S (L E n)))) := hk3
      have HB3 := hide hb3
      have HS : Hid (S (L (outG (S (L E n))) (S (L E n)).length) = S (L E n)) := by show _ = _; rw [L_out, S_S]
      clear hk3 hb3 hex
      revert hle HX HK3 HS
      generalize S (L E n) = Z
      intro hle HX HK3 HS
      go_wp2_with fail
      refine (zzKeys_any a3 _ c3 _).mono ?_
      rintro e w4 ⟨rfl, hb4⟩
      rw [World.size_alloc] at hb4
      have HB4 := hide hb4
      clear hb4
      have H34 := hide (boxed_below HB4.out)
      go_wp2_with fail
      refine (forEach_any a3 Z.length c3 (outG Z) w4 (by omega) (HK3.out.below H34.out (Nat.le_refl _))).mono ?_
      rintro e w5 ⟨a5, c5, rfl, hk5, hb5⟩
      have HK5 : Hid (KRow w5 a5 Z.length (outG Z)) := by
        have h : KRow w5 a5 (S (L (outG Z) Z.length)).length (outG (S (L (outG Z) Z.length))) := hk5
        rw [HS.out] at h
        exact h
      have HB5 := hide hb5
      clear hk5 hb5
      rw [HS.out]
      clear HS
      generalize hm : Z.length = m at *
      clear hm
      generalize outG Z = G at *
      have X5 := hide ((Box.new HB4.out).below HB5.out)
      have HW := hide (chain (chain (chain HB.out HB3.out) H34.out) HB5.out)
      have KE := hide (((HK.out.below HB3.out (Nat.le_refl _)).below H34.out (Nat.le_refl _)).below HB5.out (Nat.le_refl _))
      have KG := hide ((HK3.out.below H34.out (Nat.le_refl _)).below HB5.out (Nat.le_refl _))
      clear HK HK3 HB HB3 HB4 HB5 H34
      go_wp2_with fail
      refine (zzKeys_any a5 m c5 _).mono ?_
      rintro e w6 ⟨rfl, hb6⟩
      rw [World.size_alloc] at hb6
      have HB6 := hide (boxed_below hb6)
      have Y6 := hide (Box.new hb6)
      have X6 := hide (X5.out.below HB6.out)
      have HW6 := hide (chain HW.out HB6.out)
      have KE6 := hide (KE.out.below HB6.out (Nat.le_refl _))
      have KG6 := hide (KG.out.below HB6.out (Nat.le_refl _))
      have KH6 := hide (HK5.out.below HB6.out (Nat.le_refl _))
      clear hb6 HB6 X5 HW KE KG HK5
      obtain ⟨_, r0, r1, r2⟩ := X6.out
      go_wp2_with fail
      refine (zzKind_any a3 m c3 _).mono ?_
      rintro e w7 ⟨rfl, hb7⟩
      clear r0 r1 r2
      obtain ⟨_, r0, r1, r2⟩ := Y6.out.below hb7
      have HB7 := hide hb7
      clear hb7
      go_wp2_with fail
      refine (zzKind_any a5 m c5 _).mono ?_
      rintro e w8 ⟨rfl, hb8⟩
      have HB8 := hide (chain HB7.out hb8)
      clear r0 r1 r2 hb8 HB7
      obtain ⟨_, r0, r1, r2⟩ := X6.out.below HB8.out
      go_wp2_with fail
      refine (zzCount_any a3 m c3 _).mono ?_
      rintro e w9 ⟨rfl, hb9⟩
      have HB9 := hide (chain HB8.out hb9)
      clear r0 r1 r2 hb9 HB8
      obtain ⟨_, r0, r1, r2⟩ := Y6.out.below HB9.out
      go_wp2_with fail
      refine (zzCount_any a5 m c5 _).mono ?_
      rintro e w10 ⟨rfl, hb10⟩
      have HB10 := hide (chain HB9.out hb10)
      clear r0 r1 r2 hb10 HB9
      go_wp2_with fail
      refine (exact_any a2 a3 n n m c3 E G idx w10 (by omega) (by omega) (KE6.out.below HB10.out (Nat.le_refl _)) (KG6.out.below HB10.out (Nat.le_refl _)) HX.out).mono ?_
      rintro e w11 ⟨rfl, hb11⟩
      have HB11 := hide (chain HB10.out hb11)
      clear hb11 HB10
      go_wp2_with fail
      refine (same_any a3 a5 m c3 c5 G G w11 (by omega) (KG6.out.below HB11.out (Nat.le_refl _)) (KH6.out.below HB11.out (Nat.le_refl _)) (fun _ _ => rfl)).mono ?_
      rintro e w12 ⟨rfl, q, rfl⟩
      have HALL := hide (chain (chain HW6.out HB11.out) (below_drewN0 w11 q))
      clear HB11 HW6 KE6 KG6 KH6 X6 Y6 HX
      go_wp2
      go_ret
      exact ⟨rfl, HALL.out⟩
end Go.Proofs.Qxb6619257a.Base
