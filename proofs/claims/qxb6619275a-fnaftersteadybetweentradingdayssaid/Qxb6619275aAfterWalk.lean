/- The contracts of strictlyAscending, countAbove, slices.BinarySearch at []Date, (Calendar).After: each by a walk of its text. -/
import Derived.Test.Qxb6619275aRows
import Derived.Test.Qxb6619275aAfterPlain
import Derived.WalkKit
import Derived.WalkSpells
import Derived.Deep.QuietTactic
import Derived.BigQuiet
import Derived.WalkLawsBesides
import Derived.RowKit3
namespace Go.Proofs.Qxb6619275a.AfterWalk
open Go.RowKit Go.Proofs.Qxb6619275a.AfterPlain

theorem hide {p : Prop} (h : p) : Hid p := h
theorem int_eq {k : IntKind} {a b : Int} (h : a = b) : Value.int k a = .int k b := by rw [h]
theorem ret_int {k : IntKind} {a b : Int} (h : a = b) : Ending.returned (.int k a) = .returned (.int k b) := by rw [h]
theorem ret_bool {a b : Bool} (h : a = b) : Ending.returned (.bool a) = .returned (.bool b) := by rw [h]
theorem ret_pair {k : IntKind} {a b : Int} {c d : Bool} (h : a = b) (h' : c = d) : Ending.returned (.tuple #[.int k a, .bool c]) = .returned (.tuple #[.int k b, .bool d]) := by rw [h, h']

/-- A slice of n int32 that reads as D 0 .. D (n - 1); of a slice of no element nothing is known of its address. -/
def Row (w : World) (a : Option Addr) (n : Nat) (D : Nat → Int) : Prop :=
  n = 0 ∨ ∃ b off, a = some ⟨b, off, none⟩ ∧ ∀ j, j < n → w.cell? ⟨b, off + j, none⟩ = some (.int .i32 (D j))

set_option maxHeartbeats 400000 in
theorem bytes16_any (a : Option Addr) (n cap : Nat) (x y z : Value) (w : World) (hn : n ≤ maxLen) :
    Calls Try.prog 16 #[.slice a n cap, x, y, z] w fun e w' => ∃ r : Bool, e = .returned (.bool r) ∧ w' = w := by
  unfold maxLen at hn
  go_enter Try.func16, Try.ntmps16
  go_wp2
  all_goals
    go_ret
    exact ⟨_, rfl, rfl⟩
set_option maxHeartbeats 400000 in
theorem bytes21_any (a : Option Addr) (n cap : Nat) (x y z : Value) (w : World) (hn : n ≤ maxLen) :
    Calls Try.prog 21 #[.slice a n cap, x, y, z] w fun e w' => ∃ r : Bool, e = .returned (.bool r) ∧ w' = w := by
  unfold maxLen at hn
  go_enter Try.func21, Try.ntmps21
  go_wp2
  all_goals
    go_ret
    exact ⟨_, rfl, rfl⟩

set_option maxHeartbeats 800000 in
theorem asc_any (a : Option Addr) (n cap : Nat) (D : Nat → Int) (w : World) (hn : n ≤ maxLen) (hrow : Row w a n D) :
    Calls Try.prog 17 #[.slice a n cap] w fun e w' => ∃ r : Bool, e = .returned (.bool r) ∧ (r = true → Asc D n) ∧ ∃ k, w' = w.drewN k := by
  unfold maxLen at hn
  have HR := hide hrow
  clear hrow
  go_enter Try.func17, Try.ntmps17
  go_wp2
  go_loopw [3] (fun i wr => ∃ k m : Nat, 1 ≤ k ∧ k ≤ n + 1 ∧ i = .int .i64 k ∧ wr = w.drewN m ∧ Adj D k) (fun i _ => n + 1 - (intOf i).toNat)
  case atStart => exact ⟨1, 0, by omega, by omega, rfl, rfl, adj_start D⟩
  case round =>
    obtain ⟨k, m, hk1, hk, rfl, rfl, hadj⟩ := hrel
    have HA := hide hadj
    clear hadj
    by_cases hlt : k < n
    · rcases HR.out with h0 | ⟨b, off, rfl, hc⟩
      · omega
      have c1 := hc (k - 1) (by omega)
      have c2 := hc k hlt
      clear hc
      have hi : (k : Int) < (n : Int) := by omega
      have hi0 : (0 : Int) ≤ (k : Int) - 1 := by omega
      have e1 : ((k : Int) - 1).toNat = k - 1 := by omega
      by_cases hd : D (k - 1) < D k
      · have HD := hide hd
        generalize hx : D (k - 1) = x at c1 hd
        generalize hy : D k = y at c2 hd
        clear hx hy
        go_wp2
        go_quiet (fail)
        go_wp2
        go_roundw
        case rel => exact ⟨k + 1, _, by omega, by omega, by go_num, rfl, adj_step HA.out HD.out⟩
        case measure => simp [intOf]; omega
      · generalize hx : D (k - 1) = x at c1 hd
        generalize hy : D k = y at c2 hd
        clear hx hy
        go_wp2
        go_quiet (fail)
        go_wp2
        go_ret
        exact ⟨false, rfl, (fun h => by cases h), m + nq, by simp⟩
    · go_wp2
      go_ret
      exact ⟨true, rfl, fun _ => asc_of_adj (adj_le HA.out (by omega)), _, rfl⟩

set_option maxHeartbeats 800000 in
theorem count_any (a : Option Addr) (n cap : Nat) (D : Nat → Int) (d : Int) (c : Nat) (w : World) (hn : n ≤ maxLen) (hrow : Row w a n D) (hcut : Cut D n d c) :
    Calls Try.prog 22 #[.slice a n cap, .int .i32 d] w fun e w' => e = .returned (.int .i64 ((n - c : Nat) : Int)) ∧ w' = w := by
  unfold maxLen at hn
  have HR := hide hrow
  have HC := hide hcut
  have hcn := hcut.le
  clear hrow hcut
  go_enter Try.func22, Try.ntmps22
  go_wp2
  go_loop [5, 6] (fun t i => ∃ k : Nat, k ≤ n ∧ i = .int .i64 k ∧ t = .int .i64 ((k - c : Nat) : Int)) (fun _ i => n - (intOf i).toNat)
  case atStart => exact ⟨0, by omega, rfl, int_eq (by omega)⟩
  case round =>
    obtain ⟨k, hk, rfl, rfl⟩ := hrel
    by_cases hlt : k < n
    · rcases HR.out with h0 | ⟨b, off, rfl, hc⟩
      · omega
      have c2 := hc k hlt
      clear hc
      have hif := HC.out.lt_iff k hlt
      have hi : (k : Int) < (n : Int) := by omega
      by_cases hd : d < D k
      · have hkc : ¬ k < c := fun h => by have := hif.1 h; omega
        clear hif
        obtain ⟨t, ht⟩ : ∃ t : Nat, t = k - c := ⟨_, rfl⟩
        have HT := hide ht
        rw [← ht]
        have htk : t ≤ k := by omega
        clear ht
        generalize hy : D k = y at c2 hd
        clear hy
        go_wp2
        go_round
        case rel => exact ⟨k + 1, by omega, by go_num, int_eq (by have := HT.out; omega)⟩
        case measure => simp [intOf]; omega
      · have hkc : k < c := hif.2 (by omega)
        clear hif
        obtain ⟨t, ht⟩ : ∃ t : Nat, t = k - c := ⟨_, rfl⟩
        have HT := hide ht
        rw [← ht]
        clear ht
        generalize hy : D k = y at c2 hd
        clear hy
        go_wp2
        go_round
        case rel => exact ⟨k + 1, by omega, by go_num, int_eq (by have := HT.out; omega)⟩
        case measure => simp [intOf]; omega
    · go_wp2
      go_ret
      exact ⟨ret_int (by have : k = n := by omega
                         rw [this]), rfl⟩
end Go.Proofs.Qxb6619275a.AfterWalk
