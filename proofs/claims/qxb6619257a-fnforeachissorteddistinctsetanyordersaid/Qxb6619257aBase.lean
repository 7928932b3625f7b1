/- The contracts of the small functions: the zzBytes guards, keysFit, cloneStrings, ForEach, Len, ZZKeys, ZZKind, ZZCount. -/
import Derived.Test.Qxb6619257aLib
import Derived.WalkKit
import Derived.WalkSpells
import Derived.WalkLawsBesides
import Derived.RowKit3
namespace Go.Proofs.Qxb6619257a.Base
open Go.RowKit Go.Proofs.Qxb6619257a.Plain Go.Proofs.Qxb6619257a.Lib

theorem hide {p : Prop} (h : p) : Hid p := h
theorem int_eq {k : IntKind} {a b : Int} (h : a = b) : Value.int k a = .int k b := by rw [h]
theorem ret_bool {a b : Bool} (h : a = b) : Ending.returned (.bool a) = .returned (.bool b) := by rw [h]

/-- A guard: it answers one bool, and the world is as it was. -/
def Says (w : World) (e : Ending) (w' : World) : Prop := ∃ r : Bool, e = .returned (.bool r) ∧ w' = w

set_option maxHeartbeats 800000 in
theorem bytes19_any (a : Option Addr) (n cap : Nat) (k : ByteArray) (x : Value) (E : Nat → ByteArray) (w : World) (hn : n ≤ maxLen) (hrow : KRow w a n E) :
    Calls Try.prog 19 #[.slice a n cap, .string k, x] w (Says w) := by
  unfold maxLen at hn
  have HR := hide hrow
  clear hrow
  go_enter Try.func19, Try.ntmps19
  go_wp2
  all_goals try (go_ret; exact ⟨_, rfl, rfl⟩)
  all_goals
    go_loop [7, 8] (fun z i => ∃ (t : Int) (k : Nat), k ≤ n ∧ i = .int .i64 k ∧ z = .int .i64 t) (fun _ i => n - (intOf i).toNat)
    case atStart => exact ⟨_, 0, by omega, rfl, rfl⟩
    case round =>
      obtain ⟨t, j, hj, rfl, rfl⟩ := hrel
      by_cases hlt : j < n
      · obtain ⟨b, off, rfl, _, hc⟩ := HR.out.at' (by omega)
        have c1 := hc j hlt
        have hi : (j : Int) < (n : Int) := by omega
        clear hc
        generalize hs : E j = s at c1
        clear hs
        go_wp2
        all_goals first
          | (go_ret; exact ⟨_, rfl, rfl⟩)
          | (go_round; (case rel => exact ⟨_, j + 1, by omega, by go_num, rfl⟩); (case measure => simp [intOf]; omega))
      · go_wp2
        all_goals (go_ret; exact ⟨_, rfl, rfl⟩)

set_option maxHeartbeats 800000 in
theorem bytes7_any (a : Option Addr) (n cap : Nat) (x : Value) (E : Nat → ByteArray) (w : World) (hn : n ≤ maxLen) (hrow : KRow w a n E) :
    Calls Try.prog 7 #[.slice a n cap, x] w (Says w) := by
  unfold maxLen at hn
  have HR := hide hrow
  clear hrow
  go_enter Try.func7, Try.ntmps7
  go_wp2
  all_goals try (go_ret; exact ⟨_, rfl, rfl⟩)
  all_goals
    go_loop [5, 6] (fun z i => ∃ (t : Int) (k : Nat), k ≤ n ∧ i = .int .i64 k ∧ z = .int .i64 t) (fun _ i => n - (intOf i).toNat)
    case atStart => exact ⟨_, 0, by omega, rfl, rfl⟩
    case round =>
      obtain ⟨t, j, hj, rfl, rfl⟩ := hrel
      by_cases hlt : j < n
      · obtain ⟨b, off, rfl, _, hc⟩ := HR.out.at' (by omega)
        have c1 := hc j hlt
        have hi : (j : Int) < (n : Int) := by omega
        clear hc
        generalize hs : E j = s at c1
        clear hs
        go_wp2
        all_goals first
          | (go_ret; exact ⟨_, rfl, rfl⟩)
          | (go_round; (case rel => exact ⟨_, j + 1, by omega, by go_num, rfl⟩); (case measure => simp [intOf]; omega))
      · go_wp2
        all_goals (go_ret; exact ⟨_, rfl, rfl⟩)

set_option maxHeartbeats 800000 in
theorem bytes16_any (a : Option Addr) (n cap : Nat) (E : Nat → ByteArray) (w : World) (hn : n ≤ maxLen) (hrow : KRow w a n E) :
    Calls Try.prog 16 #[.slice a n cap] w (Says w) := by
  unfold maxLen at hn
  have HR := hide hrow
  clear hrow
  go_enter Try.func16, Try.ntmps16
  go_wp2
  all_goals try (go_ret; exact ⟨_, rfl, rfl⟩)
  all_goals
    go_loop [3, 4] (fun z i => ∃ (t : Int) (k : Nat), k ≤ n ∧ i = .int .i64 k ∧ z = .int .i64 t) (fun _ i => n - (intOf i).toNat)
    case atStart => exact ⟨_, 0, by omega, rfl, rfl⟩
    case round =>
      obtain ⟨t, j, hj, rfl, rfl⟩ := hrel
      by_cases hlt : j < n
      · obtain ⟨b, off, rfl, _, hc⟩ := HR.out.at' (by omega)
        have c1 := hc j hlt
        have hi : (j : Int) < (n : Int) := by omega
        clear hc
        generalize hs : E j = s at c1
        clear hs
        go_wp2
        all_goals first
          | (go_ret; exact ⟨_, rfl, rfl⟩)
          | (go_round; (case rel => exact ⟨_, j + 1, by omega, by go_num, rfl⟩); (case measure => simp [intOf]; omega))
      · go_wp2
        all_goals (go_ret; exact ⟨_, rfl, rfl⟩)

set_option maxHeartbeats 800000 in
theorem bytes17_any (a : Option Addr) (n cap : Nat) (E : Nat → ByteArray) (w : World) (hn : n ≤ maxLen) (hrow : KRow w a n E) :
    Calls Try.prog 17 #[.slice a n cap] w (Says w) := by
  unfold maxLen at hn
  have HR := hide hrow
  clear hrow
  go_enter Try.func17, Try.ntmps17
  go_wp2
  all_goals try (go_ret; exact ⟨_, rfl, rfl⟩)
  all_goals
    go_loop [3, 4] (fun z i => ∃ (t : Int) (k : Nat), k ≤ n ∧ i = .int .i64 k ∧ z = .int .i64 t) (fun _ i => n - (intOf i).toNat)
    case atStart => exact ⟨_, 0, by omega, rfl, rfl⟩
    case round =>
      obtain ⟨t, j, hj, rfl, rfl⟩ := hrel
      by_cases hlt : j < n
      · obtain ⟨b, off, rfl, _, hc⟩ := HR.out.at' (by omega)
        have c1 := hc j hlt
        have hi : (j : Int) < (n : Int) := by omega
        clear hc
        generalize hs : E j = s at c1
        clear hs
        go_wp2
        all_goals first
          | (go_ret; exact ⟨_, rfl, rfl⟩)
          | (go_round; (case rel => exact ⟨_, j + 1, by omega, by go_num, rfl⟩); (case measure => simp [intOf]; omega))
      · go_wp2
        all_goals (go_ret; exact ⟨_, rfl, rfl⟩)

/-- keysFit answers one bool; true only where there are at most 65536 keys. -/
def Fits (n : Nat) (w : World) (e : Ending) (w' : World) : Prop := ∃ r : Bool, e = .returned (.bool r) ∧ (r = true → n ≤ 65536) ∧ w' = w

set_option maxHeartbeats 800000 in
theorem keysFit_any (a : Option Addr) (n cap : Nat) (x : Int) (E : Nat → ByteArray) (w : World) (hn : n ≤ maxLen) (hrow : KRow w a n E) :
    Calls Try.prog 8 #[.slice a n cap, .int .i64 x] w (Fits n w) := by
  unfold maxLen at hn
  have HR := hide hrow
  clear hrow
  go_enter Try.func8, Try.ntmps8
  by_cases hbig : n ≤ 65536
  · go_wp2
    all_goals try (go_ret; exact ⟨_, rfl, fun _ => hbig, rfl⟩)
    all_goals
      go_loop [5, 6] (fun z i => ∃ (t : Int) (k : Nat), k ≤ n ∧ i = .int .i64 k ∧ z = .int .i64 t) (fun _ i => n - (intOf i).toNat)
      case atStart => exact ⟨_, 0, by omega, rfl, rfl⟩
      case round =>
        obtain ⟨t, j, hj, rfl, rfl⟩ := hrel
        by_cases hlt : j < n
        · obtain ⟨b, off, rfl, _, hc⟩ := HR.out.at' (by omega)
          have c1 := hc j hlt
          have hi : (j : Int) < (n : Int) := by omega
          clear hc
          generalize hs : E j = s at c1
          clear hs
          go_wp2
          all_goals first
            | (go_ret; exact ⟨_, rfl, fun _ => hbig, rfl⟩)
            | (go_round; (case rel => exact ⟨_, j + 1, by omega, by go_num, rfl⟩); (case measure => simp [intOf]; omega))
        · go_wp2
          all_goals (go_ret; exact ⟨_, rfl, fun _ => hbig, rfl⟩)
  · go_wp2
    go_ret
    exact ⟨false, rfl, (fun h => by cases h), rfl⟩
end Go.Proofs.Qxb6619257a.Base
