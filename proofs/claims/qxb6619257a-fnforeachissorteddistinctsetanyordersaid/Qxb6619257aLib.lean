/- slices.Clone, Sort, Compact at []string, each as one contract over every slice (nil, empty, not empty): out of the shelf's contracts, without a walk. -/
import Derived.Test.Qxb6619257aRows
import Derived.Test.Qxb6619257aShelf
import Derived.Test.Qxb6619257aPlain
import Derived.Lib.OwnBridge
import Derived.Sort.OwnSorted
namespace Go.Proofs.Qxb6619257a.Lib
open Go.RowKit Go.Sort Go.Proofs.Qxb6619257a.Plain

/-- A slice of n strings that reads as E 0 .. E (n - 1): of a slice of no element nothing is known of its address; a nil one has no element. -/
structure KRow (w : World) (a : Option Addr) (n : Nat) (E : Nat → ByteArray) : Prop where
  nil : a = none → n = 0
  at' : 0 < n → ∃ b off, a = some ⟨b, off, none⟩ ∧ b < w.heap.size ∧ ∀ j, j < n → w.cell? ⟨b, off + j, none⟩ = some (.string (E j))

/-- The strings as lists of bytes. -/
def L (E : Nat → ByteArray) (n : Nat) : List (List UInt8) := (List.range n).map fun j => (E j).data.toList
theorem L_length (E : Nat → ByteArray) (n : Nat) : (L E n).length = n := by simp [L]

theorem KRow.below {w w' : World} {a : Option Addr} {n : Nat} {E : Nat → ByteArray} {B : Nat} (h : KRow w a n E) (hb : Below B w w') (hB : w.heap.size ≤ B) : KRow w' a n E where
  nil := h.nil
  at' := fun hn => by
    obtain ⟨b, off, e, hlt, hc⟩ := h.at' hn
    refine ⟨b, off, e, Nat.lt_of_lt_of_le hlt hb.size, fun j hj => ?_⟩
    rw [hb.cell (p := ⟨b, off + j, none⟩) (by show b < B; omega)]
    exact hc j hj

/-- A slice of the call's own that owns these strings. -/
abbrev Own (w : World) (B : Nat) (v : Value) (ss : List (List UInt8)) : Prop := w.ownsRow B 9 1 v ss.length (ss.map encStr)

/-- What a slice that owns ss is, and how it reads. -/
theorem Own.row {w : World} {B : Nat} {v : Value} {ss : List (List UInt8)} (h : Own w B v ss) : ∃ a c, v = .slice a ss.length c ∧ KRow w a ss.length (fun j => ⟨(ss.getD j []).toArray⟩) := by
  rcases h.2 with ⟨e, h0⟩ | ⟨g, cap, cur, rfl, hb, hg, hn, hm, hs, ht⟩
  · exact ⟨none, 0, by rw [e, h0], ⟨fun _ => h0, fun hn => by omega⟩⟩
  · refine ⟨some ⟨g, 0, none⟩, cap, rfl, (fun e => by cases e), fun _ => ⟨g, 0, rfl, (h.lt g rfl).2, fun j hj => ?_⟩⟩
    rw [Nat.zero_add, h.cellAt j (by omega)]
    simp [hj]

theorem clone_any (a : Option Addr) (n c : Nat) (E : Nat → ByteArray) (w : World) (hrow : KRow w a n E) (hn : n ≤ 65537) :
    Calls Try.prog 20 #[.slice a n c] w fun e w' => ∃ v, e = .returned v ∧ Own w' w.heap.size v (L E n) ∧ Below w.heap.size w w' := by
  rcases Nat.eq_zero_or_pos n with e | hp
  · subst e
    cases a with
    | none =>
      refine (Try.slices_Clone_string_nil 0 c w).mono ?_
      rintro e w' ⟨rfl, rfl⟩
      exact ⟨_, rfl, World.ownsRow_nil _ _ _ _, Below.refl _ _⟩
    | some x =>
      refine (Try.slices_Clone_string_zero x c w).mono ?_
      rintro e w' ⟨v, rfl, hown, _, hb⟩
      exact ⟨v, rfl, hown, hb⟩
  · obtain ⟨b, off, rfl, _, hc⟩ := hrow.at' hp
    refine (Try.slices_Clone_string b off n c ((List.range n).map E) w (by simp) (by omega) (fun j hj => ?_)).mono ?_
    · have hj' : j < n := by simpa using hj
      rw [hc j hj']
      simp [hj']
    · rintro e w' ⟨v, rfl, hown, _, hb⟩
      refine ⟨v, rfl, ?_, hb⟩
      have e1 : ((List.range n).map E).take n = (List.range n).map E := List.take_of_length_le (by simp)
      have e2 : ((List.range n).map E).map (·.data.toList) = L E n := by rw [List.map_map]; rfl
      rw [e1, ← Go.Lib.map_encStr, e2] at hown
      rw [Own, L_length]
      exact hown

theorem sort_any (v : Value) (ss : List (List UInt8)) (B : Nat) (w : World) (h : Own w B v ss) (hB : B ≤ w.heap.size) (hn : ss.length ≤ 65537) :
    Calls Try.prog 21 #[v] w fun e w' => e = .returned (.tuple #[]) ∧ Own w' B v (ss.mergeSort fun x y => decide (x ≤ y)) ∧ Below B w w' := by
  rcases h.2 with ⟨rfl, h0⟩ | ⟨g, cap, cur, rfl, hb, hg, h1, h2, h3, h4⟩
  · have e : ss = [] := List.length_eq_zero_iff.1 h0
    subst e
    refine (Try.slices_Sort_string_none none 0 w).mono ?_
    rintro e w' ⟨rfl, rfl⟩
    exact ⟨rfl, by simpa using h, Below.refl _ _⟩
  · refine (Try.slices_Sort_string g 0 cap ss w (holds_of_block hg (by simpa using h4)) (Array.getElem?_eq_some_iff.1 hg).1 (by omega)).mono ?_
    rintro e w' ⟨rfl, nn, os, rfl⟩
    refine ⟨rfl, ?_, (Below.refl _ _).grown (grownBy_sorted _) hB (fun k hk => by cases hk; exact hb)⟩
    rw [Own, List.length_mergeSort]
    exact ownsRow_sorted (List.length_mergeSort ss) hb hg h1 h2 h3

theorem compact_any (v : Value) (ss : List (List UInt8)) (B : Nat) (w : World) (h : Own w B v ss) (hn : ss.length ≤ 65537) :
    Calls Try.prog 22 #[v] w fun e w' => ∃ v', e = .returned v' ∧ Own w' B v' (Go.Lib.compact ss) ∧ Below B w w' := by
  have hle := Go.Lib.compact_length_le ss
  rcases h.2 with ⟨rfl, h0⟩ | ⟨g, cap, cur, rfl, hb, hg, h1, h2, h3, h4⟩
  · have e : ss = [] := List.length_eq_zero_iff.1 h0
    subst e
    refine (Try.slices_Compact_string_empty none 0 w).mono ?_
    rintro e w' ⟨rfl, rfl⟩
    exact ⟨_, rfl, by simpa [Go.Lib.compact, Go.Lib.compactUpTo] using h, Below.refl _ _⟩
  · refine (Try.slices_Compact_string g 0 cap ss w (holds_of_block hg (by simpa using h4)) (by omega) h1).mono ?_
    rintro e w' ⟨rfl, q, rfl⟩
    have hc := Go.Lib.ownsRow_putRow (q := q) (k := (Go.Lib.compact ss).length) (ys := Go.Lib.compact ss ++ List.replicate (ss.length - (Go.Lib.compact ss).length) []) h (by simp; omega) hle
    rw [List.take_left] at hc
    exact ⟨_, rfl, hc, Go.Lib.below_putRow (Below.refl _ _) hb⟩
end Go.Proofs.Qxb6619257a.Lib
