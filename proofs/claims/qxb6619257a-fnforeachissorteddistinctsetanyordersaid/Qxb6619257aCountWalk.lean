/- What ForEach holds is just the set of its keys; the walk of FnLenOfForEachCountsDistinctKeys. -/
import Derived.Test.Qxb6619257aSet
namespace Go.Proofs.Qxb6619257a.Base
open Go.RowKit Go.Proofs.Qxb6619257a.Plain Go.Proofs.Qxb6619257a.Lib

/-- The strings of a list, as a slice's cells hold them. -/
def outG (ss : List (List UInt8)) (j : Nat) : ByteArray := ⟨(ss.getD j []).toArray⟩
theorem outG_data (ss : List (List UInt8)) (j : Nat) (h : j < ss.length) : (outG ss j).data.toList = ss[j] := by simp [outG, h]

theorem L_out (ss : List (List UInt8)) : L (outG ss) ss.length = ss := by
  apply List.ext_getElem
  · simp [L]
  · intro j h1 h2
    simp only [L, List.getElem_map, List.getElem_range]
    exact outG_data ss j h2

theorem inc_out {ss : List (List UInt8)} (h : ss.Pairwise (· < ·)) : Inc (outG ss) ss.length := fun i j hij hj => by
  rw [outG_data ss i (by omega), outG_data ss j hj]
  exact List.pairwise_iff_getElem.1 h i j (by omega) hj hij

theorem L_get {E : Nat → ByteArray} {n i : Nat} (h : i < n) : (E i).data.toList ∈ L E n := by
  simp only [L, List.mem_map, List.mem_range]; exact ⟨i, h, rfl⟩

/-- keys and what ForEach holds: the keys' places. -/
theorem exact_out (E : Nat → ByteArray) (n : Nat) : ∃ idx, Exact E n (outG (S (L E n))) (S (L E n)).length idx := by
  have hm : ∀ i, i < n → (E i).data.toList ∈ S (L E n) := fun i hi => (S_mem _ _).2 (L_get hi)
  refine ⟨fun i => (S (L E n)).idxOf (E i).data.toList, inc_out (S_lt _), fun i hi => List.idxOf_lt_length_of_mem (hm i hi), fun i hi => ?_, fun j hj => ?_⟩
  · rw [outG_data _ _ (List.idxOf_lt_length_of_mem (hm i hi))]
    exact List.getElem_idxOf (List.idxOf_lt_length_of_mem (hm i hi))
  · have h1 : (S (L E n))[j] ∈ L E n := (S_mem _ _).1 (List.getElem_mem hj)
    simp only [L, List.mem_map, List.mem_range] at h1
    obtain ⟨i, hi, e⟩ := h1
    refine ⟨i, hi, ?_⟩
    have hl := List.idxOf_lt_length_of_mem (hm i hi)
    have h2 : (S (L E n))[(S (L E n)).idxOf (E i).data.toList] = (E i).data.toList := List.getElem_idxOf hl
    have h3 : (S (L E n))[(S (L E n)).idxOf (E i).data.toList] = (S (L E n))[j] := h2.trans e
    have hp := List.pairwise_iff_getElem.1 (S_lt (L E n))
    rcases Nat.lt_trichotomy ((S (L E n)).idxOf (E i).data.toList) j with h | h | h
    · have := hp _ _ hl hj h; rw [h3] at this; exact absurd this (List.lt_irrefl _)
    · exact h
    · have := hp _ _ hj hl h; rw [h3] at this; exact absurd this (List.lt_irrefl _)

/-- A struct of three cells boxed in a new block: what lies behind a call that keeps it. -/
theorem boxed_below {w w' : World} {x y z : Value} {t : TypeId} (h : Below (w.heap.size + 1) (w.alloc (.cells #[x, y, z] t)) w') : Below w.heap.size w w' :=
  ((Below.refl _ w).alloc (Nat.le_refl _) _).trans (h.mono (Nat.le_succ _))
theorem boxed_size {w w' : World} {x y z : Value} {t : TypeId} (h : Below (w.heap.size + 1) (w.alloc (.cells #[x, y, z] t)) w') : w.heap.size + 1 ≤ w'.heap.size := by
  have := h.size; rwa [World.size_alloc] at this
theorem boxed_cells {w w' : World} {x y z : Value} {t : TypeId} (h : Below (w.heap.size + 1) (w.alloc (.cells #[x, y, z] t)) w') :
    w'.cell? ⟨w.heap.size, 0, none⟩ = some x ∧ w'.cell? ⟨w.heap.size, 1, none⟩ = some y ∧ w'.cell? ⟨w.heap.size, 2, none⟩ = some z := by
  refine ⟨?_, ?_, ?_⟩
  · rw [h.cell (p := ⟨w.heap.size, 0, none⟩) (Nat.lt_succ_self _), World.cell?_alloc_new]; rfl
  · rw [h.cell (p := ⟨w.heap.size, 1, none⟩) (Nat.lt_succ_self _), World.cell?_alloc_new]; rfl
  · rw [h.cell (p := ⟨w.heap.size, 2, none⟩) (Nat.lt_succ_self _), World.cell?_alloc_new]; rfl
/-- Calls one behind the other: nothing that lay below the first has turned. -/
theorem chain {w w1 w2 : World} (h1 : Below w.heap.size w w1) (h2 : Below w1.heap.size w1 w2) : Below w.heap.size w w2 := h1.trans (h2.mono h1.size)
theorem chain6 {w w2 w3 w4 w5 w6 : World} (h2 : Below w.heap.size w w2) (h3 : Below w2.heap.size w2 w3) (h4 : Below w3.heap.size w3 w4) (h5 : Below w4.heap.size w4 w5) (h6 : Below w5.heap.size w5 w6) : Below w.heap.size w w6 :=
  chain (chain (chain (chain h2 h3) h4) h5) h6

theorem S_len_E (E : Nat → ByteArray) (n : Nat) : (S (L E n)).length ≤ n := by have := S_len_le (L E n); rwa [L_length] at this

set_option maxHeartbeats 1600000 in
theorem count (a : Option Addr) (n cap : Nat) (E : Nat → ByteArray) (w : World) (hn : n ≤ maxLen) (hrow : KRow w a n E) :
    Calls Try.prog 5 #[.slice a n cap] w fun e w' => e = .returned (.bool true) ∧ Below w.heap.size w w' := by
  have CB := hide (bytes17_any a n cap E w hn hrow)
  have CF := hide (fun x => keysFit_any a n cap x E w hn hrow)
  have HR := hide hrow
  clear hrow
  go_enter Try.func5, Try.ntmps5
  go_wp2_with fail
  refine CB.out.mono ?_
  rintro e w' ⟨r, rfl, rfl⟩
  clear CB
  cases r with
  | false =>
    go_wp2
    go_ret
    exact ⟨rfl, Below.refl _ _⟩
  | true =>
    go_wp2_with fail
    refine (CF.out _).mono ?_
    rintro e w1 ⟨r, rfl, hr, rfl⟩
    clear CF
    cases r with
    | false =>
      clear hr
      go_wp2
      go_ret
      exact ⟨rfl, Below.refl _ _⟩
    | true =>
      have hn2 := hr rfl
      clear hr
      go_wp2_with fail
      refine (cloneStrings_any a n cap E _ hn2 HR.out).mono ?_
      rintro e w2 ⟨a2, rfl, hk2, hb2⟩
      have HK := hide hk2
      have HB := hide hb2
      clear hk2 hb2 HR
      go_wp2_with fail
      refine (forEach_any a2 n n E w2 (by omega) HK.out).mono ?_
      rintro e w3 ⟨a3, c3, rfl, hk3, hb3⟩
      obtain ⟨idx, hex⟩ := exact_out E n
      have hle := S_len_E E n
      have HX := hide hex
      have HK3 : Hid (KRow w3 a3 (S (L E n)).length (outG (S (L E n)))) := hk3
      have HB3 := hide hb3
      clear hk3 hb3 hex
      revert hle HX HK3
      generalize outG (S (L E n)) = G
      generalize (S (L E n)).length = m
      intro hle HX HK3
      go_wp2_with fail
      refine (zzKeys_any a3 m c3 _).mono ?_
      rintro e w4 ⟨rfl, hb4⟩
      rw [World.size_alloc] at hb4
      have HB4 := hide hb4
      clear hb4
      have H34 := hide (boxed_below HB4.out)
      go_wp2_with fail
      refine (exact_any a2 a3 n n m c3 E G idx w4 (by omega) (by omega) ((HK.out.below HB3.out (Nat.le_refl _)).below H34.out (Nat.le_refl _)) (HK3.out.below H34.out (Nat.le_refl _)) HX.out).mono ?_
      rintro e w5 ⟨rfl, hb5⟩
      have HB5 := hide hb5
      clear hb5
      obtain ⟨r0, r1, r2⟩ := boxed_cells (HB4.out.trans (HB5.out.mono (boxed_size HB4.out)))
      go_wp2_with fail
      refine (len_any a3 m c3 _).mono ?_
      rintro e w6 ⟨rfl, hb6⟩
      have HB6 := hide hb6
      clear hb6
      have HALL := hide (chain6 HB.out HB3.out H34.out HB5.out HB6.out)
      clear r0 r1 r2
      go_wp2
      go_ret
      exact ⟨by simp, HALL.out⟩
end Go.Proofs.Qxb6619257a.Base
