/- The contracts of cloneStrings, ForEach, Len, ZZKeys, ZZKind, ZZCount. -/
import Derived.Test.Qxb6619257aBase
namespace Go.Proofs.Qxb6619257a.Base
open Go.RowKit Go.Proofs.Qxb6619257a.Plain Go.Proofs.Qxb6619257a.Lib

/-- A row of n cells that is being filled: the first k hold f, the others z. -/
def fillL (n : Nat) (f : Nat → Value) (z : Value) (k : Nat) : List Value := (List.range n).map fun j => if j < k then f j else z
theorem fillL_zero (n : Nat) (f : Nat → Value) (z : Value) : fillL n f z 0 = List.replicate n z := by
  apply List.ext_getElem
  · simp [fillL]
  · intro j h1 h2; simp [fillL]
theorem fillL_get {n : Nat} {f : Nat → Value} {z : Value} {k j : Nat} (h : j < n) : (fillL n f z k)[j]? = some (if j < k then f j else z) := by
  simp [fillL, h]
theorem fillL_set {n : Nat} {f : Nat → Value} {z : Value} {k : Nat} (h : k < n) : (fillL n f z k).set k (f k) = fillL n f z (k + 1) := by
  apply List.ext_getElem?
  intro j
  by_cases hj : j < n
  · rw [List.getElem?_set, fillL_get hj, fillL_get hj]
    by_cases e : k = j
    · subst e; simp [fillL, h]
    · rw [if_neg e]
      by_cases h1 : j < k
      · rw [if_pos h1, if_pos (by omega)]
      · rw [if_neg h1, if_neg (by omega)]
  · rw [List.getElem?_eq_none (by simp [fillL]; omega), List.getElem?_eq_none (by simp [fillL]; omega)]

/-- The loop's relation: block B is the row, filled up to k; below B nothing has turned. -/
structure Fill (w wr : World) (t : TypeId) (n : Nat) (f : Nat → Value) (z : Value) (k : Nat) : Prop where
  row : wr.ownsRow w.heap.size t 1 (.slice (some ⟨w.heap.size, 0, none⟩) n n) n (fillL n f z k)
  below : Below w.heap.size w wr

theorem Fill.step {w wr : World} {t : TypeId} {n : Nat} {f : Nat → Value} {z : Value} {k : Nat} (h : Fill w wr t n f z k) (hk : k < n) : Fill w (wr.setCell ⟨w.heap.size, k, none⟩ (f k)) t n f z (k + 1) where
  row := by have := (h.row.stored k (f k)).1; rwa [fillL_set hk] at this
  below := h.below.setCell (Nat.le_refl _) _
theorem Fill.cell {w wr : World} {t : TypeId} {n : Nat} {f : Nat → Value} {z : Value} {k : Nat} (h : Fill w wr t n f z k) (j : Nat) (hj : j < n) : wr.cell? ⟨w.heap.size, j, none⟩ = some (if j < k then f j else z) := by
  rw [h.row.cellAt j (by omega), fillL_get hj]
theorem Fill.free {w wr : World} {t : TypeId} {n : Nat} {f : Nat → Value} {z : Value} {k : Nat} (h : Fill w wr t n f z k) (j : Nat) : wr.frozen? ⟨w.heap.size, j, none⟩ = false := h.row.frozenAt j
theorem Fill.size {w wr : World} {t : TypeId} {n : Nat} {f : Nat → Value} {z : Value} {k : Nat} (h : Fill w wr t n f z k) : w.heap.size < wr.heap.size := (h.row.lt _ rfl).2

theorem Try.info9 : (Try.prog.info? 9).map (fun i => (i.zero, i.size, i.bytes)) = some (some (.string ⟨#[]⟩), 1, 16) := by kernel_rfl

/-- What cloneStrings leaves: a slice of the same strings in memory of the call's own. -/
def Cloned (n : Nat) (E : Nat → ByteArray) (w : World) (e : Ending) (w' : World) : Prop :=
  ∃ a, e = .returned (.slice a n n) ∧ KRow w' a n E ∧ Below w.heap.size w w'

set_option maxHeartbeats 800000 in
theorem cloneStrings_any (a : Option Addr) (n cap : Nat) (E : Nat → ByteArray) (w : World) (hn : n ≤ 65536) (hrow : KRow w a n E) :
    Calls Try.prog 9 #[.slice a n cap] w (Cloned n E w) := by
  obtain ⟨i0, hi, hz0, hz1, hz2⟩ := info_parts Try.info9
  have q22 : ∀ (w : World) (a : Option Addr) (n c n' c' : Nat), (binOp .eql 22 (.slice a n c) (.slice none n' c')).run Try.prog w = .ok (.bool a.isNone) w := fun w a n c n' c' => Go.Lib.run_eql_slice_nil w _ _ a n c n' c' Try.underlying22
  have HR := hide hrow
  cases a with
  | none =>
    obtain rfl := hrow.nil rfl
    clear hrow HR hi hz0 hz1 hz2
    go_enter Try.func9, Try.ntmps9
    go_wp2
    go_ret
    exact ⟨none, rfl, ⟨fun _ => rfl, fun h => absurd h (Nat.lt_irrefl 0)⟩, Below.refl _ _⟩
  | some x =>
    clear hrow
    go_enter Try.func9, Try.ntmps9
    go_wp2_with (at_make; refine wpList_make_full _ rfl _ _ 22 rfl w.heap.size 9 i0 (.string ⟨#[]⟩) 1 Try.underlying22 hi hz0 hz1 _ _ _ _ n rfl rfl rfl rfl ?c1 ?c2 (Nat.le_refl _) ?_)
    case c1 => rw [hz2]; omega
    case c2 => unfold maxLen; omega
    intro w1 hown hgrow
    have hf : Fill w w1 9 n (fun j => .string (E j)) (.string ⟨#[]⟩) 0 := by
      refine ⟨?_, (Below.refl _ _).grown hgrow (Nat.le_refl _) (fun k hk => by cases hk)⟩
      rw [fillL_zero, ← toList_madeCells_one]
      exact hown
    clear hown hgrow hi hz0 hz1 hz2 q22
    have HF := hide hf
    clear hf
    go_wp2
    go_loopw [4] (fun i wr => ∃ k : Nat, k ≤ n ∧ i = .int .i64 k ∧ Fill w wr 9 n (fun j => .string (E j)) (.string ⟨#[]⟩) k) (fun i _ => n - (intOf i).toNat)
    case atStart => exact ⟨0, by omega, rfl, HF.out⟩
    case round =>
      obtain ⟨k, hk, rfl, hf⟩ := hrel
      by_cases hlt : k < n
      · obtain ⟨b, off, hx, hb, hc⟩ := HR.out.at' (by omega)
        injection hx with hx
        subst hx
        have c1 : wr.cell? ⟨b, off + k, none⟩ = some (.string (E k)) := (hf.below.cell (p := ⟨b, off + k, none⟩) hb).trans (hc k hlt)
        have c2 : wr.cell? ⟨w.heap.size, k, none⟩ = some (.string ⟨#[]⟩) := by rw [hf.cell k hlt, if_neg (by omega)]
        have f2 := hf.free k
        have hi : (k : Int) < (n : Int) := by omega
        have HN := hide (hf.step hlt)
        clear hf hc HF HR
        go_wp2
        go_roundw
        case rel => exact ⟨k + 1, by omega, by go_num, HN.out⟩
        case measure => simp [intOf]; omega
      · have e : k = n := by omega
        subst e
        have HN := hide hf
        clear hf HF HR
        go_wp2
        go_ret
        refine ⟨some ⟨w.heap.size, 0, none⟩, rfl, ⟨(fun h => by cases h), fun _ => ⟨w.heap.size, 0, rfl, HN.out.size, fun j hj => ?_⟩⟩, HN.out.below⟩
        rw [Nat.zero_add, HN.out.cell j hj, if_pos hj]

/-- What ForEach leaves: kind 2, count 0, and a slice of the distinct keys, sorted. -/
def Held (n : Nat) (E : Nat → ByteArray) (w : World) (e : Ending) (w' : World) : Prop :=
  ∃ a c, e = .returned (.agg #[.int .i64 2, .int .i64 0, .slice a (S (L E n)).length c]) ∧ KRow w' a (S (L E n)).length (fun j => ⟨((S (L E n)).getD j []).toArray⟩) ∧ Below w.heap.size w w'

set_option maxHeartbeats 800000 in
theorem forEach_any (a : Option Addr) (n cap : Nat) (E : Nat → ByteArray) (w : World) (hn : n ≤ 65537) (hrow : KRow w a n E) :
    Calls Try.prog 10 #[.slice a n cap] w (Held n E w) := by
  have HR := hide hrow
  clear hrow
  go_enter Try.func10, Try.ntmps10
  go_wp2_with fail
  refine (clone_any a n cap E _ (HR.out.below (B := w.heap.size) ((Below.refl _ w).alloc (Nat.le_refl _) _) (Nat.le_refl _)) hn).mono ?_
  rintro e w2 ⟨v, rfl, hown2, hb2⟩
  rw [World.size_alloc] at hown2 hb2
  have hs2 : w.heap.size + 1 ≤ w2.heap.size := by have := hb2.size; rwa [World.size_alloc] at this
  have hl : (L E n).length ≤ 65537 := by rw [L_length]; exact hn
  have CS := hide (sort_any v (L E n) (w.heap.size + 1) w2 hown2 hs2 hl)
  clear hown2
  go_wp2_with fail
  refine CS.out.mono ?_
  rintro e w3 ⟨rfl, hown3, hb3⟩
  have CC := hide (compact_any v _ (w.heap.size + 1) w3 hown3 (by rw [List.length_mergeSort]; exact hl))
  clear hown3 CS
  have HB3 := hide (hb2.trans hb3)
  clear hb2 hb3
  go_wp2_with fail
  refine CC.out.mono ?_
  rintro e w4 ⟨v4, rfl, hown4, hb4⟩
  have hb := HB3.out.trans hb4
  clear CC HB3 hb4
  have r0 : w4.cell? ⟨w.heap.size, 0, none⟩ = some (.int .i64 0) := by rw [hb.cell (p := ⟨w.heap.size, 0, none⟩) (by show w.heap.size < _; omega), World.cell?_alloc_new]; rfl
  have r1 : w4.cell? ⟨w.heap.size, 1, none⟩ = some (.int .i64 0) := by rw [hb.cell (p := ⟨w.heap.size, 1, none⟩) (by show w.heap.size < _; omega), World.cell?_alloc_new]; rfl
  have r2 : w4.cell? ⟨w.heap.size, 2, none⟩ = some (.slice none 0 0) := by rw [hb.cell (p := ⟨w.heap.size, 2, none⟩) (by show w.heap.size < _; omega), World.cell?_alloc_new]; rfl
  have f : ∀ j, w4.frozen? ⟨w.heap.size, j, none⟩ = false := fun j => by rw [hb.frozen (p := ⟨w.heap.size, j, none⟩) (by show w.heap.size < _; omega), World.frozen?_alloc_at _ _ _ _ rfl]
  have f0 := f 0
  have f1 := f 1
  have f2 := f 2
  clear f
  obtain ⟨a', c', rfl, hk⟩ := hown4.row
  have HB := hide hb
  have HO := hide hown4
  clear hb hk hown4
  generalize hz : Go.Lib.compact ((L E n).mergeSort fun x y => decide (x ≤ y)) = Z at HO
  go_wp2
  have hZ : S (L E n) = Z := hz
  refine bodyPost_ret (v := .agg #[.int .i64 2, .int .i64 0, .slice a' Z.length c']) (by simp [results, Try.results10, go_sem, r0, r1, r2]) rfl ?_
  unfold Held
  rw [hZ]
  refine ⟨a', c', rfl, ?_, ?_⟩
  · have h5 := ownsRow_setCell_below (ownsRow_setCell_below (ownsRow_setCell_below HO.out (a := ⟨w.heap.size, 0, none⟩) (Nat.lt_succ_self _) (.int .i64 2)) (a := ⟨w.heap.size, 1, none⟩) (Nat.lt_succ_self _) (.int .i64 0)) (a := ⟨w.heap.size, 2, none⟩) (Nat.lt_succ_self _) (.slice a' Z.length c')
    obtain ⟨a6, c6, e6, h6⟩ := Own.row h5
    injection e6 with e6 _ _
    subst e6
    exact h6
  · refine Below.setCell (Below.setCell (Below.setCell (((Below.refl _ w).alloc (Nat.le_refl _) _).trans (HB.out.mono (Nat.le_succ _))) ?_ _) ?_ _) ?_ _ <;> exact Nat.le_refl _

/-- A repetition that ForEach has made. -/
abbrev rep (a : Option Addr) (m c : Nat) : Value := .agg #[.int .i64 2, .int .i64 0, .slice a m c]

set_option maxHeartbeats 800000 in
theorem len_any (a : Option Addr) (m c : Nat) (w : World) :
    Calls Try.prog 18 #[rep a m c] w fun e w' => e = .returned (.int .i64 m) ∧ Below w.heap.size w w' := by
  go_enter Try.func18, Try.ntmps18
  go_wp2
  go_ret
  exact ⟨rfl, (Below.refl _ _).alloc (Nat.le_refl _) _⟩
set_option maxHeartbeats 800000 in
theorem zzKeys_any (a : Option Addr) (m c : Nat) (w : World) :
    Calls Try.prog 11 #[rep a m c] w fun e w' => e = .returned (.slice a m c) ∧ Below w.heap.size w w' := by
  go_enter Try.func11, Try.ntmps11
  go_wp2
  go_ret
  exact ⟨rfl, (Below.refl _ _).alloc (Nat.le_refl _) _⟩
set_option maxHeartbeats 800000 in
theorem zzKind_any (a : Option Addr) (m c : Nat) (w : World) :
    Calls Try.prog 12 #[rep a m c] w fun e w' => e = .returned (.int .i64 2) ∧ Below w.heap.size w w' := by
  go_enter Try.func12, Try.ntmps12
  go_wp2
  go_ret
  exact ⟨rfl, (Below.refl _ _).alloc (Nat.le_refl _) _⟩
set_option maxHeartbeats 800000 in
theorem zzCount_any (a : Option Addr) (m c : Nat) (w : World) :
    Calls Try.prog 13 #[rep a m c] w fun e w' => e = .returned (.int .i64 0) ∧ Below w.heap.size w w' := by
  go_enter Try.func13, Try.ntmps13
  go_wp2
  go_ret
  exact ⟨rfl, (Below.refl _ _).alloc (Nat.le_refl _) _⟩
end Go.Proofs.Qxb6619257a.Base
