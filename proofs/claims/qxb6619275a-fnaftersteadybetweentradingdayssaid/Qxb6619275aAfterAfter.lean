/- The contracts of (Calendar).After, calendarOf, isNthAfter. -/
import Derived.Test.Qxb6619275aAfterSearch
namespace Go.Proofs.Qxb6619275a.AfterWalk
open Go.RowKit Go.Proofs.Qxb6619275a.AfterPlain

/-- A calendar in memory: block g holds the slice, block r its n days. -/
structure Cal (w : World) (g r n : Nat) (D : Nat → Int) : Prop where
  head : w.cell? ⟨g, 0, none⟩ = some (.slice (some ⟨r, 0, none⟩) n n)
  days : ∀ j, j < n → w.cell? ⟨r, j, none⟩ = some (.int .i32 (D j))

theorem cut_same {D : Nat → Int} {n : Nat} {d : Int} {c f : Nat} (h : Cut D n d c) (k : Cut D n d f) : c = f :=
  Nat.le_antisymm (h.mono k (Int.le_refl _)) (k.mono h (Int.le_refl _))

set_option maxHeartbeats 800000 in
theorem after_any (g r n : Nat) (D : Nat → Int) (d m : Int) (c : Nat) (w : World) (hn : n ≤ 65536) (hcal : Cal w g r n D) (hasc : Asc D n) (hcut : Cut D n d c) (hm1 : 1 ≤ m) (hm2 : m + (n : Int) ≤ 9223372036854775807) :
    Calls Try.prog 19 #[.pointer (some ⟨g, 0, none⟩), .int .i32 d, .int .i64 m] w fun e w' => e = .returned (.tuple #[.int .i32 (aft D n c m), .bool (aok n c m)]) ∧ w' = w := by
  have cs := search_any r 0 n n D d w hn (fun j hj => by rw [Nat.zero_add]; exact hcal.days j hj) hasc
  have hh := hcal.head
  have HC := hide hcal
  have HK := hide hcut
  clear hcal hcut hasc
  go_enter Try.func19, Try.ntmps19
  go_wp2_with fail
  refine cs.mono ?_
  rintro e w' ⟨lo, f, hlo, rfl, hc2, rfl⟩
  obtain rfl := cut_same HK.out hc2
  clear cs hc2
  cases f with
  | false =>
    by_cases hq : (lo : Int) + m ≤ n
    · have c1 := HC.out.days (lo + m.toNat - 1) (by omega)
      have e1 : ((lo : Int) + (m - 1)).toNat = lo + m.toNat - 1 := by omega
      have hi : (lo : Int) + (m - 1) < n := by omega
      go_wp2
      go_ret2
      exact ⟨ret_pair (by rw [aft_yes (by simpa using hq)]; rfl) (by rw [aok_yes (by simpa using hq)]), rfl⟩
    · have hi : ¬ (lo : Int) + (m - 1) < n := by omega
      go_wp2
      go_ret2
      exact ⟨ret_pair (by rw [aft_no (by simpa using hq)]) (by rw [aok_no (by simpa using hq)]), rfl⟩
  | true =>
    by_cases hq : (lo : Int) + 1 + m ≤ n
    · have c1 := HC.out.days (lo + m.toNat) (by omega)
      have e1 : ((lo : Int) + 1 + (m - 1)).toNat = lo + m.toNat := by omega
      have E2 : Hid (lo + 1 + m.toNat - 1 = lo + m.toNat) := by show lo + 1 + m.toNat - 1 = lo + m.toNat; omega
      have hi : (lo : Int) + 1 + (m - 1) < n := by omega
      go_wp2
      go_ret2
      exact ⟨ret_pair (by rw [aft_yes (by simpa using hq)]; show _ = D (lo + 1 + m.toNat - 1); rw [E2.out]) (by rw [aok_yes (by simpa using hq)]), rfl⟩
    · have hi : ¬ (lo : Int) + 1 + (m - 1) < n := by omega
      go_wp2
      go_ret2
      exact ⟨ret_pair (by rw [aft_no (by simpa using hq)]) (by rw [aok_no (by simpa using hq)]), rfl⟩

/-! calendarOf -/
theorem Try.info35 : (Try.prog.info? 35).map (fun i => (i.zero, i.size, i.bytes)) = some (some (.int .i32 0), 1, 4) := by kernel_rfl

/-- A row of n cells that is being filled: the first k hold f, the others z. -/
def fillL (n : Nat) (f : Nat → Value) (z : Value) (k : Nat) : List Value := (List.range n).map fun j => if j < k then f j else z
theorem fillL_zero (n : Nat) (f : Nat → Value) (z : Value) : fillL n f z 0 = List.replicate n z := by
  apply List.ext_getElem
  · simp [fillL]
  · intro j h1 h2; simp [fillL]
theorem fillL_get {n : Nat} {f : Nat → Value} {z : Value} {k j : Nat} (h : j < n) : (fillL n f z k)[j]? = some (if j < k then f j else z) := by
  simp [fillL, h]
theorem fillL_set {n : Nat} {f : Nat → Value} {z : Value} {k : Nat} (h : k < n) : (fillL n f z k).set k (f k) = fillL n f z (k + 1) := by
  apply List.ext_getElem?
  intro j
  by_cases hj : j < n
  · rw [List.getElem?_set, fillL_get hj, fillL_get hj]
    by_cases e : k = j
    · subst e; simp [fillL, h]
    · rw [if_neg e]
      by_cases h1 : j < k
      · rw [if_pos h1, if_pos (by omega)]
      · rw [if_neg h1, if_neg (by omega)]
  · rw [List.getElem?_eq_none (by simp [fillL]; omega), List.getElem?_eq_none (by simp [fillL]; omega)]

/-- The loop's relation: block B is the row, filled up to k; below B nothing has turned. -/
structure Fill (w wr : World) (t : TypeId) (n : Nat) (f : Nat → Value) (z : Value) (k : Nat) : Prop where
  row : wr.ownsRow w.heap.size t 1 (.slice (some ⟨w.heap.size, 0, none⟩) n n) n (fillL n f z k)
  below : Below w.heap.size w wr

theorem Fill.step {w wr : World} {t : TypeId} {n : Nat} {f : Nat → Value} {z : Value} {k : Nat} (h : Fill w wr t n f z k) (hk : k < n) : Fill w (wr.setCell ⟨w.heap.size, k, none⟩ (f k)) t n f z (k + 1) where
  row := by have := (h.row.stored k (f k)).1; rwa [fillL_set hk] at this
  below := h.below.setCell (Nat.le_refl _) _
theorem Fill.cell {w wr : World} {t : TypeId} {n : Nat} {f : Nat → Value} {z : Value} {k : Nat} (h : Fill w wr t n f z k) (j : Nat) (hj : j < n) : wr.cell? ⟨w.heap.size, j, none⟩ = some (if j < k then f j else z) := by
  rw [h.row.cellAt j (by omega), fillL_get hj]
theorem Fill.free {w wr : World} {t : TypeId} {n : Nat} {f : Nat → Value} {z : Value} {k : Nat} (h : Fill w wr t n f z k) (j : Nat) : wr.frozen? ⟨w.heap.size, j, none⟩ = false := h.row.frozenAt j
theorem Fill.size {w wr : World} {t : TypeId} {n : Nat} {f : Nat → Value} {z : Value} {k : Nat} (h : Fill w wr t n f z k) : w.heap.size < wr.heap.size := (h.row.lt _ rfl).2

theorem cal_of_fill {w wr : World} {n : Nat} {D : Nat → Int} {u : TypeId} (h : Fill w wr 35 n (fun j => .int .i32 (D j)) (.int .i32 0) n) :
    Cal (wr.alloc (.cells #[.slice (some ⟨w.heap.size, 0, none⟩) n n] u)) wr.heap.size w.heap.size n D ∧ Below w.heap.size w (wr.alloc (.cells #[.slice (some ⟨w.heap.size, 0, none⟩) n n] u)) := by
  have hs := h.size
  refine ⟨⟨?_, fun j hj => ?_⟩, h.below.alloc (by omega) _⟩
  · rw [World.cell?_alloc_new]; rfl
  · rw [World.cell?_alloc_past _ _ _ hs, h.cell j hj, if_pos hj]

set_option maxHeartbeats 800000 in
theorem calendar_any (a : Option Addr) (n cap : Nat) (D : Nat → Int) (w : World) (hn : n ≤ 65536) (hrow : Row w a n D) (hlow : ∀ b off, a = some ⟨b, off, none⟩ → 0 < n → b < w.heap.size) :
    Calls Try.prog 18 #[.slice a n cap] w fun e w' => ∃ g r, e = .returned (.pointer (some ⟨g, 0, none⟩)) ∧ Cal w' g r n D ∧ Below w.heap.size w w' := by
  obtain ⟨i0, hi, hz0, hz1, hz2⟩ := info_parts Try.info35
  have HR := hide hrow
  have HL := hide hlow
  clear hrow hlow
  go_enter Try.func18, Try.ntmps18
  go_wp2_with (at_make; refine wpList_make_full _ rfl _ _ 41 rfl w.heap.size 35 i0 (.int .i32 0) 1 Try.underlying41 hi hz0 hz1 _ _ _ _ n rfl rfl rfl rfl ?c1 ?c2 (Nat.le_refl _) ?_)
  case c1 => rw [hz2]; omega
  case c2 => unfold maxLen; omega
  intro w1 hown hgrow
  have hf : Fill w w1 35 n (fun j => .int .i32 (D j)) (.int .i32 0) 0 := by
    refine ⟨?_, (Below.refl _ _).grown hgrow (Nat.le_refl _) (fun k hk => by cases hk)⟩
    rw [fillL_zero, ← toList_madeCells_one]
    exact hown
  clear hown hgrow hi hz0 hz1 hz2
  have HF := hide hf
  clear hf
  go_wp2
  go_loopw [4] (fun i wr => ∃ k : Nat, k ≤ n ∧ i = .int .i64 k ∧ Fill w wr 35 n (fun j => .int .i32 (D j)) (.int .i32 0) k) (fun i _ => n - (intOf i).toNat)
  case atStart => exact ⟨0, by omega, rfl, HF.out⟩
  case round =>
    obtain ⟨k, hk, rfl, hf⟩ := hrel
    by_cases hlt : k < n
    · rcases HR.out with h0 | ⟨b, off, rfl, hc⟩
      · omega
      have hb : b < w.heap.size := HL.out b off rfl (by omega)
      have c1 : wr.cell? ⟨b, off + k, none⟩ = some (.int .i32 (D k)) := (hf.below.cell (p := ⟨b, off + k, none⟩) hb).trans (hc k hlt)
      have c2 : wr.cell? ⟨w.heap.size, k, none⟩ = some (.int .i32 0) := by rw [hf.cell k hlt, if_neg (by omega)]
      have f2 := hf.free k
      have hi : (k : Int) < (n : Int) := by omega
      have HN := hide (hf.step hlt)
      clear hf hc HF HR HL
      go_wp2
      go_roundw
      case rel => exact ⟨k + 1, by omega, by go_num, HN.out⟩
      case measure => simp [intOf]; omega
    · have e : k = n := by omega
      subst e
      have HN := hide hf
      clear hf HF HR HL
      go_wp2
      go_ret
      obtain ⟨h1, h2⟩ := cal_of_fill (u := 45) HN.out
      exact ⟨_, _, rfl, h1, h2⟩
end Go.Proofs.Qxb6619275a.AfterWalk
