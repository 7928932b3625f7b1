/- The contracts of strictlyIncreasing, indexSorted, sameStrings, isExactSetOf, each at what makes it answer well. -/
import Derived.Test.Qxb6619257aForEach
import Derived.Deep.QuietTactic
import Derived.BigQuiet
namespace Go.Proofs.Qxb6619257a.Base
open Go.RowKit Go.Proofs.Qxb6619257a.Plain Go.Proofs.Qxb6619257a.Lib

/-- The first m strings of G ascend strictly. -/
def Inc (G : Nat → ByteArray) (m : Nat) : Prop := ∀ i j, i < j → j < m → (G i).data.toList < (G j).data.toList

theorem Inc.test {G : Nat → ByteArray} {m : Nat} (h : Inc G m) {i j : Nat} (hij : i < j) (hj : j < m) : Op.bytesLess (G i).toList (G j).toList = true := by
  rw [bytesLess_eq, ByteArray.toList_eq, ByteArray.toList_eq]
  exact decide_eq_true (h i j hij hj)

/-- Where k is the string at place p, the halving's test says whether it looks below p. -/
theorem Inc.probe {G : Nat → ByteArray} {m : Nat} (h : Inc G m) {p : Nat} (hp : p < m) {k : ByteArray} (hk : (G p).data.toList = k.data.toList) {j : Nat} (hj : j < m) : Op.bytesLess (G j).toList k.toList = decide (j < p) := by
  rw [bytesLess_eq, ByteArray.toList_eq, ByteArray.toList_eq, ← hk]
  rcases Nat.lt_trichotomy j p with e | e | e
  · rw [decide_eq_true (h j p e hp), decide_eq_true e]
  · rw [e, decide_eq_false (List.lt_irrefl _), decide_eq_false (Nat.lt_irrefl _)]
  · rw [decide_eq_false (fun hl => List.lt_irrefl _ (List.lt_trans hl (h p j e hj))), decide_eq_false (by omega)]

/-- It answers true; the world is as it was, but for draws. -/
def YesDraws (w : World) (e : Ending) (w' : World) : Prop := e = .returned (.bool true) ∧ ∃ q, w' = w.drewN q

set_option maxHeartbeats 800000 in
theorem increasing_any (a : Option Addr) (m cap : Nat) (G : Nat → ByteArray) (w : World) (hm : m ≤ 65537) (hrow : KRow w a m G) (hinc : Inc G m) :
    Calls Try.prog 23 #[.slice a m cap] w (YesDraws w) := by
  have HR := hide hrow
  have HI := hide hinc
  clear hrow hinc
  go_enter Try.func23, Try.ntmps23
  go_wp2
  go_loopw [3] (fun i wr => ∃ k q : Nat, 1 ≤ k ∧ k ≤ m + 1 ∧ i = .int .i64 k ∧ wr = w.drewN q) (fun i _ => m + 1 - (intOf i).toNat)
  case atStart => exact ⟨1, 0, by omega, by omega, rfl, rfl⟩
  case round =>
    obtain ⟨k, q, hk1, hk, rfl, rfl⟩ := hrel
    by_cases hlt : k < m
    · obtain ⟨b, off, rfl, _, hc⟩ := HR.out.at' (by omega)
      have c1 := hc (k - 1) (by omega)
      have c2 := hc k hlt
      have hd : Op.bytesLess (G (k - 1)).toList (G k).toList = true := HI.out.test (by omega) hlt
      clear hc
      have hi : (k : Int) < (m : Int) := by omega
      have hi0 : (0 : Int) ≤ (k : Int) - 1 := by omega
      have e1 : ((k : Int) - 1).toNat = k - 1 := by omega
      generalize G (k - 1) = x at c1 hd
      generalize G k = y at c2 hd
      go_wp2
      go_quiet (fail)
      go_wp2
      go_roundw
      case rel => exact ⟨k + 1, _, by omega, by omega, by go_num, rfl⟩
      case measure => simp [intOf]; omega
    · go_wp2
      go_ret
      exact ⟨rfl, _, rfl⟩

set_option maxHeartbeats 800000 in
theorem index_any (a : Option Addr) (m cap : Nat) (G : Nat → ByteArray) (k : ByteArray) (p : Nat) (w : World) (hm : m ≤ 65537) (hrow : KRow w a m G) (hinc : Inc G m) (hp : p < m) (hk : (G p).data.toList = k.data.toList) :
    Calls Try.prog 24 #[.slice a m cap, .string k] w fun e w' => e = .returned (.int .i64 p) ∧ w' = w := by
  obtain ⟨b, off, rfl, _, hc⟩ := hrow.at' (by omega)
  have HC := hide hc
  have HP := hide (fun j (hj : j < m) => hinc.probe hp hk hj)
  have HE : Hid (((G p).toList == k.toList) = true) := by show _ = true; rw [ByteArray.toList_eq, ByteArray.toList_eq, hk]; simp
  clear hrow hinc hc hk
  go_enter Try.func24, Try.ntmps24
  go_wp2
  go_loop [5, 6] (fun x y => ∃ lo hi : Nat, lo ≤ p ∧ p ≤ hi ∧ hi ≤ m ∧ x = .int .i64 lo ∧ y = .int .i64 hi) (fun x y => (intOf y - intOf x).toNat)
  case atStart => exact ⟨0, m, by omega, by omega, by omega, rfl, rfl⟩
  case round =>
    obtain ⟨lo, hi, hlp, hph, hhm, rfl, rfl⟩ := hrel
    by_cases hlt : lo < hi
    · obtain ⟨mid, hmid⟩ : ∃ mid : Nat, mid = lo + (hi - lo) / 2 := ⟨_, rfl⟩
      have hm1 : lo ≤ mid := by omega
      have hm2 : mid < hi := by omega
      have c1 := HC.out mid (by omega)
      have t1 := HP.out mid (by omega)
      have e1 : (lo : Int) + ((hi : Int) - lo) / 2 = (mid : Int) := by omega
      clear hmid
      generalize G mid = x at c1 t1
      by_cases hmp : mid < p
      · rw [decide_eq_true hmp] at t1
        go_wp2
        go_round
        case rel => exact ⟨mid + 1, hi, by omega, hph, hhm, by go_num, rfl⟩
        case measure => simp [intOf]; omega
      · rw [decide_eq_false hmp] at t1
        go_wp2
        go_round
        case rel => exact ⟨lo, mid, hlp, by omega, by omega, rfl, rfl⟩
        case measure => simp [intOf]; omega
    · have e : lo = p := by omega
      subst e
      have c1 := HC.out lo (by omega)
      have t1 := HE.out
      generalize G lo = x at c1 t1
      have hi1 : (lo : Int) < (m : Int) := by omega
      go_wp2
      go_ret
      exact ⟨rfl, rfl⟩

set_option maxHeartbeats 800000 in
theorem same_any (a b : Option Addr) (m cap cap' : Nat) (G G' : Nat → ByteArray) (w : World) (hm : m ≤ 65537) (hrow : KRow w a m G) (hrow' : KRow w b m G') (heq : ∀ j, j < m → (G j).data.toList = (G' j).data.toList) :
    Calls Try.prog 15 #[.slice a m cap, .slice b m cap'] w (YesDraws w) := by
  have HR := hide hrow
  have HR' := hide hrow'
  have HE : Hid (∀ j, j < m → ((G j).toList == (G' j).toList) = true) := fun j hj => by rw [ByteArray.toList_eq, ByteArray.toList_eq, heq j hj]; simp
  clear hrow hrow' heq
  go_enter Try.func15, Try.ntmps15
  go_wp2
  go_loopw [5] (fun i wr => ∃ k q : Nat, k ≤ m ∧ i = .int .i64 k ∧ wr = w.drewN q) (fun i _ => m - (intOf i).toNat)
  case atStart => exact ⟨0, 0, by omega, rfl, rfl⟩
  case round =>
    obtain ⟨k, q, hk, rfl, rfl⟩ := hrel
    by_cases hlt : k < m
    · obtain ⟨b1, off1, rfl, _, hc1⟩ := HR.out.at' (by omega)
      obtain ⟨b2, off2, rfl, _, hc2⟩ := HR'.out.at' (by omega)
      have c1 := hc1 k hlt
      have c2 := hc2 k hlt
      have hd := HE.out k hlt
      clear hc1 hc2
      have hi : (k : Int) < (m : Int) := by omega
      generalize G k = x at c1 hd
      generalize G' k = y at c2 hd
      go_wp2
      go_quiet (fail)
      go_wp2
      go_roundw
      case rel => exact ⟨k + 1, _, by omega, by go_num, rfl⟩
      case measure => simp [intOf]; omega
    · go_wp2
      go_ret
      exact ⟨rfl, _, rfl⟩

/-- Which places are marked behind t rounds. -/
def marked (idx : Nat → Nat) : Nat → Nat → Bool
  | 0, _ => false
  | t + 1, j => marked idx t j || decide (idx t = j)
theorem marked_true {idx : Nat → Nat} {t j i : Nat} (hi : i < t) (h : idx i = j) : marked idx t j = true := by
  induction t with
  | zero => omega
  | succ t ih =>
    rw [marked, Bool.or_eq_true]
    rcases Nat.lt_or_ge i t with h1 | h1
    · exact .inl (ih h1)
    · have e : i = t := by omega
      exact .inr (decide_eq_true (by rw [← e]; exact h))
def marksL (idx : Nat → Nat) (m t : Nat) : List Value := (List.range m).map fun j => .bool (marked idx t j)
theorem marksL_zero (idx : Nat → Nat) (m : Nat) : marksL idx m 0 = List.replicate m (.bool false) := by
  apply List.ext_getElem
  · simp [marksL]
  · intro j h1 h2; simp [marksL, marked]
theorem marksL_get {idx : Nat → Nat} {m t j : Nat} (h : j < m) : (marksL idx m t)[j]? = some (.bool (marked idx t j)) := by simp [marksL, h]
theorem marksL_set {idx : Nat → Nat} {m t : Nat} : (marksL idx m t).set (idx t) (.bool true) = marksL idx m (t + 1) := by
  apply List.ext_getElem?
  intro j
  by_cases hj : j < m
  · rw [List.getElem?_set, marksL_get hj, marksL_get hj, marked]
    by_cases e : idx t = j
    · rw [if_pos e, if_pos (by simp [marksL]; omega), decide_eq_true e]; simp
    · rw [if_neg e, decide_eq_false e]; simp
  · rw [List.getElem?_eq_none (by simp [marksL]; omega), List.getElem?_eq_none (by simp [marksL]; omega)]

/-- The marks in memory. -/
structure Marks (w wr : World) (idx : Nat → Nat) (m t : Nat) : Prop where
  row : wr.ownsRow w.heap.size 4 1 (.slice (some ⟨w.heap.size, 0, none⟩) m m) m (marksL idx m t)
  below : Below w.heap.size w wr
theorem Marks.step {w wr : World} {idx : Nat → Nat} {m t : Nat} (h : Marks w wr idx m t) : Marks w (wr.setCell ⟨w.heap.size, idx t, none⟩ (.bool true)) idx m (t + 1) where
  row := by have := (h.row.stored (idx t) (.bool true)).1; rwa [marksL_set] at this
  below := h.below.setCell (Nat.le_refl _) _
theorem Marks.cell {w wr : World} {idx : Nat → Nat} {m t : Nat} (h : Marks w wr idx m t) (j : Nat) (hj : j < m) : wr.cell? ⟨w.heap.size, j, none⟩ = some (.bool (marked idx t j)) := by
  rw [h.row.cellAt j (by omega), marksL_get hj]

theorem Try.info4 : (Try.prog.info? 4).map (fun i => (i.zero, i.size, i.bytes)) = some (some (.bool false), 1, 1) := by kernel_rfl
theorem below_drewN0 (w : World) (n : Nat) : Below w.heap.size w (w.drewN n) := ⟨rfl, rfl, rfl, Nat.le_refl _, fun _ _ => rfl⟩

/-- out (G, m) is just the set of keys (E, n): key i stands at place idx i, and every place is some key's. -/
structure Exact (E : Nat → ByteArray) (n : Nat) (G : Nat → ByteArray) (m : Nat) (idx : Nat → Nat) : Prop where
  inc : Inc G m
  lt : ∀ i, i < n → idx i < m
  at' : ∀ i, i < n → (G (idx i)).data.toList = (E i).data.toList
  onto : ∀ j, j < m → ∃ i, i < n ∧ idx i = j

set_option maxHeartbeats 1600000 in
theorem exact_any (a b : Option Addr) (n cap m cap' : Nat) (E G : Nat → ByteArray) (idx : Nat → Nat) (w : World) (hn : n ≤ 65537) (hm : m ≤ 65537) (hrow : KRow w a n E) (hrow' : KRow w b m G) (hex : Exact E n G m idx) :
    Calls Try.prog 14 #[.slice a n cap, .slice b m cap'] w fun e w' => e = .returned (.bool true) ∧ Below w.heap.size w w' := by
  obtain ⟨i0, hi, hz0, hz1, hz2⟩ := info_parts Try.info4
  have HR := hide hrow
  have HR' := hide hrow'
  have HX := hide hex
  clear hrow hrow' hex
  go_enter Try.func14, Try.ntmps14
  go_wp2_with fail
  refine (increasing_any b m cap' G w hm HR'.out HX.out.inc).mono ?_
  rintro e w1 ⟨rfl, q, rfl⟩
  go_wp2_with (at_make; refine wpList_make_full _ rfl _ _ 37 rfl w.heap.size 4 i0 (.bool false) 1 Try.underlying37 hi hz0 hz1 _ _ _ _ m rfl rfl rfl rfl ?c1 ?c2 (Nat.le_refl _) ?_)
  case c1 => rw [hz2]; omega
  case c2 => unfold maxLen; omega
  intro w2 hown hgrow
  have HM : Hid (Marks w w2 idx m 0) := by
    refine ⟨?_, (below_drewN0 w q).grown hgrow (Nat.le_refl _) (fun k hk => by cases hk)⟩
    rw [marksL_zero, ← toList_madeCells_one]
    exact hown
  clear hown hgrow hi hz0 hz1 hz2
  go_wp2
  go_loopw [6] (fun i wr => ∃ t : Nat, t ≤ n ∧ i = .int .i64 t ∧ Marks w wr idx m t) (fun i _ => n - (intOf i).toNat)
  case atStart => exact ⟨0, by omega, rfl, HM.out⟩
  case round =>
    obtain ⟨t, ht, rfl, hmk⟩ := hrel
    by_cases hlt : t < n
    · obtain ⟨b1, off1, rfl, hb1, hc1⟩ := HR.out.at' (by omega)
      have c1 : wr.cell? ⟨b1, off1 + t, none⟩ = some (.string (E t)) := (hmk.below.cell (p := ⟨b1, off1 + t, none⟩) hb1).trans (hc1 t hlt)
      have hit := HX.out.lt t hlt
      have CI := hide (index_any b m cap' G (E t) (idx t) wr hm (HR'.out.below hmk.below (Nat.le_refl _)) HX.out.inc hit (HX.out.at' t hlt))
      have c2 := hmk.cell (idx t) hit
      have f2 : wr.frozen? ⟨w.heap.size, idx t, none⟩ = false := hmk.row.frozenAt (idx t)
      have HN := hide hmk.step
      have hxi : (t : Int) < (n : Int) := by omega
      clear hmk hc1 HM
      generalize marked idx t (idx t) = old at c2
      generalize E t = x at c1 CI
      generalize idx t = p at hit CI c2 f2 HN
      go_wp2_with fail
      refine CI.out.mono ?_
      rintro e w3 ⟨rfl, rfl⟩
      have hip : (p : Int) < (m : Int) := by omega
      go_wp2
      go_roundw
      case rel => exact ⟨t + 1, by omega, by go_num, HN.out⟩
      case measure => simp [intOf]; omega
    · obtain rfl : t = n := by omega
      have HN := hide hmk
      clear hmk HM
      go_wp2
      go_loop [8] (fun i => ∃ j : Nat, j ≤ m ∧ i = .int .i64 j) (fun i => m - (intOf i).toNat)
      case atStart => exact ⟨0, by omega, rfl⟩
      case round =>
        obtain ⟨j, hj, rfl⟩ := hrel
        by_cases hlt2 : j < m
        · have c1 := HN.out.cell j hlt2
          have hy : marked idx t j = true := by
            obtain ⟨i, h1, h2⟩ := HX.out.onto j hlt2
            exact marked_true h1 h2
          rw [hy] at c1
          clear hy
          have hxi : (j : Int) < (m : Int) := by omega
          go_wp2
          go_round
          case rel => exact ⟨j + 1, by omega, by go_num⟩
          case measure => simp [intOf]; omega
        · go_wp2
          go_ret
          exact ⟨rfl, HN.out.below⟩
end Go.Proofs.Qxb6619257a.Base
