/-
  THE WALK of zzDecB1Itoa (19).
-/
import Derived.Test.Qxb6606095aDoorWalkA
import Derived.Lib.ItoaNum
import Derived.Lib.ItoaMem
import Derived.Laws.IdiomStrings
import Derived.Laws.CopyOwn
namespace Go.Proofs.Qxb6606095aDoor
open Go.ChangeShapes Go.WideShapes Go.ChangeAt Go.RowKit
set_option linter.unusedVariables false

/-- the digit at place t from the right -/
def dgN (u t : Nat) : Int := ((48 + u / 10 ^ t % 10 : Nat) : Int)

/-- the array behind m rounds: its last m cells hold u's last m digits -/
def DigRow (u m : Nat) (w wr : World) : Prop :=
  Below w.heap.size w wr ∧ ∃ cs : Array Value, wr.heap[w.heap.size]? = some (.cells cs 46 (0, 0)) ∧ cs.size = 24 ∧ ∀ t, t < m → cs[23 - t]? = some (.int .u8 (dgN u t))

theorem DigRow.there {u m : Nat} {w wr : World} (h : DigRow u m w wr) (j : Nat) (hj : j < 24) : ∃ v, wr.cell? ⟨w.heap.size, j, none⟩ = some v := by
  obtain ⟨_, cs, h1, h2, h3⟩ := h
  refine ⟨cs[j], ?_⟩
  simp only [World.cell?, h1]
  simp [h2, hj]
theorem DigRow.free {u m : Nat} {w wr : World} (h : DigRow u m w wr) (j : Nat) : wr.frozen? ⟨w.heap.size, j, none⟩ = false := by
  obtain ⟨_, cs, h1, h2, h3⟩ := h
  simp [World.frozen?, h1]
theorem DigRow.cell {u m : Nat} {w wr : World} (h : DigRow u m w wr) (t : Nat) (ht : t < m) : wr.cell? ⟨w.heap.size, 23 - t, none⟩ = some (.int .u8 (dgN u t)) := by
  obtain ⟨_, cs, h1, h2, h3⟩ := h
  simp only [World.cell?, h1]
  simpa using h3 t ht
theorem DigRow.next {u m : Nat} {w wr : World} (h : DigRow u m w wr) (r : Nat) (hr : r = 23 - m) (hm : m < 24) (v : Int) (hv : v = dgN u m) : DigRow u (m + 1) w (wr.setCell ⟨w.heap.size, r, none⟩ (.int .u8 v)) := by
  subst hr
  subst hv
  obtain ⟨hb, cs, h1, h2, h3⟩ := h
  have e := setCell_eq_setRow wr w.heap.size (23 - m) cs 46 (0, 0) (.int .u8 (dgN u m)) h1
  refine ⟨hb.setCell (Nat.le_refl _) _, cs.setIfInBounds (23 - m) (.int .u8 (dgN u m)), ?_, by simpa using h2, ?_⟩
  · rw [e]; exact setRow_heap _ _ _ _ _ _ h1
  · intro t ht
    by_cases htm : t = m
    · subst htm
      have : 23 - t < cs.size := by omega
      simp [this]
    · rw [Array.getElem?_setIfInBounds_ne (by omega)]
      exact h3 t (by omega)

theorem dec_get (u j : Nat) (hj : j < (Lib.decDigits u).length) : (((Lib.decDigits u)[j]).toNat : Int) = dgN u (Lib.nDigits u - 1 - j) := by
  have h := Lib.decDigits_eq u
  have hl := Lib.decDigits_length u
  have : (Lib.decDigits u)[j] = Lib.dg u (Lib.nDigits u - 1 - j) := by
    simp only [h]
    simp
  rw [this]
  unfold Lib.dg dgN
  have hm : u / 10 ^ (Lib.nDigits u - 1 - j) % 10 < 10 := Nat.mod_lt _ (by omega)
  rw [UInt8.toNat_ofNat']
  omega

/-- where the quotient has come to nothing the digits are all there -/
theorem m_is (u m : Nat) (hu : 0 < u) (h0 : u / 10 ^ m = 0) (h1 : ∀ t, t < m → u / 10 ^ t ≠ 0) : Lib.nDigits u = m := by
  have hp : ∀ t, 0 < 10 ^ t := fun t => Nat.pow_pos (by omega)
  have hlt : u < 10 ^ m := by
    rcases Nat.div_eq_zero_iff.1 h0 with h | h
    · have := hp m; omega
    · exact h
  cases m with
  | zero => simp at hlt; omega
  | succ m =>
    refine Lib.nDigits_unique m u ?_ hlt
    have := h1 m (by omega)
    refine Classical.byContradiction fun hc => ?_
    exact this (Nat.div_eq_of_lt (by omega))

theorem div_next (u m q : Nat) (h : q = u / 10 ^ m) : q / 10 = u / 10 ^ (m + 1) := by
  subst h
  rw [Nat.div_div_eq_div_mul, Nat.pow_succ]
theorem dg_next (u m q : Nat) (h : q = u / 10 ^ m) : 48 + ((q : Int) - (q : Int) / 10 * 10) = dgN u m := by
  subst h
  unfold dgN
  omega

theorem arr46 : Tryd.prog.arrayLen 46 = 24 := by kernel_rfl
theorem elem46 : Tryd.prog.elem 46 = 5 := by kernel_rfl
theorem size5 (w : World) : (sizeOf 5).run Tryd.prog w = .ok 1 w := by kernel_rfl
/-- b[i:] of the array -/
theorem slice46 (B r : Nat) (W : World) (hr : r < 24) :
    (Instr.sliceAt 46 (.pointer (some ⟨B, 0, none⟩)) (some (.int .i64 (r : Int))) none none).run Tryd.prog W = .ok (.slice (some ⟨B, r, none⟩) (24 - r) (24 - r)) W := by
  have ht : Tryd.prog.underlying 46 = some (.array (Tryd.prog.arrayLen 46) (Tryd.prog.elem 46)) := by rw [arr46, elem46]; exact Tryd.underlying46
  rw [run_sliceAt_array_l W 46 ⟨B, 0, none⟩ ht .i64 (r : Int) (by omega) (by rw [arr46]; omega), elem46, size5, arr46]
  simp [Result.andThen, slicedAt, add_plain, show ¬ 24 = r from by omega]

/-- string(b[i:]) -/
theorem conv_pos (u m r : Nat) (w W : World) (hrow : DigRow u m w W) (hm : Lib.nDigits u = m) (hr : r + m = 24) :
    (convert 32 9 (.slice (some ⟨w.heap.size, r, none⟩) (24 - r) (24 - r))).run Tryd.prog W = .ok (.string ⟨(Lib.decDigits u).toArray⟩) W := by
  have hl := Lib.decDigits_length u
  have e : 24 - r = (Lib.decDigits u).length := by omega
  rw [e]
  refine run_convert_bytes_back (P := Tryd.prog) W 32 9 5 ⟨w.heap.size, r, none⟩ _ (Lib.decDigits u) Tryd.underlying32 Tryd.underlying5 Tryd.underlying9 ?_
  intro j hj
  rw [add_plain, dec_get u j hj, hm]
  have := hrow.cell (m - 1 - j) (by omega)
  rw [show r + j = 23 - (m - 1 - j) from by omega]
  exact this

theorem DigRow.start (u : Nat) (w : World) : DigRow u 0 w (w.alloc (.cells #[.int .u8 0, .int .u8 0, .int .u8 0, .int .u8 0, .int .u8 0, .int .u8 0, .int .u8 0, .int .u8 0, .int .u8 0, .int .u8 0, .int .u8 0, .int .u8 0, .int .u8 0, .int .u8 0, .int .u8 0, .int .u8 0, .int .u8 0, .int .u8 0, .int .u8 0, .int .u8 0, .int .u8 0, .int .u8 0, .int .u8 0, .int .u8 0] 46)) :=
  ⟨(Below.refl _ _).alloc (Nat.le_refl _) _, _, heap_alloc_new _ _, rfl, fun t ht => absurd ht (Nat.not_lt_zero _)⟩
theorem m_lt (u m q : Nat) (hu : u < 10000000000) (h : q = u / 10 ^ m) (hq : ¬ q = 0) : m < 10 := by
  refine Classical.byContradiction fun hc => hq ?_
  rw [h]
  refine Nat.div_eq_of_lt ?_
  have : 10 ^ 10 ≤ 10 ^ m := Nat.pow_le_pow_right (by omega) (by omega)
  have e : (10 : Nat) ^ 10 = 10000000000 := by decide
  omega
theorem tdiv_neg (q : Nat) : (-(q : Int)).tdiv 10 = -((q : Int) / 10) := by
  rw [Int.neg_tdiv, Int.tdiv_eq_ediv_of_nonneg (by omega)]

theorem m_le (u m : Nat) (hu : u < 10000000000) (h : Lib.nDigits u = m) : m ≤ 10 := by
  refine Classical.byContradiction fun hc => ?_
  have key : ∀ k v, v < 10 ^ (k + 1) → Lib.nDigits v ≤ k + 1 := by
    intro k
    induction k with
    | zero => intro v hv; rw [Lib.nDigits_small (by simpa using hv)]; omega
    | succ k ih =>
      intro v hv
      by_cases hv2 : v < 10
      · rw [Lib.nDigits_small hv2]; omega
      · rw [Lib.nDigits_big hv2]
        have := ih (v / 10) (by rw [Nat.pow_succ] at hv; omega)
        omega
  have := key 9 u (by simpa using hu)
  omega
theorem conv_neg (u m r : Nat) (w W : World) (hrow : DigRow u m w W) (hm : Lib.nDigits u = m) (hr : r + m = 24) (hr1 : 1 ≤ r) :
    (convert 32 9 (.slice (some ⟨w.heap.size, r - 1, none⟩) (24 - (r - 1)) (24 - (r - 1)))).run Tryd.prog (W.setCell ⟨w.heap.size, r - 1, none⟩ (.int .u8 45)) = .ok (.string ⟨(45 :: Lib.decDigits u).toArray⟩) (W.setCell ⟨w.heap.size, r - 1, none⟩ (.int .u8 45)) := by
  have hl := Lib.decDigits_length u
  have e : 24 - (r - 1) = (45 :: Lib.decDigits u).length := by rw [List.length_cons]; omega
  rw [e]
  refine run_convert_bytes_back (P := Tryd.prog) _ 32 9 5 ⟨w.heap.size, r - 1, none⟩ _ (45 :: Lib.decDigits u) Tryd.underlying32 Tryd.underlying5 Tryd.underlying9 ?_
  intro j hj
  rw [add_plain]
  cases j with
  | zero =>
    obtain ⟨v0, hv0⟩ := hrow.there (r - 1) (by omega)
    exact World.cell?_setCell_same _ _ _ hv0
  | succ j =>
    have hj' : j < (Lib.decDigits u).length := by simpa using hj
    rw [World.cell?_setCell_other _ _ _ _ (by intro e; injection e with _ e2 _; omega)]
    rw [show r - 1 + (j + 1) = 23 - (m - 1 - j) from by omega]
    have := hrow.cell (m - 1 - j) (by omega)
    rw [this]
    have h2 := dec_get u j hj'
    rw [hm] at h2
    show some _ = some (Value.int .u8 (((45 :: Lib.decDigits u)[j + 1]).toNat : Int))
    rw [List.getElem_cons_succ, h2]

set_option maxRecDepth 20000 in
set_option maxHeartbeats 1600000 in
theorem zzItoa_pos (u : Nat) (w : World) (hu : 0 < u) (hu2 : u < 10000000000) :
    Calls Tryd.prog 19 #[.int .i64 (u : Int)] w fun e w' => e = .returned (.string ⟨(Lib.decDigits u).toArray⟩) ∧ Below w.heap.size w w' := by
  have hsg : decide ((u : Int) < 0) = false := decide_eq_false (by omega)
  have hnz : ((u : Int) == 0) = false := by simp; omega
  go_enter Tryd.func19, Tryd.ntmps19
  go_wp2
  go_loopw [0, 5] (fun x i wr => ∃ q m r : Nat, r + m ≤ 24 ∧ 24 ≤ r + m ∧ q ≤ u ∧ x = .int .i64 (q : Int) ∧ i = .int .i64 r ∧ DigRow u m w wr ∧ Hid (q = u / 10 ^ m) ∧ Hid (∀ t, t < m → u / 10 ^ t ≠ 0)) (fun x _ _ => (intOf x).natAbs)
  case atStart => exact ⟨u, 0, 24, by omega, by omega, Nat.le_refl _, rfl, rfl, DigRow.start u w, (by show u = u / 10 ^ 0; simp), fun t ht => absurd ht (Nat.not_lt_zero _)⟩
  case round =>
    obtain ⟨q, m, r, hr1, hr2, hqu, rfl, rfl, hrow, HQ, HT⟩ := hrel
    by_cases hq : q = 0
    · have hmm := m_is u m hu (by rw [← HQ.out]; exact hq) HT.out
      subst hq
      have hcv := conv_pos u m r w wr hrow hmm (by omega)
      have hb := hrow.1
      have hm1 : 1 ≤ m := by have := Lib.nDigits_pos u; omega
      have hsl := slice46 w.heap.size r wr (by omega)
      clear hrow HQ HT hmm
      go_wp2
      go_ret
      exact ⟨rfl, hb⟩
    · have hm10 : m < 10 := m_lt u m q hu2 HQ.out hq
      have hr0 : 1 ≤ r := by omega
      obtain ⟨v0, hv0⟩ := hrow.there (r - 1) (by omega)
      have hfr := hrow.free (r - 1)
      have HN := show Hid _ from hrow.next (r - 1) (by omega) (by omega) _ (dg_next u m q HQ.out)
      have HQ2 := show Hid _ from div_next u m q HQ.out
      have HT2 : Hid (∀ t, t < m + 1 → u / 10 ^ t ≠ 0) := by
        intro t ht
        by_cases e : t = m
        · subst e; rw [← HQ.out]; exact hq
        · exact HT.out t (by omega)
      clear HT HQ hrow
      go_wp2
      go_roundw
      case rel => exact ⟨q / 10, m + 1, r - 1, by omega, by omega, by omega, by go_num, by go_num, HN.out, HQ2, HT2⟩
      case measure => simp [intOf]; omega

set_option maxRecDepth 20000 in
set_option maxHeartbeats 1600000 in
theorem zzItoa_neg (u : Nat) (w : World) (hu : 0 < u) (hu2 : u < 10000000000) :
    Calls Tryd.prog 19 #[.int .i64 (-(u : Int))] w fun e w' => e = .returned (.string ⟨(45 :: Lib.decDigits u).toArray⟩) ∧ Below w.heap.size w w' := by
  have hsg : decide (-(u : Int) < 0) = true := decide_eq_true (by omega)
  have hnz : (-(u : Int) == 0) = false := by simp; omega
  go_enter Tryd.func19, Tryd.ntmps19
  go_wp2
  go_loopw [0, 5] (fun x i wr => ∃ q m r : Nat, r + m ≤ 24 ∧ 24 ≤ r + m ∧ q ≤ u ∧ x = .int .i64 (-(q : Int)) ∧ i = .int .i64 r ∧ DigRow u m w wr ∧ Hid (q = u / 10 ^ m) ∧ Hid (∀ t, t < m → u / 10 ^ t ≠ 0)) (fun x _ _ => (intOf x).natAbs)
  case atStart => exact ⟨u, 0, 24, by omega, by omega, Nat.le_refl _, rfl, rfl, DigRow.start u w, (by show u = u / 10 ^ 0; simp), fun t ht => absurd ht (Nat.not_lt_zero _)⟩
  case round =>
    obtain ⟨q, m, r, hr1, hr2, hqu, rfl, rfl, hrow, HQ, HT⟩ := hrel
    by_cases hq : q = 0
    · have hmm := m_is u m hu (by rw [← HQ.out]; exact hq) HT.out
      subst hq
      have hm1 : 1 ≤ m := by have := Lib.nDigits_pos u; omega
      have hmle : m ≤ 10 := m_le u m hu2 hmm
      have hr0 : 1 ≤ r := by omega
      obtain ⟨v0, hv0⟩ := hrow.there (r - 1) (by omega)
      have hfr := hrow.free (r - 1)
      have hcv := conv_neg u m r w wr hrow hmm (by omega) (by omega)
      have hb : Below w.heap.size w (wr.setCell ⟨w.heap.size, r - 1, none⟩ (.int .u8 45)) := hrow.1.setCell (Nat.le_refl _) _
      have hsl : ∀ W, (Instr.sliceAt 46 (.pointer (some ⟨w.heap.size, 0, none⟩)) (some (.int .i64 ((r : Int) - 1))) none none).run Tryd.prog W = .ok (.slice (some ⟨w.heap.size, r - 1, none⟩) (24 - (r - 1)) (24 - (r - 1))) W := fun W => by
        have := slice46 w.heap.size (r - 1) W (by omega)
        rwa [show ((r - 1 : Nat) : Int) = (r : Int) - 1 from by omega] at this
      clear hrow HQ HT hmm
      go_wp2
      go_ret
      exact ⟨rfl, hb⟩
    · have hm10 : m < 10 := m_lt u m q hu2 HQ.out hq
      have hr0 : 1 ≤ r := by omega
      obtain ⟨v0, hv0⟩ := hrow.there (r - 1) (by omega)
      have hfr := hrow.free (r - 1)
      have HR : Hid (DigRow u m w wr) := hrow
      have HG : Hid (48 + ((q : Int) - (q : Int) / 10 * 10) = dgN u m) := dg_next u m q HQ.out
      have HQ2 := show Hid _ from div_next u m q HQ.out
      have HT2 : Hid (∀ t, t < m + 1 → u / 10 ^ t ≠ 0) := by
        intro t ht
        by_cases e : t = m
        · subst e; rw [← HQ.out]; exact hq
        · exact HT.out t (by omega)
      clear HT HQ hrow
      have hq1 : (-(q : Int)).tdiv 10 = -((q : Int) / 10) := tdiv_neg q
      go_wp2
      all_goals
        go_roundw
        case rel => exact ⟨q / 10, m + 1, r - 1, by omega, by omega, by omega, by go_num, by go_num, HR.out.next (r - 1) (by omega) (by omega) _ (by have := HG.out; omega), HQ2, HT2⟩
        case measure => simp [intOf]; omega

end Go.Proofs.Qxb6606095aDoor
