/-
  THE WALK of zzDecB1ModelFloatText (13), place by place.
-/
import Derived.Test.Qxb6606095aDoorWalkE
namespace Go.Proofs.Qxb6606095aDoor
open Go.ChangeShapes Go.WideShapes Go.ChangeAt Go.RowKit Go.Sort
set_option linter.unusedVariables false

theorem Tryd.info5 : (Tryd.prog.info? 5).map (fun i => (i.zero, i.size, i.bytes)) = some (some (.int .u8 0), 1, 1) := by kernel_rfl

/-- the digit at the power of ten p, as a byte -/
def dgB (s : ByteArray) (e p : Int) : UInt8 := if e ≤ p ∧ p - e < (s.size : Int) then s.data.toList.getD (((s.size : Int) - 1 - (p - e)).toNat) 0 else 48

theorem byt_list (s : ByteArray) (t : Nat) : byt s t = ((s.data.toList.getD t 0).toNat : Int) := by
  unfold byt
  by_cases h : t < s.size
  · rw [dif_pos h]
    have h' : t < s.data.toList.length := by simpa using h
    rw [List.getD_eq_getElem?_getD, List.getElem?_eq_getElem h']
    rfl
  · rw [dif_neg h]
    have h' : s.data.toList.length ≤ t := by simpa using h
    rw [List.getD_eq_getElem?_getD, List.getElem?_eq_none h']
    rfl
theorem dgAt_B (s : ByteArray) (e p : Int) : dgAt s e p = ((dgB s e p).toNat : Int) := by
  unfold dgAt dgB
  split
  · exact byt_list s _
  · rfl

/-- what the loop has written behind m rounds -/
def outL (s : ByteArray) (e hi : Int) : Nat → List UInt8
  | 0 => []
  | m + 1 => outL s e hi m ++ (if hi - (m : Int) = -1 then [46, dgB s e (hi - m)] else [dgB s e (hi - m)])

theorem outL_len (s : ByteArray) (e hi : Int) (m : Nat) : (outL s e hi m).length ≤ 2 * m := by
  induction m with
  | zero => simp [outL]
  | succ m ih =>
    simp only [outL, List.length_append]
    split <;> simp <;> omega
theorem outL_dot (s : ByteArray) (e hi : Int) (m : Nat) (h : hi - (m : Int) = -1) : outL s e hi (m + 1) = outL s e hi m ++ [46] ++ [dgB s e (hi - m)] := by
  simp only [outL]; rw [if_pos h]; simp
theorem outL_no (s : ByteArray) (e hi : Int) (m : Nat) (h : ¬ hi - (m : Int) = -1) : outL s e hi (m + 1) = outL s e hi m ++ [dgB s e (hi - m)] := by
  simp only [outL]; rw [if_neg h]

theorem outL_pos (s : ByteArray) (e hi : Int) (m : Nat) (h : 1 ≤ m) : 0 < (outL s e hi m).length := by
  obtain ⟨k, rfl⟩ : ∃ k, m = k + 1 := ⟨m - 1, by omega⟩
  simp only [outL, List.length_append]
  split <;> simp <;> omega

theorem one_new (W : World) (c : Int) : ∀ j u, [Value.int .u8 c][j]? = some u → (W.alloc (.cells #[.int .u8 c] 5)).cell? ((⟨W.heap.size, 0, none⟩ : Addr).add j) = some u := by
  intro j u hj
  match j, hj with
  | 0, hj => simp at hj; subst hj; simp [Addr.add]
theorem one_cell (c : Int) : ∀ u ∈ [Value.int .u8 c], u.oneCell' = true := by
  intro u hu; simp at hu; subst hu; rfl

set_option maxRecDepth 20000 in
set_option maxHeartbeats 3200000 in
theorem model_plain (neg : Bool) (s : ByteArray) (e hi lo : Int) (w : World) (hs : s.size ≤ 1048576) (hne : s.toList.isEmpty = false) (h0 : 0 < s.size)
    (hp1 : e ≤ 20) (hp2 : -20 ≤ (s.size : Int) + e)
    (hhi : ((s.size : Int) + e - 1 < 0 → hi = 0) ∧ (¬ (s.size : Int) + e - 1 < 0 → hi = (s.size : Int) + e - 1)) (hlo : (-1 < e → lo = -1) ∧ (¬ -1 < e → lo = e)) :
    Calls Tryd.prog 13 #[.bool neg, .string s, .int .i64 e] w fun x w' => x = .returned (.string (sgnB neg ++ ⟨(outL s e hi (hi - lo + 1).toNat).toArray⟩)) ∧ Below w.heap.size w w' := by
  have hsg := sgnB_size neg
  obtain ⟨ti, hi5, hz0, hz1, hz2⟩ := info_parts Tryd.info5
  have HHI : Hid _ := hhi
  have HLO : Hid _ := hlo
  have hb1 : 0 ≤ hi := by omega
  have hb2 : hi ≤ 1048596 := by omega
  have hb3 : lo ≤ -1 := by omega
  have hb4 : hi - lo ≤ 1048600 := by omega
  obtain ⟨M, hM⟩ : ∃ M : Nat, M = (hi - lo + 1).toNat := ⟨_, rfl⟩
  have hM1 : (M : Int) ≤ hi - lo + 1 := by omega
  have hM2 : hi - lo + 1 ≤ (M : Int) := by omega
  rw [← hM]
  clear hM hhi hlo
  go_enter Tryd.func13, Tryd.ntmps13
  go_upto_if 18 with fail
  go_cut [7] (fun a wx => w = wx ∧ a = .string (sgnB neg))
  case first =>
    cases neg with
    | true =>
      go_wp2_with fail
      go_meet
      exact ⟨rfl, rfl⟩
    | false =>
      go_wp2_with fail
      go_meet
      exact ⟨rfl, rfl⟩
  case rest =>
    obtain ⟨hw, rfl⟩ := hcut
    subst hw
    go_upto_if 25 with fail
    go_cut [10] (fun a wx => w = wx ∧ ∃ pd : Int, pd ≤ 20 ∧ a = .int .i64 pd)
    case first =>
      by_cases q : 0 < e
      all_goals
        go_wp2_with fail
        go_meet
        exact ⟨rfl, _, by omega, rfl⟩
    case rest =>
      obtain ⟨hw, pd, hpd, rfl⟩ := hcut
      subst hw
      go_upto_if 28 with fail
      go_cut [10] (fun a wx => w = wx ∧ ∃ pd : Int, pd ≤ 20 ∧ a = .int .i64 pd)
      case first =>
        by_cases q : (s.size : Int) + e < 0
        all_goals
          go_wp2_with fail
          go_meet
          exact ⟨rfl, _, by omega, rfl⟩
      case rest =>
        obtain ⟨hw, pd2, hpd2, rfl⟩ := hcut
        subst hw
        go_upto_if 53 with fail
        go_cut [12] (fun a wx => w = wx ∧ a = .int .i64 hi)
        case first =>
          by_cases q : (s.size : Int) + e - 1 < 0
          · have HH : Hid (hi = 0) := HHI.out.1 q
            go_wp2_with fail
            go_meet
            exact ⟨rfl, by rw [HH.out]⟩
          · have HH : Hid (hi = (s.size : Int) + e - 1) := HHI.out.2 q
            go_wp2_with fail
            go_meet
            exact ⟨rfl, by rw [HH.out]⟩
        case rest =>
          obtain ⟨hw, rfl⟩ := hcut
          subst hw
          go_upto_if 56 with fail
          go_cut [13] (fun a wx => w = wx ∧ a = .int .i64 lo)
          case first =>
            by_cases q : -1 < e
            · have HH : Hid (lo = -1) := HLO.out.1 q
              go_wp2_with fail
              go_meet
              exact ⟨rfl, by rw [HH.out]⟩
            · have HH : Hid (lo = e) := HLO.out.2 q
              go_wp2_with fail
              go_meet
              exact ⟨rfl, by rw [HH.out]⟩
          case rest =>
            obtain ⟨hw, rfl⟩ := hcut
            subst hw
            clear HHI HLO
            go_wp2_with (at_make; refine wpList_make_own _ rfl (.const (.int .i64 0)) (.tmp 60) 32 rfl w.heap.size 5 ti (.int .u8 0) 1 Tryd.underlying32 hi5 hz0 hz1 _ _ _ (hi - lo + 2).toNat rfl rfl (by omega) (by rw [hz2]; omega) (by unfold maxLen; omega) (Nat.le_refl _) ?_)
            intro w1 hown hgrow
            have hbw : Below w.heap.size w w1 := (Below.refl _ _).grown hgrow (Nat.le_refl _) (by intro k hk; simp at hk)
            have hsz1 := hbw.size
            clear hgrow
            go_wp2
            go_loopw [15, 14] (fun p v wr => ∃ m : Nat, m ≤ M ∧ p = .int .i64 (hi - m) ∧ wr.ownsRow w.heap.size 5 1 v (outL s e hi m).length (Lib.byteCells (outL s e hi m)) ∧ Below w.heap.size w wr) (fun p _ _ => (intOf p - lo + 1).toNat)
            case atStart => exact ⟨0, Nat.zero_le _, by go_num, hown, hbw⟩
            case round =>
              obtain ⟨m, hm, rfl, hown1, hbr⟩ := hrel
              clear hown hbw hsz1
              have hln := outL_len s e hi m
              have hszr := hbr.size
              by_cases hlt : m < M
              · by_cases hdot : hi - (m : Int) = -1
                · have HO := show Hid _ from outL_dot s e hi m hdot
                  have hdb : (hi - (m : Int) == -1) = true := by simpa using hdot
                  clear hdot
                  go_wp2_with (at_builtin; refine wpList_append_own _ rfl (.tmp 70) (.tmp 71) 32 rfl w.heap.size 5 ti (.int .u8 0) 1 1 Tryd.underlying32 hi5 hz0 hz1 hz2 rfl (by decide) _ _ _ rfl (hown1.alloc _) ⟨wr.heap.size, 0, none⟩ 1 1 [.int .u8 46] rfl rfl (one_new _ _) (one_cell _) (by unfold maxLen; omega) (by omega) (by simp; omega) ?_)
                  intro v1 W1 hown2 hg1 _
                  have hbW1 : Below w.heap.size w W1 := (hbr.alloc (by omega) _).grown hg1 (by simp; omega) (fun k hk => by have := (hown1.lt k hk).1; omega)
                  have hszW1 := hbW1.size
                  clear hg1 hown1
                  go_wp2_with fail
                  refine (digitAt_any s e _ _ hs (by omega) (by omega)).mono ?_
                  rintro x w' ⟨rfl, hw⟩
                  subst hw
                  rw [dgAt_B]
                  obtain ⟨d, hd⟩ : ∃ d, d = dgB s e (hi - m) := ⟨_, rfl⟩
                  rw [← hd]
                  have HDD := Lib.hid hd
                  clear hd
                  go_wp2_with (at_builtin; refine wpList_append_own _ rfl (.tmp 73) (.tmp 78) 32 rfl w.heap.size 5 ti (.int .u8 0) 1 1 Tryd.underlying32 hi5 hz0 hz1 hz2 rfl (by decide) _ _ _ rfl (hown2.alloc _) ⟨W1.heap.size, 0, none⟩ 1 1 [.int .u8 (d.toNat : Int)] rfl rfl (one_new _ _) (one_cell _) (by unfold maxLen; omega) (by omega) (by simp; omega) ?_)
                  intro v2 W2 hown3 hg2 _
                  have hbW2 : Below w.heap.size w W2 := (hbW1.alloc (by omega) _).grown hg2 (by simp; omega) (fun k hk => by have := (hown2.lt k hk).1; omega)
                  have HX : Hid (W2.ownsRow w.heap.size 5 1 v2 (outL s e hi (m + 1)).length (Lib.byteCells (outL s e hi (m + 1)))) := by
                    show World.ownsRow _ _ _ _ _ _ _
                    rw [HO.out, ← HDD.out]
                    have e1 : (outL s e hi m ++ [46] ++ [d]).length = (outL s e hi m).length + 1 + 1 := by simp
                    rw [e1]
                    simpa [Lib.byteCells] using hown3
                  clear hown3 hg2 hown2
                  go_wp2
                  go_roundw
                  case rel => exact ⟨m + 1, by omega, by go_num, HX.out, hbW2⟩
                  case measure => simp [intOf]; omega
                · have HO := show Hid _ from outL_no s e hi m hdot
                  have hdb : (hi - (m : Int) == -1) = false := by simpa using hdot
                  clear hdot
                  go_wp2_with fail
                  refine (digitAt_any s e _ _ hs (by omega) (by omega)).mono ?_
                  rintro x w' ⟨rfl, hw⟩
                  subst hw
                  rw [dgAt_B]
                  obtain ⟨d, hd⟩ : ∃ d, d = dgB s e (hi - m) := ⟨_, rfl⟩
                  rw [← hd]
                  have HDD := Lib.hid hd
                  clear hd
                  go_wp2_with (at_builtin; refine wpList_append_own _ rfl (.tmp 73) (.tmp 78) 32 rfl w.heap.size 5 ti (.int .u8 0) 1 1 Tryd.underlying32 hi5 hz0 hz1 hz2 rfl (by decide) _ _ _ rfl (hown1.alloc _) ⟨wr.heap.size, 0, none⟩ 1 1 [.int .u8 (d.toNat : Int)] rfl rfl (one_new _ _) (one_cell _) (by unfold maxLen; omega) (by omega) (by simp; omega) ?_)
                  intro v2 W2 hown3 hg2 _
                  have hbW2 : Below w.heap.size w W2 := (hbr.alloc (by omega) _).grown hg2 (by simp; omega) (fun k hk => by have := (hown1.lt k hk).1; omega)
                  have HX : Hid (W2.ownsRow w.heap.size 5 1 v2 (outL s e hi (m + 1)).length (Lib.byteCells (outL s e hi (m + 1)))) := by
                    show World.ownsRow _ _ _ _ _ _ _
                    rw [HO.out, ← HDD.out]
                    have e1 : (outL s e hi m ++ [d]).length = (outL s e hi m).length + 1 := by simp
                    rw [e1]
                    simpa [Lib.byteCells] using hown3
                  clear hown3 hg2 hown1
                  go_wp2
                  go_roundw
                  case rel => exact ⟨m + 1, by omega, by go_num, HX.out, hbW2⟩
                  case measure => simp [intOf]; omega
              · obtain rfl : m = M := by omega
                obtain ⟨L, hL⟩ : ∃ L, L = outL s e hi m := ⟨_, rfl⟩
                rw [← hL] at hown1 hln
                have HL := Lib.hid hL
                clear hL
                have hpos : 0 < L.length := by rw [HL.out]; exact outL_pos s e hi m (by omega)
                rcases hown1.2 with ⟨-, h00⟩ | ⟨g, cap, cur, rfl, -, -, -, -, -, -⟩
                · omega
                · have hcv := run_convert_bytes_back (P := Tryd.prog) wr 32 9 5 ⟨g, 0, none⟩ cap L Tryd.underlying32 Tryd.underlying5 Tryd.underlying9 (fun j hj => hown1.cells (g := g) rfl j _ (by simp [Lib.byteCells, hj]))
                  have hLs : (⟨L.toArray⟩ : ByteArray).size ≤ 4194304 := by rw [mk_size]; omega
                  obtain ⟨T, hT⟩ : ∃ T : ByteArray, T = ⟨L.toArray⟩ := ⟨_, rfl⟩
                  rw [← hT] at hcv hLs
                  have HT := Lib.hid hT
                  clear hT hown1
                  go_wp2
                  go_ret
                  exact ⟨ret_str (by rw [HT.out, HL.out]), hbr⟩
end Go.Proofs.Qxb6606095aDoor
