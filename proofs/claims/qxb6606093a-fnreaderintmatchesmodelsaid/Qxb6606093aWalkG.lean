/-
  THE WALK of zzIntModel_jf1 (13).
-/
import Derived.Test.Qxb6606093aWalkF
import Derived.Test.Qxb6606093aPlainC
import Derived.Deep.DeepCutAuto
import Derived.Deep.CutBlock
import Derived.OwnWalk
namespace Go.Proofs.Qxb6606093a
open Go.ChangeShapes Go.WideShapes Go.ChangeAt Go.RowKit
open Num
set_option linter.unusedVariables false

/-- what the model answers -/
def ModelSays (b : Nat → Int) (n k : Nat) (e : Ending) : Prop :=
  (¬ Acc b n ∧ e = .returned (.tuple #[.bool false, .int .i64 0, .int .i64 0])) ∨ (Acc b n ∧ e = .returned (.tuple #[.bool true, .int .i64 (val b k), .int .i64 k]))
theorem says_no {b : Nat → Int} {n k : Nat} (h : ¬ Acc b n) : ModelSays b n k (.returned (.tuple #[.bool false, .int .i64 0, .int .i64 0])) := .inl ⟨h, rfl⟩
theorem says_yes {b : Nat → Int} {n k : Nat} {u : Int} (h : Acc b n) (hu : u = val b k) : ModelSays b n k (.returned (.tuple #[.bool true, .int .i64 u, .int .i64 k])) := by subst hu; exact .inr ⟨h, rfl⟩

theorem mx_index (p : Nat) (hp : p < 19) (wx : World) : (Instr.index 9 (.string ⟨#[57, 50, 50, 51, 51, 55, 50, 48, 51, 54, 56, 53, 52, 55, 55, 53, 56, 48, 55]⟩) (.int .i64 (p : Int))).run Try.prog wx = .ok (.int .u8 (mx p)) wx := by
  have h : p = 0 ∨ p = 1 ∨ p = 2 ∨ p = 3 ∨ p = 4 ∨ p = 5 ∨ p = 6 ∨ p = 7 ∨ p = 8 ∨ p = 9 ∨ p = 10 ∨ p = 11 ∨ p = 12 ∨ p = 13 ∨ p = 14 ∨ p = 15 ∨ p = 16 ∨ p = 17 ∨ p = 18 := by omega
  rcases h with rfl | rfl | rfl | rfl | rfl | rfl | rfl | rfl | rfl | rfl | rfl | rfl | rfl | rfl | rfl | rfl | rfl | rfl | rfl
  all_goals (show _ = _; kernel_rfl)

set_option maxRecDepth 20000 in
set_option maxHeartbeats 4000000 in
theorem intModel_any (b : Nat → Int) (bl off n cap : Nat) (w : World) (hn : n ≤ 1048576) (h0 : 0 < n)
    (hc : ∀ k, k < n → w.cell? ⟨bl, off + k, none⟩ = some (.int .u8 (b k))) :
    Calls Try.prog 13 #[.slice (some ⟨bl, off, none⟩) n cap] w fun e w' => ModelSays b n (dEnd b n 0) e ∧ Below w.heap.size w w' := by
  obtain ⟨k, hk⟩ : ∃ k, k = dEnd b n 0 := ⟨_, rfl⟩
  have hkn : k ≤ n := by rw [hk]; exact (dEnd_le b n 0 (Nat.zero_le _)).2
  have HD : Hid (Digs b k) := by show Digs b k; rw [hk]; exact dEnd_digs b n
  have HST : Hid (k < n → ¬ (48 ≤ b k ∧ b k ≤ 57)) := by show k < n → _; rw [hk]; exact dEnd_stop b n 0
  have HA : Hid (Acc b n ↔ ¬ (k = 0 ∨ (1 < k ∧ b 0 = 48) ∨ (k < n ∧ (b k = 46 ∨ b k = 101 ∨ b k = 69))) ∧ val b k ≤ 9223372036854775807) := by
    show _ ↔ _
    rw [hk]; exact Iff.rfl
  have hc0 : w.cell? ⟨bl, off, none⟩ = some (.int .u8 (b 0)) := by have := hc 0 h0; rwa [Nat.add_zero] at this
  rw [← hk]
  clear hk
  go_enter Try.func13, Try.ntmps13
  go_upto_block 0 with fail
  go_cut [5] (fun i wx => w = wx ∧ i = .int .i64 k)
  case first =>
    go_wp2_with fail
    go_loop [5] (fun i => ∃ t : Nat, t ≤ k ∧ i = .int .i64 t) (fun i => n - (intOf i).toNat)
    case atStart => exact ⟨0, Nat.zero_le _, rfl⟩
    case round =>
      obtain ⟨t, ht, rfl⟩ := hrel
      by_cases hlt : t < k
      · have hct := hc t (by omega)
        have htn : t < n := by omega
        have hd := digB_yes (HD.out t hlt).1 (HD.out t hlt).2
        go_wp2_with (go_at_call 19; refine (isDigit_any _ _).mono ?_; rintro e w' ⟨rfl, rfl⟩)
        go_round
        case rel => exact ⟨t + 1, by omega, by go_num⟩
        case measure => simp [intOf]; omega
      · obtain rfl : t = k := by omega
        by_cases htn : t < n
        · have hct := hc t htn
          have hd := digB_no (HST.out htn)
          go_wp2_with (go_at_call 19; refine (isDigit_any _ _).mono ?_; rintro e w' ⟨rfl, rfl⟩)
          go_meet
          exact ⟨rfl, rfl⟩
        · go_wp2_with fail
          go_meet
          exact ⟨rfl, rfl⟩
  case rest =>
    obtain ⟨hw, rfl⟩ := hcut
    subst hw
    go_step
    go_step
    go_cut [] (fun wx => w = wx ∧ 0 < k)
    case first =>
      by_cases hz : k = 0
      · have HNA : Hid (¬ Acc b n) := by show ¬ _; rw [HA.out]; exact fun h => h.1 (.inl hz)
        clear HA HD HST
        subst hz
        go_wp2_with fail
        go_ret3
        exact ⟨says_no HNA.out, Below.refl _ _⟩
      · have hz1 : ((k : Int) == 0) = false := by simp; omega
        go_wp2_with fail
        go_meet
        exact ⟨rfl, by omega⟩
    case rest =>
      obtain ⟨hw, hk0⟩ := hcut
      subst hw
      go_step
      go_step
      go_cut [] (fun wx => w = wx ∧ Hid (¬ (1 < k ∧ b 0 = 48)))
      case first =>
        by_cases hlead : 1 < k ∧ b 0 = 48
        · have HNA : Hid (¬ Acc b n) := by show ¬ _; rw [HA.out]; exact fun h => h.1 (.inr (.inl hlead))
          obtain ⟨hl1, hl2⟩ := hlead
          go_wp2_with fail
          go_ret3
          exact ⟨says_no HNA.out, Below.refl _ _⟩
        · have HL : Hid (¬ (1 < k ∧ b 0 = 48)) := hlead
          by_cases h1k : 1 < k
          · have h48 : (b 0 == 48) = false := by simp; exact fun h => hlead ⟨h1k, h⟩
            clear hlead
            go_wp2_with fail
            go_meet
            exact ⟨rfl, HL⟩
          · clear hlead
            go_wp2_with fail
            go_meet
            exact ⟨rfl, HL⟩
      case rest =>
        obtain ⟨hw, HL⟩ := hcut
        subst hw
        go_step
        go_step
        go_cut [] (fun wx => w = wx ∧ Hid (¬ (k < n ∧ (b k = 46 ∨ b k = 101 ∨ b k = 69))))
        case first =>
          by_cases hkl : k < n
          · have hck := hc k hkl
            by_cases hdel : b k = 46 ∨ b k = 101 ∨ b k = 69
            · have HNA : Hid (¬ Acc b n) := by show ¬ _; rw [HA.out]; exact fun h => h.1 (.inr (.inr ⟨hkl, hdel⟩))
              rcases hdel with hdel | hdel | hdel
              all_goals
                go_wp2_with fail
                go_ret3
                exact ⟨says_no HNA.out, Below.refl _ _⟩
            · have HE : Hid (¬ (k < n ∧ (b k = 46 ∨ b k = 101 ∨ b k = 69))) := fun h => hdel h.2
              have r46 : (b k == 46) = false := by simp; omega
              have r101 : (b k == 101) = false := by simp; omega
              have r69 : (b k == 69) = false := by simp; omega
              clear hdel
              go_wp2_with fail
              go_meet
              exact ⟨rfl, HE⟩
          · have HE : Hid (¬ (k < n ∧ (b k = 46 ∨ b k = 101 ∨ b k = 69))) := fun h => hkl h.1
            go_wp2_with fail
            go_meet
            exact ⟨rfl, HE⟩
        case rest =>
          obtain ⟨hw, HE⟩ := hcut
          subst hw
          go_step
          go_step
          go_cut [] (fun wx => w = wx ∧ k ≤ 19)
          case first =>
            by_cases h19 : k ≤ 19
            · go_wp2_with fail
              go_meet
              exact ⟨rfl, h19⟩
            · have HNA : Hid (¬ Acc b n) := by
                show ¬ _
                rw [HA.out]
                intro h
                have := long_big b k (by omega) HD.out (fun e => HL.out ⟨by omega, e⟩)
                omega
              go_wp2_with fail
              go_ret3
              exact ⟨says_no HNA.out, Below.refl _ _⟩
          case rest =>
            obtain ⟨hw, h19⟩ := hcut
            subst hw
            go_step
            go_step
            go_cut [] (fun wx => Below w.heap.size w wx ∧ Hid (val b k ≤ 9223372036854775807))
            case first =>
              by_cases hk19 : k = 19
              · have hge : 19 ≤ k := by omega
                have hb19 : ((k : Int) == 19) = true := by simp; omega
                have HK : Hid (k = 19) := hk19
                clear hk19
                go_wp2_with fail
                go_loopw [6] (fun i wr => ∃ p : Nat, p ≤ k ∧ i = .int .i64 p ∧ Below w.heap.size w wr ∧ Hid (∀ t, t < p → b t = mx t)) (fun i _ => 19 - (intOf i).toNat)
                case atStart => exact ⟨0, Nat.zero_le _, rfl, Below.refl _ _, fun t ht => absurd ht (Nat.not_lt_zero _)⟩
                case round =>
                  obtain ⟨p, hp, rfl, hb, HP⟩ := hrel
                  by_cases hlt : p < k
                  · have g1 : wr.cell? ⟨bl, off + p, none⟩ = some (.int .u8 (b p)) := (hb.cell (p := ⟨bl, off + p, none⟩) (World.block_lt_of_cell? _ _ (hc p (by omega)))).trans (hc p (by omega))
                    have hpn : (p : Int) < (n : Int) := by omega
                    have hix : ∀ wx, (Instr.index 9 (.string ⟨#[57, 50, 50, 51, 51, 55, 50, 48, 51, 54, 56, 53, 52, 55, 55, 53, 56, 48, 55]⟩) (.int .i64 (p : Int))).run Try.prog wx = .ok (.int .u8 (mx p)) wx := fun wx => mx_index p (by omega) wx
                    by_cases hl : b p < mx p
                    · have HF : Hid (val b k ≤ 9223372036854775807) := by
                        show _ ≤ _
                        have hd19 : Digs b 19 := by have := HD.out; rwa [HK.out] at this
                        rw [HK.out]
                        exact Int.le_of_lt (lex_lt b p (by omega) hd19 HP.out hl)
                      go_wp2_with fail
                      go_quiet (fail)
                      go_wp2_with fail
                      go_meet
                      exact ⟨below_drewN hb _, HF⟩
                    · by_cases hg : mx p < b p
                      · have HNA : Hid (¬ Acc b n) := by
                          show ¬ _
                          rw [HA.out]
                          intro h
                          have hd19 : Digs b 19 := by have := HD.out; rwa [HK.out] at this
                          have h1 := lex_gt b p (by omega) hd19 HP.out hg
                          have h2 := h.2
                          rw [HK.out] at h2
                          omega
                        go_wp2_with fail
                        go_quiet (fail)
                        go_wp2_with fail
                        go_quiet (fail)
                        go_wp2_with fail
                        go_ret3
                        exact ⟨says_no HNA.out, by first | exact below_drewN hb _ | exact below_drewN (below_drewN hb _) _⟩
                      · have HEQ : Hid (b p = mx p) := by show _ = _; omega
                        go_wp2_with fail
                        go_quiet (fail)
                        go_wp2_with fail
                        go_quiet (fail)
                        go_wp2_with fail
                        go_roundw
                        case rel =>
                          refine ⟨p + 1, by omega, by go_num, by first | exact below_drewN hb _ | exact below_drewN (below_drewN hb _) _, fun t ht => ?_⟩
                          by_cases e : t = p
                          · subst e; exact HEQ.out
                          · exact HP.out t (by omega)
                        case measure => simp [intOf]; omega
                  · obtain rfl : p = k := by omega
                    have HF : Hid (val b p ≤ 9223372036854775807) := by
                      show _ ≤ _
                      have := HP.out
                      rw [HK.out] at this ⊢
                      rw [lex_eq b this]
                      exact Int.le_refl _
                    go_wp2_with fail
                    go_meet
                    exact ⟨hb, HF⟩
              · have hb19 : ((k : Int) == 19) = false := by simp; omega
                have HF : Hid (val b k ≤ 9223372036854775807) := by
                  show _ ≤ _
                  have := short_fits b k (by omega) HD.out
                  omega
                go_wp2_with fail
                go_meet
                exact ⟨Below.refl _ _, HF⟩
            case rest =>
              obtain ⟨hb, HV⟩ := hcut
              have HYA : Hid (Acc b n) := by
                show Acc b n
                rw [HA.out]
                refine ⟨?_, HV.out⟩
                rintro (h | h | h)
                · omega
                · exact HL.out h
                · exact HE.out h
              have hcc : ∀ t, t < n → wc.cell? ⟨bl, off + t, none⟩ = some (.int .u8 (b t)) := fun t ht => (hb.cell (p := ⟨bl, off + t, none⟩) (World.block_lt_of_cell? _ _ (hc t ht))).trans (hc t ht)
              clear hc hc0 HA HL HE HST
              go_wp2
              go_loop [7, 8] (fun u i => ∃ p : Nat, p ≤ k ∧ i = .int .i64 p ∧ u = .int .u64 (val b p)) (fun _ i => 19 - (intOf i).toNat)
              case atStart => exact ⟨0, Nat.zero_le _, rfl, rfl⟩
              case round =>
                obtain ⟨p, hp, rfl, rfl⟩ := hrel
                have hv0 := val_nonneg b p (HD.out.mono hp)
                by_cases hlt : p < k
                · have hcp := hcc p (by omega)
                  have hd := HD.out p hlt
                  have hpn : p < n := by omega
                  have hv1 := val_le19 b (p + 1) (by omega) (HD.out.mono (by omega))
                  have HVV : Hid (val b (p + 1) = val b p * 10 + (b p - 48)) := rfl
                  rw [HVV.out] at hv1
                  go_wp2
                  go_round
                  case rel => exact ⟨p + 1, by omega, by go_num, by rw [HVV.out]⟩
                  case measure => simp [intOf]; omega
                · obtain rfl : p = k := by omega
                  have hV := HV.out
                  go_wp2
                  go_ret3
                  exact ⟨says_yes HYA.out rfl, hb⟩
end Go.Proofs.Qxb6606093a
