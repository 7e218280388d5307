/-
  THE WALK of (*Reader).Int (15).
-/
import Derived.Test.Qxb6606093aWalkA
import Derived.Test.Qxb6606093aPlainC
namespace Go.Proofs.Qxb6606093a
open Go.ChangeShapes Go.WideShapes Go.ChangeAt Go.RowKit
open Num
set_option linter.unusedVariables false

/-- what Int leaves where it accepts k digits: the number behind n, the rest in the Reader -/
def IntDone (b : Nat → Int) (rb nb bl off n k : Nat) (w w' : World) : Prop :=
  ∃ a c, w' = (w.setCell ⟨nb, 0, none⟩ (.int .i64 (val b k))).setCell ⟨rb, 0, none⟩ (.slice a (n - k) c) ∧ (k < n → a = some ⟨bl, off + k, none⟩)
theorem IntDone.inside {b : Nat → Int} {rb nb bl off n k : Nat} (w : World) (c : Nat) : IntDone b rb nb bl off n k w ((w.setCell ⟨nb, 0, none⟩ (.int .i64 (val b k))).setCell ⟨rb, 0, none⟩ (.slice (some ⟨bl, off + k, none⟩) (n - k) c)) :=
  ⟨_, _, rfl, fun _ => rfl⟩
theorem IntDone.atEnd {b : Nat → Int} {rb nb bl off n : Nat} (w : World) (a : Option Addr) (c : Nat) : IntDone b rb nb bl off n n w ((w.setCell ⟨nb, 0, none⟩ (.int .i64 (val b n))).setCell ⟨rb, 0, none⟩ (.slice a 0 c)) :=
  ⟨a, c, by rw [Nat.sub_self], fun h => absurd h (Nat.lt_irrefl _)⟩

set_option maxRecDepth 20000 in
set_option maxHeartbeats 4000000 in
theorem int_any (b : Nat → Int) (rb nb bl off n : Nat) (x : Int) (w : World) (hn : n ≤ 1048576) (h0 : 0 < n)
    (hc : ∀ k, k < n → w.cell? ⟨bl, off + k, none⟩ = some (.int .u8 (b k)))
    (hr : w.cell? ⟨rb, 0, none⟩ = some (.slice (some ⟨bl, off, none⟩) n n)) (hrf : w.frozen? ⟨rb, 0, none⟩ = false)
    (hx : w.cell? ⟨nb, 0, none⟩ = some (.int .i64 x)) (hxf : w.frozen? ⟨nb, 0, none⟩ = false) (hne : rb ≠ nb) :
    Calls Try.prog 15 #[.pointer (some ⟨rb, 0, none⟩), .pointer (some ⟨nb, 0, none⟩)] w fun e w' =>
      (¬ Acc b n ∧ e = .returned (.bool false) ∧ w = w') ∨
      (Acc b n ∧ e = .returned (.bool true) ∧ IntDone b rb nb bl off n (dEnd b n 0) w w') := by
  obtain ⟨k, hk⟩ : ∃ k, k = dEnd b n 0 := ⟨_, rfl⟩
  have hkn : k ≤ n := by rw [hk]; exact (dEnd_le b n 0 (Nat.zero_le _)).2
  have HD : Hid (Digs b k) := by show Digs b k; rw [hk]; exact dEnd_digs b n
  have hst : k < n → ¬ (48 ≤ b k ∧ b k ≤ 57) := by rw [hk]; exact dEnd_stop b n 0
  have HA : Hid (Acc b n ↔ ¬ (k = 0 ∨ (1 < k ∧ b 0 = 48) ∨ (k < n ∧ (b k = 46 ∨ b k = 101 ∨ b k = 69))) ∧ val b k ≤ 9223372036854775807) := by
    show _ ↔ _
    rw [hk]; exact Iff.rfl
  rw [← hk]
  clear hk
  go_enter Try.func15, Try.ntmps15
  go_wp2
  go_loop [5, 6] (fun v i => ∃ t : Nat, t ≤ k ∧ i = .int .i64 t ∧ v = .int .i64 (val b t) ∧ val b t ≤ 9223372036854775807) (fun _ i => n - (intOf i).toNat)
  case atStart => exact ⟨0, Nat.zero_le _, rfl, rfl, by simp [val]⟩
  case round =>
    obtain ⟨t, ht, rfl, rfl, hv⟩ := hrel
    by_cases hlt : t < k
    · have hct := hc t (by omega)
      have htn : t < n := by omega
      have hd := HD.out t hlt
      have hv0 := val_nonneg b t (HD.out.mono (by omega))
      by_cases hov : val b (t + 1) ≤ 9223372036854775807
      · have HV : Hid (val b (t + 1) = val b t * 10 + (b t - 48)) := rfl
        have hov2 : val b t * 10 + (b t - 48) ≤ 9223372036854775807 := by rw [← HV.out]; exact hov
        have hq : val b t ≤ (9223372036854775807 - (b t - 48)) / 10 := by omega
        clear hov
        go_wp2
        go_round
        case rel => exact ⟨t + 1, by omega, by go_num, by rw [HV.out], by rw [HV.out]; exact hov2⟩
        case measure => simp [intOf]; omega
      · have HNA : Hid (¬ Acc b n) := by
          show ¬ _
          rw [HA.out]
          intro h
          obtain ⟨r, rfl⟩ : ∃ r, k = t + 1 + r := ⟨k - (t + 1), by omega⟩
          have := val_mono b (t + 1) r HD.out
          omega
        have hov2 : ¬ val b t * 10 + (b t - 48) ≤ 9223372036854775807 := hov
        have hq : (9223372036854775807 - (b t - 48)) / 10 < val b t := by omega
        clear hov hov2
        go_wp2
        go_ret
        exact .inl ⟨HNA.out, rfl, rfl⟩
    · obtain rfl : t = k := by omega
      have hc0 : w.cell? ⟨bl, off, none⟩ = some (.int .u8 (b 0)) := by have := hc 0 h0; rwa [Nat.add_zero] at this
      have hv0 := val_nonneg b t HD.out
      have HNAof : (t = 0 ∨ (1 < t ∧ b 0 = 48) ∨ (t < n ∧ (b t = 46 ∨ b t = 101 ∨ b t = 69))) → Hid (¬ Acc b n) := fun h => by
        show ¬ _
        rw [HA.out]
        exact fun hh => hh.1 h
      have HYAof : ¬ (t = 0 ∨ (1 < t ∧ b 0 = 48) ∨ (t < n ∧ (b t = 46 ∨ b t = 101 ∨ b t = 69))) → Hid (Acc b n) := fun h => by
        show Acc b n
        rw [HA.out]
        exact ⟨h, hv⟩
      by_cases htn : t < n
      · have hct := hc t htn
        have hst1 := hst htn
        have hbt : b t < 48 ∨ 57 < b t := by omega
        by_cases hz : t = 0
        · have HNA := HNAof (.inl hz)
          clear HNAof HYAof hst HA HD
          subst hz
          rcases hbt with hbt | hbt
          · have hbt' : ¬ 48 ≤ b 0 := by omega
            go_wp2
            go_ret
            exact .inl ⟨HNA.out, rfl, rfl⟩
          · have hbt' : ¬ b 0 ≤ 57 := by omega
            have hbt2 : 48 ≤ b 0 := by omega
            go_wp2
            go_ret
            exact .inl ⟨HNA.out, rfl, rfl⟩
        · have hz1 : ((t : Int) == 0) = false := by simp; omega
          by_cases hlead : 1 < t ∧ b 0 = 48
          · have HNA := HNAof (.inr (.inl hlead))
            obtain ⟨hl1, hl2⟩ := hlead
            clear HNAof HYAof hst HA HD
            rcases hbt with hbt | hbt
            · have hbt' : ¬ 48 ≤ b t := by omega
              go_wp2
              go_ret
              exact .inl ⟨HNA.out, rfl, rfl⟩
            · have hbt' : ¬ b t ≤ 57 := by omega
              have hbt2 : 48 ≤ b t := by omega
              go_wp2
              go_ret
              exact .inl ⟨HNA.out, rfl, rfl⟩
          · by_cases hdel : b t = 46 ∨ b t = 101 ∨ b t = 69
            · have HNA := HNAof (.inr (.inr ⟨htn, hdel⟩))
              clear HNAof HYAof hst HA HD
              by_cases h1t : 1 < t
              · have h48 : (b 0 == 48) = false := by simp; exact fun h => hlead ⟨h1t, h⟩
                clear hlead hbt hst1
                rcases hdel with hdel | hdel | hdel
                all_goals
                  go_wp2
                  go_ret
                  exact .inl ⟨HNA.out, rfl, rfl⟩
              · clear hlead hbt hst1
                rcases hdel with hdel | hdel | hdel
                all_goals
                  go_wp2
                  go_ret
                  exact .inl ⟨HNA.out, rfl, rfl⟩
            · have HYA := HYAof (by omega)
              have r46 : (b t == 46) = false := by simp; omega
              have r101 : (b t == 101) = false := by simp; omega
              have r69 : (b t == 69) = false := by simp; omega
              clear HNAof HYAof hst HA HD hdel hst1
              by_cases h1t : 1 < t
              · have h48 : (b 0 == 48) = false := by simp; exact fun h => hlead ⟨h1t, h⟩
                clear hlead
                rcases hbt with hbt | hbt
                · have hbt' : ¬ 48 ≤ b t := by omega
                  go_wp2
                  go_ret
                  exact .inr ⟨HYA.out, rfl, IntDone.inside _ _⟩
                · have hbt' : ¬ b t ≤ 57 := by omega
                  have hbt2 : 48 ≤ b t := by omega
                  go_wp2
                  go_ret
                  exact .inr ⟨HYA.out, rfl, IntDone.inside _ _⟩
              · clear hlead
                rcases hbt with hbt | hbt
                · have hbt' : ¬ 48 ≤ b t := by omega
                  go_wp2
                  go_ret
                  exact .inr ⟨HYA.out, rfl, IntDone.inside _ _⟩
                · have hbt' : ¬ b t ≤ 57 := by omega
                  have hbt2 : 48 ≤ b t := by omega
                  go_wp2
                  go_ret
                  exact .inr ⟨HYA.out, rfl, IntDone.inside _ _⟩
      · obtain rfl : t = n := by omega
        have hz1 : ((t : Int) == 0) = false := by simp; omega
        by_cases hlead : 1 < t ∧ b 0 = 48
        · have HNA := HNAof (.inr (.inl hlead))
          obtain ⟨hl1, hl2⟩ := hlead
          clear HNAof HYAof hst HA HD
          go_wp2
          go_ret
          exact .inl ⟨HNA.out, rfl, rfl⟩
        · have HYA := HYAof (by omega)
          clear HNAof HYAof hst HA HD
          by_cases h1t : 1 < t
          · have h48 : (b 0 == 48) = false := by simp; exact fun h => hlead ⟨h1t, h⟩
            clear hlead
            go_wp2
            go_ret
            exact .inr ⟨HYA.out, rfl, IntDone.atEnd _ _ _⟩
          · clear hlead
            go_wp2
            go_ret
            exact .inr ⟨HYA.out, rfl, IntDone.atEnd _ _ _⟩
end Go.Proofs.Qxb6606093a
