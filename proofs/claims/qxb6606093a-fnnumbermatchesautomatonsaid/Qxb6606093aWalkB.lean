/-
  THE WALKS of zzNumberStep (20), zzNumberAccepting (21), zzNumberModel (9).
-/
import Derived.Test.Qxb6606093aWalkA
namespace Go.Proofs.Qxb6606093a
open Go.ChangeShapes Go.WideShapes Go.ChangeAt Go.RowKit
open Num
set_option linter.unusedVariables false

theorem class_of (c : Int) : c = 43 ∨ c = 45 ∨ c = 46 ∨ c = 48 ∨ c = 69 ∨ c = 101 ∨ (48 < c ∧ c ≤ 57) ∨ (c < 48 ∧ c ≠ 43 ∧ c ≠ 45 ∧ c ≠ 46) ∨ (57 < c ∧ c ≠ 69 ∧ c ≠ 101) := by omega

set_option maxHeartbeats 4000000 in
theorem numStep_any (st c : Int) (w : World) (h0 : 0 ≤ st) (h8 : st ≤ 8) :
    Calls Try.prog 20 #[.int .i64 st, .int .u8 c] w fun e w' => e = .returned (.int .i64 (nstep st c)) ∧ w = w' := by
  have hst : st = 0 ∨ st = 1 ∨ st = 2 ∨ st = 3 ∨ st = 4 ∨ st = 5 ∨ st = 6 ∨ st = 7 ∨ st = 8 := by omega
  rcases class_of c with rfl | rfl | rfl | rfl | rfl | rfl | ⟨h1, h2⟩ | ⟨h1, h2, h3, h4⟩ | ⟨h1, h2, h3⟩
  case inr.inr.inr.inr.inr.inr.inl =>
    have q1 : 48 ≤ c := by omega
    have hdg : digB c = true := digB_yes q1 h2
    have q2 : c ≠ 43 := by omega
    have q3 : c ≠ 45 := by omega
    have q4 : c ≠ 46 := by omega
    have q5 : c ≠ 48 := by omega
    have q6 : c ≠ 69 := by omega
    have q7 : c ≠ 101 := by omega
    have r43 : (c == 43) = false := by simp; omega
    have r45 : (c == 45) = false := by simp; omega
    have r46 : (c == 46) = false := by simp; omega
    have r48 : (c == 48) = false := by simp; omega
    have r69 : (c == 69) = false := by simp; omega
    have r101 : (c == 101) = false := by simp; omega
    rcases hst with rfl | rfl | rfl | rfl | rfl | rfl | rfl | rfl | rfl
    all_goals
      go_enter Try.func20, Try.ntmps20
      go_wp2_with (go_at_call 19; refine (isDigit_any _ _).mono ?_; rintro e w' ⟨rfl, rfl⟩)
      go_ret
      exact ⟨ret_int (by simp [nstep, *] <;> omega), rfl⟩
  case inr.inr.inr.inr.inr.inr.inr.inl =>
    have q0 : ¬ (48 ≤ c ∧ c ≤ 57) := by omega
    have q1 : ¬ 48 ≤ c := by omega
    have hdg : digB c = false := digB_no q0
    have q5 : c ≠ 48 := by omega
    have q6 : c ≠ 69 := by omega
    have q7 : c ≠ 101 := by omega
    have r43 : (c == 43) = false := by simp; omega
    have r45 : (c == 45) = false := by simp; omega
    have r46 : (c == 46) = false := by simp; omega
    have r48 : (c == 48) = false := by simp; omega
    have r69 : (c == 69) = false := by simp; omega
    have r101 : (c == 101) = false := by simp; omega
    rcases hst with rfl | rfl | rfl | rfl | rfl | rfl | rfl | rfl | rfl
    all_goals
      go_enter Try.func20, Try.ntmps20
      go_wp2_with (go_at_call 19; refine (isDigit_any _ _).mono ?_; rintro e w' ⟨rfl, rfl⟩)
      go_ret
      exact ⟨ret_int (by simp [nstep, *] <;> omega), rfl⟩
  case inr.inr.inr.inr.inr.inr.inr.inr =>
    have q1 : ¬ c ≤ 57 := by omega
    have hdg : digB c = false := digB_no (by omega)
    have q2 : c ≠ 43 := by omega
    have q3 : c ≠ 45 := by omega
    have q4 : c ≠ 46 := by omega
    have q5 : c ≠ 48 := by omega
    have r43 : (c == 43) = false := by simp; omega
    have r45 : (c == 45) = false := by simp; omega
    have r46 : (c == 46) = false := by simp; omega
    have r48 : (c == 48) = false := by simp; omega
    have r69 : (c == 69) = false := by simp; omega
    have r101 : (c == 101) = false := by simp; omega
    rcases hst with rfl | rfl | rfl | rfl | rfl | rfl | rfl | rfl | rfl
    all_goals
      go_enter Try.func20, Try.ntmps20
      go_wp2_with (go_at_call 19; refine (isDigit_any _ _).mono ?_; rintro e w' ⟨rfl, rfl⟩)
      go_ret
      exact ⟨ret_int (by simp [nstep, *] <;> omega), rfl⟩
  all_goals
    have d43 : digB 43 = false := by decide
    have d45 : digB 45 = false := by decide
    have d46 : digB 46 = false := by decide
    have d48 : digB 48 = true := by decide
    have d69 : digB 69 = false := by decide
    have d101 : digB 101 = false := by decide
    rcases hst with rfl | rfl | rfl | rfl | rfl | rfl | rfl | rfl | rfl
    all_goals
      go_enter Try.func20, Try.ntmps20
      go_wp2_with (go_at_call 19; refine (isDigit_any _ _).mono ?_; rintro e w' ⟨rfl, rfl⟩)
      go_ret
      exact ⟨ret_int (by simp [nstep]), rfl⟩

theorem nstep_le (st c : Int) (h0 : 0 ≤ st) (h8 : st ≤ 8) : -1 ≤ nstep st c ∧ nstep st c ≤ 8 := by
  unfold nstep
  repeat' split
  all_goals omega

theorem fin_yes (st : Int) (k : Nat) (h : st = 2 ∨ st = 3 ∨ st = 5 ∨ st = 8) : fin st k = k := by unfold fin; rw [if_pos h]
theorem fin_no (st : Int) (k : Nat) (h : ¬ (st = 2 ∨ st = 3 ∨ st = 5 ∨ st = 8)) : fin st k = -1 := by unfold fin; rw [if_neg h]


def accB (st : Int) : Bool := decide (st = 2 ∨ st = 3 ∨ st = 5 ∨ st = 8)
theorem acc_any (st : Int) (w : World) : Calls Try.prog 21 #[.int .i64 st] w fun e w' => e = .returned (.bool (accB st)) ∧ w = w' := by
  by_cases hacc : st = 2 ∨ st = 3 ∨ st = 5 ∨ st = 8
  · have hd : Hid (accB st = true) := by show _ = _; simp [accB, hacc]
    rcases hacc with rfl | rfl | rfl | rfl
    all_goals
      go_enter Try.func21, Try.ntmps21
      go_wp2
      go_ret
      exact ⟨ret_bool hd.out.symm, rfl⟩
  · have hd : Hid (accB st = false) := by show _ = _; simp [accB, hacc]
    have r2 : (st == 2) = false := by simp; omega
    have r3 : (st == 3) = false := by simp; omega
    have r5 : (st == 5) = false := by simp; omega
    have r8 : (st == 8) = false := by simp; omega
    clear hacc
    go_enter Try.func21, Try.ntmps21
    go_wp2
    go_ret
    exact ⟨ret_bool hd.out.symm, rfl⟩

set_option maxHeartbeats 400000 in
theorem model_any (b : Nat → Int) (bl off n cap p : Nat) (w : World) (hn : n ≤ 1048576) (hp : p ≤ n)
    (hc : ∀ k, k < n → w.cell? ⟨bl, off + k, none⟩ = some (.int .u8 (b k))) :
    Calls Try.prog 9 #[.slice (some ⟨bl, off, none⟩) n cap, .int .i64 p] w fun e w' => e = .returned (.int .i64 (run b n 0 p)) ∧ w = w' := by
  go_enter Try.func9, Try.ntmps9
  go_wp2
  go_loop [6, 5] (fun i s => ∃ (k : Nat) (st : Int), k ≤ n ∧ 0 ≤ st ∧ st ≤ 8 ∧ i = .int .i64 k ∧ s = .int .i64 st ∧ Hid (run b n 0 p = run b n st k)) (fun i _ => n - (intOf i).toNat)
  case atStart => exact ⟨p, 0, hp, by omega, by omega, rfl, rfl, rfl⟩
  case round =>
    obtain ⟨k, st, hk, h0, h8, rfl, rfl, hd⟩ := hrel
    have fin : run b n 0 p = Num.fin st k → (accB st = true ∧ run b n 0 p = k) ∨ (accB st = false ∧ run b n 0 p = -1) := by
      intro h
      by_cases hacc : st = 2 ∨ st = 3 ∨ st = 5 ∨ st = 8
      · exact .inl ⟨by simp [accB, hacc], h.trans (fin_yes st k hacc)⟩
      · exact .inr ⟨by simp [accB, hacc], h.trans (fin_no st k hacc)⟩
    by_cases hlt : k < n
    · have hck := hc k hlt
      have hnb := nstep_le st (b k) h0 h8
      by_cases hneg : nstep st (b k) < 0
      · rcases fin (hd.out.trans (run_stop b n st k hneg)) with ⟨ha, hr⟩ | ⟨ha, hr⟩
        all_goals
          have HG := show Hid _ from hr
          clear hr fin hd
          go_wp2_with (first | (go_at_call 20; refine (numStep_any _ _ _ (by omega) (by omega)).mono ?_; rintro e w' ⟨rfl, rfl⟩) | (go_at_call 21; refine (acc_any _ _).mono ?_; rintro e w' ⟨rfl, rfl⟩))
          go_ret
          exact ⟨ret_int HG.out.symm, rfl⟩
      · clear fin
        go_wp2_with (go_at_call 20; refine (numStep_any _ _ _ (by omega) (by omega)).mono ?_; rintro e w' ⟨rfl, rfl⟩)
        go_round
        case rel => exact ⟨k + 1, nstep st (b k), by omega, by omega, by omega, by go_num, rfl, hd.out.trans (run_step b n st _ k hlt rfl (by omega))⟩
        case measure => simp [intOf]; omega
    · rcases fin (hd.out.trans (run_end b n st k (by omega))) with ⟨ha, hr⟩ | ⟨ha, hr⟩
      all_goals
        have HG := show Hid _ from hr
        clear hr fin hd
        go_wp2_with (go_at_call 21; refine (acc_any _ _).mono ?_; rintro e w' ⟨rfl, rfl⟩)
        go_ret
        exact ⟨ret_int HG.out.symm, rfl⟩
end Go.Proofs.Qxb6606093a
