/-
  THE WALKS of zzBytes (11), sign (27), zzDecB1DigitAt (20).
-/
import Derived.Test.Qxb6606095aDoorChecked
import Derived.WalkKit
import Derived.ProofKit
import Derived.WalkSpells
import Derived.Below
import Derived.Outline
namespace Go.Proofs.Qxb6606095aDoor
open Go.ChangeShapes Go.WideShapes Go.ChangeAt Go.RowKit
set_option linter.unusedVariables false

theorem ret_int {k : IntKind} {a b : Int} (h : a = b) : Ending.returned (.int k a) = .returned (.int k b) := by rw [h]
theorem ret_str {a b : ByteArray} (h : a = b) : Ending.returned (.string a) = .returned (.string b) := by rw [h]

theorem bytes_any (neg : Bool) (s : ByteArray) (i : Int) (w : World) (hs : s.size ≤ maxLen) :
    Calls Tryd.prog 11 #[.bool neg, .string s, .int .i64 i] w fun e w' => e = .returned (.bool (decide (s.size ≤ 1048576))) ∧ w = w' := by
  unfold maxLen at hs
  by_cases h : s.size ≤ 1048576
  · go_enter Tryd.func11, Tryd.ntmps11
    go_wp2
    go_ret
    exact ⟨by simp [h], rfl⟩
  · go_enter Tryd.func11, Tryd.ntmps11
    go_wp2
    go_ret
    exact ⟨by simp [h], rfl⟩

/-- the sign, as bytes -/
def sgnB (neg : Bool) : ByteArray := if neg then ⟨#[45]⟩ else ⟨#[]⟩
theorem sgnB_size (neg : Bool) : (sgnB neg).size ≤ 1 := by cases neg <;> decide

theorem sign_any (neg : Bool) (s : ByteArray) (e : Int) (w : World) :
    Calls Tryd.prog 27 #[.agg #[.bool neg, .string s, .int .i64 e]] w fun x w' => x = .returned (.string (sgnB neg)) ∧ w' = w.alloc (.cells #[.bool neg, .string s, .int .i64 e] 28) := by
  cases neg with
  | true =>
    go_enter Tryd.func27, Tryd.ntmps27
    go_wp2
    go_ret
    exact ⟨rfl, rfl⟩
  | false =>
    go_enter Tryd.func27, Tryd.ntmps27
    go_wp2
    go_ret
    exact ⟨rfl, rfl⟩

/-- the byte of s at t -/
def byt (s : ByteArray) (t : Nat) : Int := if h : t < s.size then (s[t].toNat : Int) else 0
theorem byt_at (s : ByteArray) (t : Nat) (h : t < s.size) : (s[t].toNat : Int) = byt s t := by unfold byt; rw [dif_pos h]

/-- the digit at the power of ten p -/
def dgAt (s : ByteArray) (e p : Int) : Int := if e ≤ p ∧ p - e < (s.size : Int) then byt s (((s.size : Int) - 1 - (p - e)).toNat) else 48

theorem digitAt_any (s : ByteArray) (e p : Int) (w : World) (hs : s.size ≤ 1048576) (he : -1073741824 ≤ e ∧ e ≤ 1073741824) (hp : -1099511627776 ≤ p ∧ p ≤ 1099511627776) :
    Calls Tryd.prog 20 #[.string s, .int .i64 e, .int .i64 p] w fun x w' => x = .returned (.int .u8 (dgAt s e p)) ∧ w = w' := by
  by_cases h1 : e ≤ p
  · by_cases h2 : p - e < (s.size : Int)
    · obtain ⟨t, ht⟩ : ∃ t : Nat, (s.size : Int) - 1 - (p - e) = (t : Int) := ⟨((s.size : Int) - 1 - (p - e)).toNat, by omega⟩
      have HD : Hid (dgAt s e p = byt s t) := by
        show _ = _
        unfold dgAt
        rw [if_pos ⟨h1, h2⟩, ht, Int.toNat_natCast]
      have hts : t < s.size := by omega
      have hx := byt_at s t hts
      have hb : ((s.size : Int) - 1 - (p - e)).toNat = t := by omega
      go_enter Tryd.func20, Tryd.ntmps20
      go_wp2
      go_ret
      exact ⟨ret_int HD.out.symm, rfl⟩
    · have HD : Hid (dgAt s e p = 48) := by
        show _ = _
        unfold dgAt
        rw [if_neg (fun h => h2 h.2)]
      go_enter Tryd.func20, Tryd.ntmps20
      go_wp2
      go_ret
      exact ⟨ret_int HD.out.symm, rfl⟩
  · have HD : Hid (dgAt s e p = 48) := by
      show _ = _
      unfold dgAt
      rw [if_neg (fun h => h1 h.1)]
    go_enter Tryd.func20, Tryd.ntmps20
    go_wp2
    go_ret
    exact ⟨ret_int HD.out.symm, rfl⟩
end Go.Proofs.Qxb6606095aDoor
