/-
  THE TWO TEXTS ARE ONE: what FloatText writes and what the model writes, as bytes.
-/
import Derived.Test.Qxb6606095aDoorWalkD
import Derived.Test.Qxb6606095aDoorWalkF
import Derived.Lib.Repeat
namespace Go.Proofs.Qxb6606095aDoor
open Go.ChangeShapes Go.WideShapes Go.ChangeAt Go.RowKit Go.Sort
set_option linter.unusedVariables false

theorem ba_ext {a b : ByteArray} (h : a.data.toList = b.data.toList) : a = b := by
  apply ByteArray.ext
  apply Array.ext'
  exact h
theorem ba_append (a b : ByteArray) : (a ++ b).data.toList = a.data.toList ++ b.data.toList := by simp
theorem ba_mk (l : List UInt8) : (⟨l.toArray⟩ : ByteArray).data.toList = l := rfl
theorem rep_eq (c : Nat) : Lib.repeatL [48] c = List.replicate c 48 := by
  have := Lib.repeatL_replicate 48 1 c
  simpa using this

/-- digits at the places H, H-1, .., one for each t below m -/
def down (s : ByteArray) (e H : Int) (m : Nat) : List UInt8 := (List.range m).map fun (t : Nat) => dgB s e (H - (t : Int))
theorem down_succ (s : ByteArray) (e H : Int) (m : Nat) : down s e H (m + 1) = down s e H m ++ [dgB s e (H - (m : Int))] := by
  simp [down, List.range_succ]
theorem down_one (s : ByteArray) (e H : Int) : down s e H (0 + 1) = [dgB s e H] := by simp [down]
theorem down_length (s : ByteArray) (e H : Int) (m : Nat) : (down s e H m).length = m := by simp [down]
theorem down_get (s : ByteArray) (e H : Int) (m t : Nat) (h : t < (down s e H m).length) : (down s e H m)[t] = dgB s e (H - (t : Int)) := by simp [down]

theorem out_int (s : ByteArray) (e : Int) (H m : Nat) (h : m ≤ H + 1) : outL s e (H : Int) m = down s e H m := by
  induction m with
  | zero => rfl
  | succ m ih =>
    rw [outL_no s e H m (by omega), ih (by omega), down_succ]

theorem out_frac (s : ByteArray) (e : Int) (H k : Nat) : outL s e (H : Int) (H + 1 + (k + 1)) = down s e H (H + 1) ++ 46 :: down s e (-1) (k + 1) := by
  induction k with
  | zero =>
    rw [show H + 1 + (0 + 1) = (H + 1) + 1 from by omega, outL_dot s e H (H + 1) (by omega), out_int s e H (H + 1) (Nat.le_refl _)]
    have h1 : (H : Int) - ((H + 1 : Nat) : Int) = -1 := by omega
    rw [h1, down_one]
    simp
  | succ k ih =>
    rw [show H + 1 + (k + 1 + 1) = (H + 1 + (k + 1)) + 1 from by omega, outL_no s e H _ (by omega), ih, down_succ s e (-1) (k + 1)]
    have h1 : (H : Int) - ((H + 1 + (k + 1) : Nat) : Int) = -1 - ((k + 1 : Nat) : Int) := by omega
    rw [h1]
    simp

theorem dgB_in (s : ByteArray) (e p : Int) (t : Nat) (ht : t < s.data.toList.length) (hp : (s.size : Int) - 1 - (p - e) = (t : Int)) (h1 : e ≤ p) : dgB s e p = s.data.toList[t] := by
  have hl : s.data.toList.length = s.size := by simp
  unfold dgB
  rw [if_pos ⟨h1, by omega⟩, hp, Int.toNat_natCast, List.getD_eq_getElem?_getD, List.getElem?_eq_getElem ht]
  rfl
theorem dgB_out (s : ByteArray) (e p : Int) (h : p < e ∨ (s.size : Int) ≤ p - e) : dgB s e p = 48 := by
  unfold dgB
  rw [if_neg (by omega)]

theorem sz (s : ByteArray) : s.data.toList.length = s.size := by simp

/-- a whole number -/
theorem text_int (s : ByteArray) (e : Nat) (h0 : 0 < s.size) : outL s e ((s.size : Int) + e - 1) (s.size + e + 1) = s.data.toList ++ List.replicate e 48 ++ [46, 48] := by
  have hz := sz s
  obtain ⟨H, hH⟩ : ∃ H : Nat, s.size + e = H + 1 := ⟨s.size + e - 1, by omega⟩
  rw [show ((s.size : Int) + e - 1) = (H : Int) from by omega, show s.size + e + 1 = H + 1 + (0 + 1) from by omega, out_frac]
  have hf : down s (e : Int) (-1) (0 + 1) = [48] := by
    rw [down_one, dgB_out s (e : Int) (-1) (by omega)]
  have hi : down s (e : Int) (H : Int) (H + 1) = s.data.toList ++ List.replicate e 48 := by
    apply List.ext_getElem
    · rw [down_length, List.length_append, List.length_replicate]; omega
    · intro t h1 h2
      rw [down_length] at h1
      rw [down_get]
      by_cases ht : t < s.data.toList.length
      · rw [List.getElem_append_left ht]
        exact dgB_in s e _ t ht (by omega) (by omega)
      · rw [List.getElem_append_right (by omega), List.getElem_replicate]
        exact dgB_out s _ _ (by omega)
  rw [hf, hi]

/-- the point inside the digits -/
theorem text_mid (s : ByteArray) (e : Int) (p : Nat) (he : e < 0) (hp : (s.size : Int) + e = (p : Int)) (hp0 : 0 < p) : outL s e ((p : Int) - 1) s.size = s.data.toList.take p ++ 46 :: s.data.toList.drop p := by
  have hz := sz s
  obtain ⟨H, rfl⟩ : ∃ H, p = H + 1 := ⟨p - 1, by omega⟩
  obtain ⟨k, hk⟩ : ∃ k, s.size = H + 1 + (k + 1) := ⟨s.size - (H + 1) - 1, by omega⟩
  rw [show (((H + 1 : Nat) : Int) - 1) = (H : Int) from by omega, hk, out_frac]
  have hi : down s e (H : Int) (H + 1) = s.data.toList.take (H + 1) := by
    apply List.ext_getElem
    · rw [down_length, List.length_take]; omega
    · intro t h1 h2
      rw [down_length] at h1
      rw [down_get, List.getElem_take]
      exact dgB_in s e _ t (by omega) (by omega) (by omega)
  have hf : down s e (-1) (k + 1) = s.data.toList.drop (H + 1) := by
    apply List.ext_getElem
    · rw [down_length, List.length_drop]; omega
    · intro t h1 h2
      rw [down_length] at h1
      rw [down_get, List.getElem_drop]
      exact dgB_in s e _ (H + 1 + t) (by omega) (by omega) (by omega)
  rw [hi, hf]

/-- zeros behind the point -/
theorem text_low (s : ByteArray) (e : Int) (c k : Nat) (hk : e = -(k : Int)) (hc : -((s.size : Int) + e) = (c : Int)) (h0 : 0 < s.size) : outL s e 0 (k + 1) = [48, 46] ++ List.replicate c 48 ++ s.data.toList := by
  have hz := sz s
  obtain ⟨j, rfl⟩ : ∃ j, k = j + 1 := ⟨k - 1, by omega⟩
  rw [show (0 : Int) = ((0 : Nat) : Int) from rfl, show j + 1 + 1 = 0 + 1 + (j + 1) from by omega, out_frac]
  have hi : down s e ((0 : Nat) : Int) (0 + 1) = [48] := by
    rw [down_one, dgB_out s e ((0 : Nat) : Int) (by omega)]
  have hf : down s e (-1) (j + 1) = List.replicate c 48 ++ s.data.toList := by
    apply List.ext_getElem
    · rw [down_length, List.length_append, List.length_replicate]; omega
    · intro t h1 h2
      rw [down_length] at h1
      rw [down_get]
      by_cases ht : t < c
      · rw [List.getElem_append_left (by simpa using ht), List.getElem_replicate]
        exact dgB_out s _ _ (by omega)
      · rw [List.getElem_append_right (by simpa using ht)]
        simp only [List.length_replicate]
        exact dgB_in s e _ (t - c) (by omega) (by omega) (by omega)
  rw [hi, hf]
  simp
end Go.Proofs.Qxb6606095aDoor
