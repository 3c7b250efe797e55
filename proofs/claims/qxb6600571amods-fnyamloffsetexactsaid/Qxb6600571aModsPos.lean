/-
  THE PLAIN LAWS of seat b6600571aM: where the characters of a byte string begin, by the model's own decoding; no Go in sight.
-/
import Derived.Laws.RangeAny
namespace Go.Proofs.Qxb6600571aMods

/-- The bytes that the character at p takes. -/
def wd (s : ByteArray) (p : Nat) : Nat := (Utf8.decode s p).2
theorem wd_bounds (s : ByteArray) (p : Nat) (h : p < s.size) : 1 ≤ wd s p ∧ p + wd s p ≤ s.size := by
  unfold wd Utf8.decode
  simp only []
  repeat' split
  all_goals simp_all
  all_goals omega

/-- Where character t begins; the size where there are no more than t. -/
def posT (s : ByteArray) : Nat → Nat
  | 0 => 0
  | t + 1 => if posT s t < s.size then posT s t + wd s (posT s t) else posT s t
theorem posT_le (s : ByteArray) (t : Nat) : posT s t ≤ s.size := by
  induction t with
  | zero => exact Nat.zero_le _
  | succ t ih =>
    unfold posT
    split
    · exact (wd_bounds s _ (by assumption)).2
    · exact ih
theorem posT_step (s : ByteArray) (t : Nat) (h : posT s t < s.size) : posT s (t + 1) = posT s t + wd s (posT s t) := by rw [posT, if_pos h]
theorem posT_stay (s : ByteArray) (t : Nat) (h : ¬ posT s t < s.size) : posT s (t + 1) = posT s t := by rw [posT, if_neg h]
theorem posT_mono1 (s : ByteArray) (t : Nat) : posT s t ≤ posT s (t + 1) := by
  by_cases h : posT s t < s.size
  · rw [posT_step s t h]; omega
  · rw [posT_stay s t h]; exact Nat.le_refl _
theorem posT_mono (s : ByteArray) (t u : Nat) (h : t ≤ u) : posT s t ≤ posT s u := by
  induction u with
  | zero => obtain rfl : t = 0 := by omega
            exact Nat.le_refl _
  | succ u ih =>
    by_cases e : t = u + 1
    · subst e; exact Nat.le_refl _
    · exact Nat.le_trans (ih (by omega)) (posT_mono1 s u)
theorem posT_end (s : ByteArray) (t u : Nat) (h : t ≤ u) (he : ¬ posT s t < s.size) : posT s u = s.size := by
  have h1 := posT_mono s t u h
  have h2 := posT_le s u
  omega
theorem posT_strict (s : ByteArray) (t u : Nat) (h : t < u) (he : posT s t < s.size) : posT s t < posT s u := by
  have h1 := posT_mono s (t + 1) u h
  rw [posT_step s t he] at h1
  have := (wd_bounds s _ he).1
  omega
end Go.Proofs.Qxb6600571aMods
