/-
  THE PLAIN LAWS of seat b6600419aM, the years' part: no Go in sight.
-/
namespace Go.Proofs.Qxb6600419aMods.Years

/-- The greater of the two. -/
def mx (a b : Int) : Int := if a < b then b else a
theorem mx_lt {a b : Int} (h : a < b) : mx a b = b := if_pos h
theorem mx_ge {a b : Int} (h : ¬ a < b) : mx a b = a := if_neg h
theorem mx_one (t : Int) : 1 ≤ mx t 1 := by unfold mx; split <;> omega
/-- Within +-2^28. -/
def In (v : Int) : Prop := -268435456 ≤ v ∧ v ≤ 268435456
theorem mx_in {a b : Int} (ha : In a) (hb : In b) : In (mx a b) := by unfold mx; split <;> assumption
theorem in_one : In 1 := by unfold In; omega

/-- The first year of a span at or after y. -/
def yv (y s t : Int) : Int := if s < y then s + (y - s + t - 1) / t * t else s
theorem yv_lt {y s t : Int} (h : s < y) : yv y s t = s + (y - s + t - 1) / t * t := if_pos h
theorem yv_ge {y s t : Int} (h : ¬ s < y) : yv y s t = s := if_neg h
theorem up_eq (y s t : Int) (ht : 1 ≤ t) : s + (y - s + t - 1) / t * t = y + (s - y) % t := by
  have h1 := Int.mul_ediv_add_emod (s - y) t
  have r0 := Int.emod_nonneg (s - y) (show t ≠ 0 by omega)
  have r1 := Int.emod_lt_of_pos (s - y) (show 0 < t by omega)
  generalize (s - y) % t = r at h1 r0 r1 ⊢
  generalize (s - y) / t = q at h1
  have e : y - s + t - 1 = (t - 1 - r) + t * (-q) := by rw [Int.mul_neg]; omega
  rw [e, Int.add_mul_ediv_left _ _ (show t ≠ 0 by omega), Int.ediv_eq_zero_of_lt (by omega) (by omega), Int.zero_add, Int.mul_comm, Int.mul_neg]
  omega
theorem yv_first {y s t : Int} (ht : 1 ≤ t) (h : s < y) : yv y s t = y + (s - y) % t := by rw [yv_lt h, up_eq y s t ht]
theorem yv_ge_y (y s t : Int) (ht : 1 ≤ t) : y ≤ yv y s t := by
  by_cases h : s < y
  · rw [yv_first ht h]
    have := Int.emod_nonneg (s - y) (show t ≠ 0 by omega)
    omega
  · rw [yv_ge h]; omega
theorem yv_ge_s (y s t : Int) (ht : 1 ≤ t) : s ≤ yv y s t := by
  by_cases h : s < y
  · have := yv_ge_y y s t ht; omega
  · rw [yv_ge h]; omega
theorem yv_mod (y s t : Int) : (yv y s t - s) % t = 0 := by
  by_cases h : s < y
  · rw [yv_lt h, show s + (y - s + t - 1) / t * t - s = (y - s + t - 1) / t * t by omega]
    exact Int.mul_emod_left _ _
  · rw [yv_ge h, Int.sub_self, Int.zero_emod]
/-- The walk's own numbers stay small. -/
theorem up_bounds (y s t : Int) (hy : In y) (hs : In s) (ht : In t) (ht1 : 1 ≤ t) (h : s < y) :
    0 ≤ (y - s + t - 1) / t ∧ (y - s + t - 1) / t ≤ 1073741824 ∧ 0 ≤ (y - s + t - 1) / t * t ∧ (y - s + t - 1) / t * t ≤ 1073741824 := by
  unfold In at hy hs ht
  have e := up_eq y s t ht1
  have r0 := Int.emod_nonneg (s - y) (show t ≠ 0 by omega)
  have r1 := Int.emod_lt_of_pos (s - y) (show 0 < t by omega)
  have q0 : 0 ≤ (y - s + t - 1) / t := Int.ediv_nonneg (by omega) (by omega)
  have q1 : (y - s + t - 1) / t ≤ y - s + t - 1 := Int.ediv_le_self _ (by omega)
  exact ⟨q0, by omega, by omega, by omega⟩

/-- The least year over the first k spans, and whether there is one. -/
def nx (Y : Nat → Nat → Int) (y : Int) : Nat → Int × Bool
  | 0 => (0, false)
  | k + 1 => if yv y (Y k 0) (mx (Y k 2) 1) ≤ mx (Y k 1) (Y k 0) ∧ ((nx Y y k).2 = false ∨ yv y (Y k 0) (mx (Y k 2) 1) < (nx Y y k).1) then (yv y (Y k 0) (mx (Y k 2) 1), true) else nx Y y k
theorem nx_yes {Y : Nat → Nat → Int} {y : Int} {k : Nat} {b : Int} {f : Bool} (h : nx Y y k = (b, f)) (h1 : yv y (Y k 0) (mx (Y k 2) 1) ≤ mx (Y k 1) (Y k 0)) (h2 : f = false ∨ yv y (Y k 0) (mx (Y k 2) 1) < b) :
    nx Y y (k + 1) = (yv y (Y k 0) (mx (Y k 2) 1), true) := by
  rw [nx, h]; exact if_pos ⟨h1, h2⟩
theorem nx_no {Y : Nat → Nat → Int} {y : Int} {k : Nat} {b : Int} {f : Bool} (h : nx Y y k = (b, f)) (h1 : ¬ (yv y (Y k 0) (mx (Y k 2) 1) ≤ mx (Y k 1) (Y k 0) ∧ (f = false ∨ yv y (Y k 0) (mx (Y k 2) 1) < b))) :
    nx Y y (k + 1) = (b, f) := by
  rw [nx, h]; exact if_neg h1

theorem nx_cases {Y : Nat → Nat → Int} {y : Int} {k : Nat} {b : Int} {f : Bool} (h : nx Y y k = (b, f)) :
    (mx (Y k 1) (Y k 0) < yv y (Y k 0) (mx (Y k 2) 1) ∧ nx Y y (k + 1) = (b, f)) ∨ (yv y (Y k 0) (mx (Y k 2) 1) ≤ mx (Y k 1) (Y k 0) ∧ f = false ∧ nx Y y (k + 1) = (yv y (Y k 0) (mx (Y k 2) 1), true)) ∨
      (yv y (Y k 0) (mx (Y k 2) 1) ≤ mx (Y k 1) (Y k 0) ∧ f = true ∧ yv y (Y k 0) (mx (Y k 2) 1) < b ∧ nx Y y (k + 1) = (yv y (Y k 0) (mx (Y k 2) 1), true)) ∨
      (yv y (Y k 0) (mx (Y k 2) 1) ≤ mx (Y k 1) (Y k 0) ∧ f = true ∧ b ≤ yv y (Y k 0) (mx (Y k 2) 1) ∧ nx Y y (k + 1) = (b, true)) := by
  rcases Int.lt_or_le (mx (Y k 1) (Y k 0)) (yv y (Y k 0) (mx (Y k 2) 1)) with h1 | h1
  · exact .inl ⟨h1, nx_no h (fun hc => by omega)⟩
  cases f with
  | false => exact .inr (.inl ⟨h1, rfl, nx_yes h h1 (.inl rfl)⟩)
  | true =>
    rcases Int.lt_or_le (yv y (Y k 0) (mx (Y k 2) 1)) b with h2 | h2
    · exact .inr (.inr (.inl ⟨h1, rfl, h2, nx_yes h h1 (.inr h2)⟩))
    · refine .inr (.inr (.inr ⟨h1, rfl, h2, nx_no h ?_⟩))
      rintro ⟨_, h3 | h3⟩
      · cases h3
      · omega

/-- Span i holds v. -/
def Holds (Y : Nat → Nat → Int) (i : Nat) (v : Int) : Prop := Y i 0 ≤ v ∧ v ≤ mx (Y i 1) (Y i 0) ∧ (v - Y i 0) % mx (Y i 2) 1 = 0
theorem nx_holds (Y : Nat → Nat → Int) (y : Int) (k : Nat) (h : (nx Y y k).2 = true) : y ≤ (nx Y y k).1 ∧ ∃ i, i < k ∧ Holds Y i (nx Y y k).1 := by
  induction k with
  | zero => simp [nx] at h
  | succ k ih =>
    by_cases hc : yv y (Y k 0) (mx (Y k 2) 1) ≤ mx (Y k 1) (Y k 0) ∧ ((nx Y y k).2 = false ∨ yv y (Y k 0) (mx (Y k 2) 1) < (nx Y y k).1)
    · have e : nx Y y (k + 1) = (yv y (Y k 0) (mx (Y k 2) 1), true) := by rw [nx]; exact if_pos hc
      rw [e]
      exact ⟨yv_ge_y _ _ _ (mx_one _), k, by omega, yv_ge_s _ _ _ (mx_one _), hc.1, yv_mod _ _ _⟩
    · have e : nx Y y (k + 1) = nx Y y k := by rw [nx]; exact if_neg hc
      rw [e] at h ⊢
      obtain ⟨h1, i, hi, h2⟩ := ih h
      exact ⟨h1, i, by omega, h2⟩
end Go.Proofs.Qxb6600419aMods.Years
