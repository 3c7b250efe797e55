/-
  THE PLAIN LAWS of seat b6600174aM: words of 64 bits as natural numbers; no Go in sight.
-/
namespace Go.Proofs.Qxb6600174aMods

/-- The word whose n lowest bits are set. -/
def lowN (n : Int) : Nat := 2 ^ (min n.toNat 64) - 1
theorem lowN_lt (n : Int) : lowN n < 18446744073709551616 := by
  unfold lowN
  have h : 2 ^ (min n.toNat 64) ≤ 2 ^ 64 := Nat.pow_le_pow_right (by decide) (by omega)
  have h1 : 0 < 2 ^ (min n.toNat 64) := Nat.two_pow_pos _
  have : (2 : Nat) ^ 64 = 18446744073709551616 := by decide
  omega
theorem lowN_bit (n : Int) (j : Nat) : (lowN n).testBit j = decide (j < n.toNat ∧ j < 64) := by
  unfold lowN
  rw [Nat.testBit_two_pow_sub_one]
  simp only [Nat.lt_min]

/-- Element k of an array of b bits, the bits at or past b struck. -/
def elemN (b : Int) (zs : List Nat) (k : Nat) : Nat := zs.getD k 0 &&& lowN (b - 64 * k)
theorem elemN_lt (b : Int) (zs : List Nat) (k : Nat) : elemN b zs k < 18446744073709551616 :=
  Nat.lt_of_le_of_lt Nat.and_le_right (lowN_lt _)
theorem elemN_bit (b : Int) (zs : List Nat) (k j : Nat) : (elemN b zs k).testBit j = ((zs.getD k 0).testBit j && decide (j < (b - 64 * k).toNat ∧ j < 64)) := by
  unfold elemN
  rw [Nat.testBit_and, lowN_bit]

theorem not_bit (x j : Nat) (hx : x < 18446744073709551616) : (18446744073709551615 - x).testBit j = (decide (j < 64) && !x.testBit j) := by
  have h := Nat.testBit_two_pow_sub_succ (n := 64) (x := x) (by simpa using hx) j
  have e : 2 ^ 64 - (x + 1) = 18446744073709551615 - x := by
    have : (2 : Nat) ^ 64 = 18446744073709551616 := by decide
    omega
  rw [← e]; exact h

/-- Element k of the complement at m bits. -/
def compN (b : Int) (zs : List Nat) (m : Int) (k : Nat) : Nat := (18446744073709551615 - elemN b zs k) &&& lowN (m - 64 * k)
theorem compN_lt (b : Int) (zs : List Nat) (m : Int) (k : Nat) : compN b zs m k < 18446744073709551616 :=
  Nat.lt_of_le_of_lt Nat.and_le_right (lowN_lt _)
theorem compN_bit (b : Int) (zs : List Nat) (m : Int) (k j : Nat) : (compN b zs m k).testBit j = (decide (j < (m - 64 * k).toNat ∧ j < 64) && !(elemN b zs k).testBit j) := by
  unfold compN
  rw [Nat.testBit_and, not_bit _ _ (elemN_lt _ _ _), lowN_bit]
  by_cases h : j < 64 <;> by_cases h' : j < (m - 64 * k).toNat <;> simp [h, h']

/-- The whole complement. -/
def comp (b : Int) (zs : List Nat) (m : Int) : List Nat := (List.range ((m.toNat + 63) / 64)).map (compN b zs m)
theorem comp_length (b : Int) (zs : List Nat) (m : Int) : (comp b zs m).length = (m.toNat + 63) / 64 := by simp [comp]
theorem comp_getD (b : Int) (zs : List Nat) (m : Int) (k : Nat) (h : k < (m.toNat + 63) / 64) : (comp b zs m).getD k 0 = compN b zs m k := by
  simp [comp, List.getD, h]

/-- TWICE IS THE SAME, word for word, on a canonical array. -/
theorem twice (zs : List Nat) (m : Nat) (hlen : zs.length = (m + 63) / 64) (hz : ∀ k, zs.getD k 0 < 18446744073709551616)
    (hlast : m % 64 ≠ 0 → zs.getD (zs.length - 1) 0 / 2 ^ (m % 64) = 0) (k : Nat) (hk : k < zs.length) : compN m (comp m zs m) m k = zs.getD k 0 := by
  apply Nat.eq_of_testBit_eq
  intro j
  rw [compN_bit, elemN_bit, comp_getD _ _ _ _ (by simp; omega), compN_bit, elemN_bit]
  by_cases hj : j < 64
  · by_cases hm : j < ((m : Int) - 64 * k).toNat
    · simp [hj, hm]
    · -- the bit lies at or past m: it is the last word
      have hkl : k = zs.length - 1 := by omega
      have hr : m % 64 ≠ 0 := by omega
      have h0 := hlast hr
      rw [← hkl] at h0
      have hlt : zs.getD k 0 < 2 ^ (m % 64) := by
        have := Nat.two_pow_pos (m % 64)
        rcases Nat.lt_or_ge (zs.getD k 0) (2 ^ (m % 64)) with h | h
        · exact h
        · have := Nat.div_pos h this; omega
      have hb : (zs.getD k 0).testBit j = false := Nat.testBit_lt_two_pow (Nat.lt_of_lt_of_le hlt (Nat.pow_le_pow_right (by decide) (by omega)))
      rw [hb]
      simp [hm]
  · have hb : (zs.getD k 0).testBit j = false := by
      refine Nat.testBit_lt_two_pow (Nat.lt_of_lt_of_le (hz k) ?_)
      have : (2 : Nat) ^ 64 ≤ 2 ^ j := Nat.pow_le_pow_right (by decide) (by omega)
      have e : (2 : Nat) ^ 64 = 18446744073709551616 := by decide
      omega
    rw [hb]
    simp [hj]

/-- Is i in the set? -/
def inS (b : Int) (zs : List Nat) (i : Nat) : Bool := decide ((i : Int) < b) && (zs.getD (i / 64) 0).testBit (i % 64)

theorem holds (b : Int) (zs : List Nat) (m n i : Nat) (hn : n = (m + 63) / 64) (hi : i < 64 * n) :
    inS (64 * n) (comp b zs m) i = (decide (i < m) && !inS b zs i) := by
  unfold inS
  have hk : i / 64 < ((m : Int).toNat + 63) / 64 := by simp; omega
  rw [comp_getD _ _ _ _ hk, compN_bit, elemN_bit]
  have h1 : (i : Int) < 64 * (n : Int) := by omega
  have h2 : i % 64 < 64 := Nat.mod_lt _ (by decide)
  have h3 : (i % 64 < ((m : Int) - 64 * ((i / 64 : Nat) : Int)).toNat) ↔ i < m := by omega
  have h4 : (i % 64 < (b - 64 * ((i / 64 : Nat) : Int)).toNat) ↔ (i : Int) < b := by omega
  simp only [h1, h2, h3, h4, and_true, decide_true, Bool.true_and]
  by_cases hb : (i : Int) < b <;> simp [hb]
end Go.Proofs.Qxb6600174aMods
