/-
  THE PLAIN LAWS of seat b6600419aM, the clock's part: no Go in sight.
-/
namespace Go.Proofs.Qxb6600419aMods

/-- The set that the loop gathers in t rounds. -/
def setT (w g a : Nat) : Nat → Nat
  | 0 => 0
  | t + 1 => setT w g a t ||| 2 ^ ((a + t * g) / w)
theorem setT_bit (w g a t v : Nat) : (setT w g a t).testBit v = true ↔ ∃ s, s < t ∧ (a + s * g) / w = v := by
  induction t with
  | zero => simp [setT]
  | succ t ih =>
    rw [setT, Nat.testBit_or, Bool.or_eq_true, ih, Nat.testBit_two_pow]
    constructor
    · rintro (⟨s, hs, e⟩ | h)
      · exact ⟨s, by omega, e⟩
      · exact ⟨t, by omega, by simpa using h⟩
    · rintro ⟨s, hs, e⟩
      by_cases h : s = t
      · subst h; exact .inr (by simpa using e)
      · exact .inl ⟨s, by omega, e⟩

/-- clockValues, plainly. -/
def cv (at_ : Int) (e p w : Nat) : Nat :=
  if Nat.gcd e p ≤ w then 2 ^ (p / w) - 1 else setT w (Nat.gcd e p) (at_ % (Nat.gcd e p : Int)).toNat (p / Nat.gcd e p)

/-- Value v is taken: a second q of the period, congruent to at modulo g, lies in it. -/
def Reach (at_ : Int) (g p w v : Nat) : Prop := ∃ q : Nat, q < p ∧ ((q : Int) - at_) % (g : Int) = 0 ∧ q / w = v

theorem reach_all (at_ : Int) (g p w v : Nat) (hg : 0 < g) (hgw : g ≤ w) (hw : 0 < w) (_hp : p % w = 0) (hv : v < p / w) : Reach at_ g p w v := by
  have hd0 : 0 ≤ (at_ - (v * w : Nat)) % (g : Int) := Int.emod_nonneg _ (by omega)
  have hd1 : (at_ - (v * w : Nat)) % (g : Int) < g := Int.emod_lt_of_pos _ (by omega)
  obtain ⟨d, hd⟩ := Int.eq_ofNat_of_zero_le hd0
  rw [hd] at hd1
  have hdw : d < w := by omega
  refine ⟨v * w + d, ?_, ?_, ?_⟩
  · have h1 : (v + 1) * w ≤ (p / w) * w := Nat.mul_le_mul_right _ hv
    have h2 : (p / w) * w ≤ p := Nat.div_mul_le_self _ _
    rw [Nat.add_mul] at h1
    omega
  · have : (((v * w + d : Nat) : Int) - at_) = -((at_ - (v * w : Nat)) - d) := by omega
    rw [this, ← hd]
    have h3 : (at_ - (v * w : Nat)) - (at_ - (v * w : Nat)) % (g : Int) = g * ((at_ - (v * w : Nat)) / g) := by
      have := Int.mul_ediv_add_emod (at_ - (v * w : Nat)) g
      omega
    rw [h3, ← Int.mul_neg]
    exact Int.mul_emod_right _ _
  · rw [Nat.mul_comm, Nat.mul_add_div hw, Nat.div_eq_of_lt hdw]; rfl

theorem reach_setT (at_ : Int) (g p w v : Nat) (hg : 0 < g) (hgp : g ∣ p) : (setT w g (at_ % (g : Int)).toNat (p / g)).testBit v = true ↔ Reach at_ g p w v := by
  rw [setT_bit]
  have hd0 : 0 ≤ at_ % (g : Int) := Int.emod_nonneg _ (by omega)
  have hd1 : at_ % (g : Int) < g := Int.emod_lt_of_pos _ (by omega)
  obtain ⟨d, hd⟩ := Int.eq_ofNat_of_zero_le hd0
  rw [hd] at hd1 ⊢
  simp only [Int.toNat_natCast]
  obtain ⟨k, rfl⟩ := hgp
  rw [Nat.mul_div_cancel_left _ hg]
  have hat := Int.mul_ediv_add_emod at_ g
  rw [hd] at hat
  constructor
  · rintro ⟨s, hs, e⟩
    refine ⟨d + s * g, ?_, ?_, e⟩
    · have h1 : (s + 1) * g ≤ k * g := Nat.mul_le_mul_right _ hs
      rw [Nat.add_mul] at h1
      rw [Nat.mul_comm g k]
      omega
    · have : (((d + s * g : Nat) : Int) - at_) = g * (s - at_ / g) := by
        rw [Int.mul_sub]
        have e1 : ((s * g : Nat) : Int) = g * s := by rw [Int.natCast_mul, Int.mul_comm]
        omega
      rw [this]
      exact Int.mul_emod_right _ _
  · rintro ⟨q, hq, hm, e⟩
    -- q % g = d
    have hqd : q % g = d := by
      have h1 : (q : Int) % g = at_ % g := (Int.emod_emod_of_dvd _ (Int.dvd_refl _)).symm.trans (by
        rw [Int.emod_emod_of_dvd _ (Int.dvd_refl _)]
        exact (Int.emod_eq_emod_iff_emod_sub_eq_zero).2 hm)
      rw [hd] at h1
      exact_mod_cast h1
    refine ⟨q / g, ?_, ?_⟩
    · exact Nat.div_lt_of_lt_mul hq
    · have := Nat.div_add_mod q g
      rw [hqd] at this
      rw [show d + q / g * g = q by rw [Nat.mul_comm]; omega]
      exact e

/-- WHAT clockValues HOLDS. -/
theorem cv_bit (at_ : Int) (e p w v : Nat) (hw : 0 < w) (hp0 : 0 < p) (hp : p % w = 0) : (cv at_ e p w).testBit v = true ↔ Reach at_ (Nat.gcd e p) p w v := by
  have hg : 0 < Nat.gcd e p := Nat.gcd_pos_of_pos_right _ hp0
  unfold cv
  split
  · rename_i h
    rw [Nat.testBit_two_pow_sub_one, decide_eq_true_eq]
    constructor
    · exact reach_all _ _ _ _ _ hg h hw hp
    · rintro ⟨q, hq, _, rfl⟩
      have h1 := Nat.div_add_mod p w
      rw [hp] at h1
      have h2 : q < w * (p / w) := by omega
      exact Nat.div_lt_of_lt_mul h2
  · exact reach_setT _ _ _ _ _ hg (Nat.gcd_dvd_right e p)

theorem reach_lt {at_ : Int} {g p w v : Nat} (hp : p % w = 0) (h : Reach at_ g p w v) : v < p / w := by
  obtain ⟨q, hq, _, rfl⟩ := h
  have h1 := Nat.div_add_mod p w
  rw [hp] at h1
  exact Nat.div_lt_of_lt_mul (by omega)

theorem cv_lt (at_ : Int) (e p w : Nat) (hw : 0 < w) (hp0 : 0 < p) (hp : p % w = 0) : cv at_ e p w < 2 ^ (p / w) := by
  apply Nat.lt_pow_two_of_testBit
  intro i hi
  cases h : (cv at_ e p w).testBit i with
  | false => rfl
  | true => have := reach_lt hp ((cv_bit at_ e p w i hw hp0 hp).1 h); omega
theorem cv_lt64 (at_ : Int) (e p w : Nat) (hw : 0 < w) (hp0 : 0 < p) (hp : p % w = 0) (hn : p / w ≤ 64) : cv at_ e p w < 18446744073709551616 := by
  have h := cv_lt at_ e p w hw hp0 hp
  have h2 : 2 ^ (p / w) ≤ 2 ^ 64 := Nat.pow_le_pow_right (by decide) hn
  have e : (2 : Nat) ^ 64 = 18446744073709551616 := by decide
  omega

/-- (1) A MULTIPLE OF THE STRIDE REACHES NO MORE. -/
theorem cv_sub (at_ : Int) (e m p w : Nat) (hw : 0 < w) (hp0 : 0 < p) (hp : p % w = 0) (hn : p / w ≤ 64) :
    cv at_ (e * m) p w &&& (18446744073709551615 - cv at_ e p w) = 0 := by
  apply Nat.eq_of_testBit_eq
  intro j
  have hlt := cv_lt64 at_ e p w hw hp0 hp hn
  have hnb : (18446744073709551615 - cv at_ e p w).testBit j = (decide (j < 64) && !(cv at_ e p w).testBit j) := by
    have h := Nat.testBit_two_pow_sub_succ (n := 64) (x := cv at_ e p w) (by simpa using hlt) j
    have e1 : 2 ^ 64 - (cv at_ e p w + 1) = 18446744073709551615 - cv at_ e p w := by
      have : (2 : Nat) ^ 64 = 18446744073709551616 := by decide
      omega
    rw [← e1]; exact h
  rw [Nat.testBit_and, hnb, Nat.zero_testBit]
  cases h : (cv at_ (e * m) p w).testBit j with
  | false => simp
  | true =>
    have h1 := (cv_bit at_ (e * m) p w j hw hp0 hp).1 h
    have h2 : (cv at_ e p w).testBit j = true := by
      refine (cv_bit at_ e p w j hw hp0 hp).2 ?_
      obtain ⟨q, hq, hm, e1⟩ := h1
      refine ⟨q, hq, ?_, e1⟩
      have hdv : Nat.gcd e p ∣ Nat.gcd (e * m) p := Nat.dvd_gcd (Nat.dvd_trans (Nat.gcd_dvd_left e p) (Nat.dvd_mul_right e m)) (Nat.gcd_dvd_right e p)
      exact Int.emod_eq_zero_of_dvd (Int.dvd_trans (Int.natCast_dvd_natCast.2 hdv) (Int.dvd_of_emod_eq_zero hm))
    simp [h2]

/-- The value of at itself. -/
def ownV (at_ : Int) (p w : Nat) : Nat := (at_ % (p : Int)).toNat / w
theorem ownV_lt (at_ : Int) (p w : Nat) (hp0 : 0 < p) (hp : p % w = 0) : ownV at_ p w < p / w := by
  have hd0 : 0 ≤ at_ % (p : Int) := Int.emod_nonneg _ (by omega)
  have hd1 : at_ % (p : Int) < p := Int.emod_lt_of_pos _ (by omega)
  unfold ownV
  have h1 := Nat.div_add_mod p w
  rw [hp] at h1
  exact Nat.div_lt_of_lt_mul (by omega)
/-- (2) BOTH HOLD IT. -/
theorem cv_own (at_ : Int) (e p w : Nat) (hw : 0 < w) (hp0 : 0 < p) (hp : p % w = 0) : (cv at_ e p w).testBit (ownV at_ p w) = true := by
  refine (cv_bit at_ e p w _ hw hp0 hp).2 ?_
  have hd0 : 0 ≤ at_ % (p : Int) := Int.emod_nonneg _ (by omega)
  have hd1 : at_ % (p : Int) < p := Int.emod_lt_of_pos _ (by omega)
  refine ⟨(at_ % (p : Int)).toNat, by omega, ?_, rfl⟩
  have h1 := Int.mul_ediv_add_emod at_ p
  have e1 : (((at_ % (p : Int)).toNat : Int) - at_) = p * (-(at_ / p)) := by rw [Int.mul_neg]; omega
  rw [e1]
  exact Int.emod_eq_zero_of_dvd (Int.dvd_trans (Int.natCast_dvd_natCast.2 (Nat.gcd_dvd_right e p)) (Int.dvd_mul_right _ _))
theorem cv_own_and (at_ : Int) (e p w : Nat) (hw : 0 < w) (hp0 : 0 < p) (hp : p % w = 0) : cv at_ e p w &&& 2 ^ ownV at_ p w ≠ 0 := by
  intro h
  have h1 := congrArg (fun n => n.testBit (ownV at_ p w)) h
  simp [Nat.testBit_and, cv_own at_ e p w hw hp0 hp, Nat.testBit_two_pow_self] at h1
/-- (3) NOTHING AT OR ABOVE period/width. -/
theorem cv_shr (at_ : Int) (e p w : Nat) (hw : 0 < w) (hp0 : 0 < p) (hp : p % w = 0) : cv at_ e p w / 2 ^ (p / w) = 0 :=
  Nat.div_eq_of_lt (cv_lt at_ e p w hw hp0 hp)

/-- THE MODEL, value by value. -/
def modT (at_ : Int) (g w : Nat) : Nat → Nat
  | 0 => 0
  | v + 1 => if (at_ - (v * w : Nat)) % (g : Int) < w then modT at_ g w v ||| 2 ^ v else modT at_ g w v
theorem modT_bit (at_ : Int) (g w n v : Nat) : (modT at_ g w n).testBit v = true ↔ v < n ∧ (at_ - (v * w : Nat)) % (g : Int) < w := by
  induction n with
  | zero => simp [modT]
  | succ n ih =>
    rw [modT]
    split
    · rename_i h
      rw [Nat.testBit_or, Bool.or_eq_true, ih, Nat.testBit_two_pow, decide_eq_true_eq]
      constructor
      · rintro (⟨a, b⟩ | rfl)
        · exact ⟨by omega, b⟩
        · exact ⟨by omega, h⟩
      · rintro ⟨a, b⟩
        by_cases hv : v = n
        · exact .inr hv.symm
        · exact .inl ⟨by omega, b⟩
    · rename_i h
      rw [ih]
      constructor
      · rintro ⟨a, b⟩; exact ⟨by omega, b⟩
      · rintro ⟨a, b⟩
        refine ⟨?_, b⟩
        by_cases hv : v = n
        · subst hv; exact absurd b h
        · omega
theorem slot_reach (at_ : Int) (g p w v : Nat) (hg : 0 < g) (hw : 0 < w) (_hp : p % w = 0) (hv : v < p / w) :
    (at_ - (v * w : Nat)) % (g : Int) < w ↔ Reach at_ g p w v := by
  have hd0 : 0 ≤ (at_ - (v * w : Nat)) % (g : Int) := Int.emod_nonneg _ (by omega)
  obtain ⟨d, hd⟩ := Int.eq_ofNat_of_zero_le hd0
  constructor
  · intro hdw
    rw [hd] at hdw
    have hdw' : d < w := by omega
    refine ⟨v * w + d, ?_, ?_, ?_⟩
    · have h1 : (v + 1) * w ≤ (p / w) * w := Nat.mul_le_mul_right _ hv
      have h2 : (p / w) * w ≤ p := Nat.div_mul_le_self _ _
      rw [Nat.add_mul] at h1
      omega
    · have : (((v * w + d : Nat) : Int) - at_) = -((at_ - (v * w : Nat)) - d) := by omega
      rw [this, ← hd]
      have h3 : (at_ - (v * w : Nat)) - (at_ - (v * w : Nat)) % (g : Int) = g * ((at_ - (v * w : Nat)) / g) := by
        have := Int.mul_ediv_add_emod (at_ - (v * w : Nat)) g
        omega
      rw [h3, ← Int.mul_neg]
      exact Int.mul_emod_right _ _
    · rw [Nat.mul_comm, Nat.mul_add_div hw, Nat.div_eq_of_lt hdw']; rfl
  · rintro ⟨q, hq, hm, rfl⟩
    have h1 := Nat.div_add_mod q w
    have h2 := Nat.mod_lt q hw
    have e1 : (at_ - ((q / w * w : Nat) : Int)) % (g : Int) = ((q % w : Nat) : Int) % g := by
      apply Int.emod_eq_emod_iff_emod_sub_eq_zero.2
      have : at_ - ((q / w * w : Nat) : Int) - ((q % w : Nat) : Int) = -((q : Int) - at_) := by
        have : ((q / w * w : Nat) : Int) + ((q % w : Nat) : Int) = q := by rw [Nat.mul_comm]; omega
        omega
      rw [this]
      exact Int.emod_eq_zero_of_dvd (Int.dvd_neg.2 (Int.dvd_of_emod_eq_zero hm))
    rw [e1]
    have h3 : ((q % w : Nat) : Int) % g ≤ ((q % w : Nat) : Int) := by
      have : q % w % g ≤ q % w := Nat.mod_le _ _
      exact_mod_cast this
    omega

/-- THE MODEL IS clockValues. -/
theorem cv_mod (at_ : Int) (e p w : Nat) (hw : 0 < w) (hp0 : 0 < p) (hp : p % w = 0) : cv at_ e p w = modT at_ (Nat.gcd e p) w (p / w) := by
  have hg : 0 < Nat.gcd e p := Nat.gcd_pos_of_pos_right _ hp0
  apply Nat.eq_of_testBit_eq
  intro v
  rw [Bool.eq_iff_iff, cv_bit at_ e p w v hw hp0 hp, modT_bit]
  constructor
  · intro h
    have hv := reach_lt hp h
    exact ⟨hv, (slot_reach at_ _ p w v hg hw hp hv).2 h⟩
  · rintro ⟨hv, h⟩
    exact (slot_reach at_ _ p w v hg hw hp hv).1 h
end Go.Proofs.Qxb6600419aMods
