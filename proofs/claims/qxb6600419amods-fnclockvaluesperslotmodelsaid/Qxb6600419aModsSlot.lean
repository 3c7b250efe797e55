import Derived.Test.Qxb6600419aModsClock
namespace Go.Proofs.Qxb6600419aMods
open Go.RowKit

theorem or2_lt (S k : Nat) (hS : S < 18446744073709551616) (h : k < 64) : S ||| 2 ^ k < 18446744073709551616 := by
  have := Nat.or_lt_two_pow (n := 64) (x := S) (y := 2 ^ k) (by simpa using hS) (by simpa using pow_lt _ h)
  simpa using this
theorem or2_eq (S k : Nat) (hS : S < 18446744073709551616) (h : k < 64) : bits BinOp.or IntKind.u64 (S : Int) (IntKind.u64.wrap (2 ^ k)) = ((S ||| 2 ^ k : Nat) : Int) := by
  have hk := pow_lt k h
  have e : IntKind.u64.wrap (2 ^ k) = ((2 ^ k : Nat) : Int) := by
    rw [IntKind.wrap_u64]
    have e1 : ((2 : Int) ^ k) = ((2 ^ k : Nat) : Int) := by simp
    rw [e1]
    generalize 2 ^ k = y at hk ⊢
    omega
  rw [e]
  exact u64_or_nat _ _ hS hk
theorem modT_yes (at_ : Int) (g w v : Nat) (h : (at_ - (v * w : Nat)) % (g : Int) < w) : modT at_ g w (v + 1) = modT at_ g w v ||| 2 ^ v := by rw [modT, if_pos h]
theorem modT_no (at_ : Int) (g w v : Nat) (h : ¬ (at_ - (v * w : Nat)) % (g : Int) < w) : modT at_ g w (v + 1) = modT at_ g w v := by rw [modT, if_neg h]
theorem slot_rest (at_ : Int) (a0 g L : Nat) (hg : 0 < g) (ha : (a0 : Int) = at_ % (g : Int)) : (((((a0 : Int) - ((L % g : Nat) : Int)) % (g : Int)).toNat : Nat) : Int) = (at_ - (L : Int)) % (g : Int) := by
  rw [Int.toNat_of_nonneg (Int.emod_nonneg _ (by omega)), ha, Int.natCast_emod]
  exact (Int.sub_emod _ _ _).symm

/-- clockModel. -/
theorem model_any (at_ : Int) (e p v : Nat) (w : World) (he : e ≤ 9223372036854775807) (hv : 1 ≤ v) (hv2 : v ≤ 1099511627776) (hp : v ≤ p) (hp0 : p % v = 0) (hp1 : p / v ≤ 64) :
    Calls Trym.prog 11 #[.int .i64 at_, .int .i64 e, .int .i64 p, .int .i64 v] w fun e' w' => e' = .returned (.int .u64 (modT at_ (Nat.gcd e p) v (p / v) : Nat)) ∧ ∃ n, w' = w.drewN n := by
  have hP : p ≤ 70368744177664 := by
    have h := Nat.div_add_mod p v
    have h2 : v * (p / v) ≤ 1099511627776 * 64 := Nat.mul_le_mul hv2 hp1
    omega
  have hg0 : 0 < Nat.gcd e p := Nat.gcd_pos_of_pos_right _ (by omega)
  have hgp : Nat.gcd e p ≤ p := Nat.gcd_le_right _ (by omega)
  have HG : Hid (∀ w, Calls Trym.prog 22 #[.int .i64 e, .int .i64 p] w fun e' w' => e' = .returned (.int .i64 (Nat.gcd e p : Nat)) ∧ ∃ n, w' = w.drewN n) := fun w => gcd_any e p w he (by omega)
  generalize Nat.gcd e p = g at hg0 hgp HG ⊢
  have hE := fmod_eq at_ g hg0 (by omega)
  have ha0 : (at_ % (g : Int)).toNat < g := by
    have h2 := Int.emod_lt_of_pos at_ (show (0 : Int) < g by omega)
    omega
  have HA : Hid ((((at_ % (g : Int)).toNat : Nat) : Int) = at_ % (g : Int)) := Int.toNat_of_nonneg (Int.emod_nonneg at_ (show (g : Int) ≠ 0 by omega))
  generalize (at_ % (g : Int)).toNat = a0 at hE ha0 HA
  have hN : (p : Int) / (v : Int) = ((p / v : Nat) : Int) := by simp
  have HPN : Hid (v * (p / v) = p) := by have := Nat.div_add_mod p v; show v * (p / v) = p; omega
  generalize p / v = N at hN hp1 HPN ⊢
  clear hp0
  go_enter Trym.func11, Trym.ntmps11
  go_wp2_with (go_at_call 22; refine (HG.out _).mono ?_; rintro e' w1 ⟨rfl, n1, rfl⟩)
  clear hE hN
  go_loop [12, 13, 14, 15] (fun s t _ _ => ∃ S k : Nat, s = .int .u64 S ∧ t = .int .i64 k ∧ Hid (S = modT at_ g v k) ∧ k ≤ N ∧ S < 18446744073709551616) (fun _ t _ _ => N - (intOf t).toNat)
  case atStart => exact ⟨0, 0, rfl, rfl, rfl, Nat.zero_le _, by decide⟩
  case round =>
    obtain ⟨S, k, rfl, rfl, HS, hk, hS⟩ := hrel
    by_cases hlt : k < N
    · have hL : (k : Int) * (v : Int) = ((k * v : Nat) : Int) := by simp
      have hLb : k * v ≤ p := by
        have h1 : k * v ≤ N * v := Nat.mul_le_mul_right _ (by omega)
        have h2 := HPN.out
        rw [Nat.mul_comm] at h2
        omega
      have hM : ((k * v : Nat) : Int) % (g : Int) = (((k * v) % g : Nat) : Int) := by simp
      have hMb : (k * v) % g < g := Nat.mod_lt _ hg0
      have hE2 := fmod_eq ((a0 : Int) - (((k * v) % g : Nat) : Int)) g hg0 (by omega)
      have HR : Hid (((((((a0 : Int) - (((k * v) % g : Nat) : Int)) % (g : Int)).toNat : Nat) : Int)) = (at_ - ((k * v : Nat) : Int)) % (g : Int)) := slot_rest at_ a0 g (k * v) hg0 HA.out
      generalize (((a0 : Int) - (((k * v) % g : Nat) : Int)) % (g : Int)).toNat = D at hE2 HR
      generalize (k * v) % g = M at hM hMb hE2
      have HLv : Hid (k * v = k * v) := rfl
      generalize hKV : k * v = L at hL hLb hM HR
      have HKV : Hid (k * v = L) := hKV
      clear hKV HLv
      by_cases hDv : D < v
      · go_wp2
        go_round
        case rel => exact ⟨S ||| 2 ^ k, k + 1, val_int (or2_eq S k hS (by omega)), by go_num, show S ||| 2 ^ k = modT at_ g v (k + 1) by rw [HS.out]; exact (modT_yes at_ g v k (by rw [HKV.out, ← HR.out]; omega)).symm, by omega, or2_lt S k hS (by omega)⟩
        case measure => simp [intOf]; omega
      · go_wp2
        go_round
        case rel => exact ⟨S, k + 1, rfl, by go_num, show S = modT at_ g v (k + 1) by rw [HS.out]; exact (modT_no at_ g v k (by rw [HKV.out, ← HR.out]; omega)).symm, by omega, hS⟩
        case measure => simp [intOf]; omega
    · go_wp2
      go_ret
      exact ⟨ret_int (by rw [HS.out, show k = N by omega]), _, rfl⟩

/-- The law, inside its domain. -/
theorem slot_core (at_ : Int) (e p v : Nat) (w : World) (he : e ≤ 9223372036854775807) (hv : 1 ≤ v) (hv2 : v ≤ 1099511627776) (hp : v ≤ p) (hp0 : p % v = 0) (hp1 : p / v ≤ 64) :
    Calls Trym.prog 3 #[.int .i64 at_, .int .i64 e, .int .i64 p, .int .i64 v] w fun e' w' => e' = .returned (.bool true) ∧ Grown w w' := by
  have hP : p ≤ 70368744177664 := by
    have h := Nat.div_add_mod p v
    have h2 : v * (p / v) ≤ 1099511627776 * 64 := Nat.mul_le_mul hv2 hp1
    omega
  have hD : Dom e p v := ⟨by omega, by omega, by omega, by exact_mod_cast hp0, by exact_mod_cast hp1, by omega⟩
  have HM : Hid (cv at_ e p v = modT at_ (Nat.gcd e p) v (p / v)) := cv_mod at_ e p v hv (by omega) hp0
  go_enter Trym.func3, Trym.ntmps3
  go_wp2_with (first
    | (go_at_call 9; refine (ood_no _ _ _ _ (by omega) hD).mono ?_; rintro e' w' ⟨rfl, rfl⟩)
    | (go_at_call 10; refine (zzcv_any at_ e p v _ he hv hv2 hp hp0 hp1).mono ?_; rw [HM.out]; rintro e' w1 ⟨rfl, n1, rfl⟩)
    | (go_at_call 11; refine (model_any at_ e p v _ he hv hv2 hp hp0 hp1).mono ?_; rintro e' w2 ⟨rfl, n2, rfl⟩))
  go_ret
  exact ⟨ret_bool (by simp), Grown.refl _⟩
end Go.Proofs.Qxb6600419aMods
