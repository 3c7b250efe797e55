import Derived.Test.Qxb6600419aModsRows
import Derived.Test.Qxb6600419aModsPlain
import Derived.WalkKit
import Derived.WalkSpells
import Derived.WalkLawsBesides
import Derived.Below
import Derived.Deep.QuietTactic
import Derived.BigQuiet
namespace Go.Proofs.Qxb6600419aMods
open Go.RowKit

theorem ret_int {k : IntKind} {a b : Int} (h : a = b) : Ending.returned (.int k a) = .returned (.int k b) := by rw [h]
theorem val_int {k : IntKind} {a b : Int} (h : a = b) : Value.int k a = .int k b := by rw [h]
theorem ret_bool {a b : Bool} (h : a = b) : Ending.returned (.bool a) = .returned (.bool b) := by rw [h]
theorem gcd_step (x y : Nat) : Nat.gcd y (x % y) = Nat.gcd x y := by
  rw [Nat.gcd_comm x y, Nat.gcd_rec y x, Nat.gcd_comm]

theorem gcd_any (a b : Nat) (w : World) (ha : a ≤ 9223372036854775807) (hb : b ≤ 9223372036854775807) :
    Calls Trym.prog 22 #[.int .i64 a, .int .i64 b] w fun e w' => e = .returned (.int .i64 (Nat.gcd a b : Nat)) ∧ ∃ n, w' = w.drewN n := by
  go_enter Trym.func22, Trym.ntmps22
  go_wp2
  go_loopw [0, 1] (fun s t wr => ∃ x y q : Nat, s = .int .i64 x ∧ t = .int .i64 y ∧ Hid (Nat.gcd x y = Nat.gcd a b) ∧ x ≤ 9223372036854775807 ∧ y ≤ 9223372036854775807 ∧ wr = w.drewN q) (fun _ t _ => (intOf t).toNat)
  case atStart => exact ⟨a, b, 0, rfl, rfl, rfl, ha, hb, rfl⟩
  case round =>
    obtain ⟨x, y, q, rfl, rfl, HG, hx, hy, rfl⟩ := hrel
    by_cases hy0 : 0 < y
    · go_wp2
      go_quiet (fail)
      go_wp2
      have hm := Nat.mod_lt x hy0
      go_roundw
      case rel => exact ⟨y, x % y, _, rfl, val_int (by simp), (gcd_step x y).trans HG.out, hy, by omega, World.drewN_drewN _ _ _⟩
      case measure => simp [intOf]; omega
    · have hy1 : y = 0 := by omega
      subst hy1
      go_wp2
      go_ret
      have hG := HG.out
      rw [Nat.gcd_zero_right] at hG
      exact ⟨ret_int (by rw [hG]), _, rfl⟩

theorem fmod_eq (a : Int) (g : Nat) (hg : 0 < g) (hg2 : g ≤ 70368744177664) : (wrap64 (a.tmod (g : Int) + (g : Int))).tmod (g : Int) = (((a % (g : Int)).toNat : Nat) : Int) := by
  have hg' : (0 : Int) < g := by omega
  have e0 := Int.emod_nonneg a (show (g : Int) ≠ 0 by omega)
  have e1 := Int.emod_lt_of_pos a hg'
  have key : ∀ x : Int, -(g : Int) < x → x < g → (x - a) % (g : Int) = 0 → (wrap64 (x + (g : Int))).tmod (g : Int) = a % (g : Int) := by
    intro x h1 h2 h3
    have hw : wrap64 (x + (g : Int)) = x + g := by unfold wrap64; omega
    rw [hw, Int.tmod_eq_emod_of_nonneg (by omega)]
    rw [Int.add_emod_right]
    exact Int.emod_eq_emod_iff_emod_sub_eq_zero.2 h3
  rw [Int.toNat_of_nonneg e0]
  by_cases ha : 0 ≤ a
  · rw [Int.tmod_eq_emod_of_nonneg ha]
    refine key _ (by omega) e1 ?_
    have := Int.mul_ediv_add_emod a g
    rw [show a % (g : Int) - a = (g : Int) * (-(a / g)) by rw [Int.mul_neg]; omega]
    exact Int.mul_emod_right _ _
  · have hn : a.tmod (g : Int) = -((-a) % (g : Int)) := by
      rw [← Int.tmod_eq_emod_of_nonneg (show 0 ≤ -a by omega), Int.neg_tmod, Int.neg_neg]
    have f0 := Int.emod_nonneg (-a) (show (g : Int) ≠ 0 by omega)
    have f1 := Int.emod_lt_of_pos (-a) hg'
    rw [hn]
    refine key _ (by omega) (by omega) ?_
    have := Int.mul_ediv_add_emod (-a) g
    rw [show -((-a) % (g : Int)) - a = (g : Int) * ((-a) / g) by omega]
    exact Int.mul_emod_right _ _

theorem shl_eq (x v : Nat) (h : x / v ≤ 64) : IntKind.u64.wrap (2 ^ min (IntKind.u64.wrap (wrap64 ((x : Int) / (v : Int)))).toNat 64) = ((2 ^ (x / v) % 18446744073709551616 : Nat) : Int) := by
  have e : (x : Int) / (v : Int) = ((x / v : Nat) : Int) := by simp
  rw [e]
  generalize x / v = y at h ⊢
  have hw : wrap64 (y : Int) = y := by unfold wrap64; omega
  have hu : IntKind.u64.wrap (y : Int) = y := by rw [IntKind.wrap_u64]; omega
  have hm : min (y : Int).toNat 64 = y := by omega
  rw [hw, hu, hm, IntKind.wrap_u64]
  simp
theorem full_eq (x v : Nat) (h : x / v ≤ 64) : IntKind.u64.wrap (IntKind.u64.wrap (2 ^ min (IntKind.u64.wrap (wrap64 ((x : Int) / (v : Int)))).toNat 64) - 1) = ((2 ^ (x / v) - 1 : Nat) : Int) := by
  rw [shl_eq x v h, IntKind.wrap_u64]
  have h2 : 2 ^ (x / v) ≤ 2 ^ 64 := Nat.pow_le_pow_right (by decide) h
  have e64 : (2 : Nat) ^ 64 = 18446744073709551616 := by decide
  have h1 : 0 < 2 ^ (x / v) := Nat.two_pow_pos _
  omega
theorem pow_lt (y : Nat) (h : y < 64) : 2 ^ y < 18446744073709551616 := by
  have h2 : 2 ^ y < 2 ^ 64 := Nat.pow_lt_pow_right (by decide) h
  have e64 : (2 : Nat) ^ 64 = 18446744073709551616 := by decide
  omega
theorem or_lt (S x v : Nat) (hS : S < 18446744073709551616) (h : x / v < 64) : S ||| 2 ^ (x / v) < 18446744073709551616 := by
  have := Nat.or_lt_two_pow (n := 64) (x := S) (y := 2 ^ (x / v)) (by simpa using hS) (by simpa using pow_lt _ h)
  simpa using this
theorem or_eq (S x v : Nat) (hS : S < 18446744073709551616) (h : x / v < 64) : bits BinOp.or IntKind.u64 (S : Int) (IntKind.u64.wrap (2 ^ min (IntKind.u64.wrap (wrap64 ((x : Int) / (v : Int)))).toNat 64)) = ((S ||| 2 ^ (x / v) : Nat) : Int) := by
  rw [shl_eq x v (by omega), Nat.mod_eq_of_lt (pow_lt _ h)]
  exact u64_or_nat _ _ hS (pow_lt _ h)
theorem div_lt_64 (x p v : Nat) (h : x < p) (hp0 : p % v = 0) (hp1 : p / v ≤ 64) : x / v < 64 := by
  have h1 := Nat.div_add_mod p v
  have : x / v < p / v := Nat.div_lt_of_lt_mul (by omega)
  omega
theorem lt_of (a k g p : Nat) (hd : g ∣ p) (h : a + k * g < p) : k + 1 ≤ p / g := by
  have h1 := Nat.div_mul_cancel hd
  have h2 : k * g < (p / g) * g := by omega
  exact Nat.lt_of_mul_lt_mul_right h2
theorem ge_of (a k g p : Nat) (hd : g ∣ p) (ha : a < g) (h : p ≤ a + k * g) : p / g ≤ k := by
  have h1 := Nat.div_mul_cancel hd
  have h2 : (p / g) * g < (k + 1) * g := by rw [Nat.add_mul]; omega
  have := Nat.lt_of_mul_lt_mul_right h2
  omega

theorem cv_any (at_ : Int) (e p v : Nat) (w : World) (he : e ≤ 9223372036854775807) (hv : 1 ≤ v) (hv2 : v ≤ 1099511627776) (hp : v ≤ p) (hp0 : p % v = 0) (hp1 : p / v ≤ 64) :
    Calls Trym.prog 21 #[.int .i64 at_, .int .i64 e, .int .i64 p, .int .i64 v] w fun e' w' => e' = .returned (.int .u64 (cv at_ e p v : Nat)) ∧ ∃ n, w' = w.drewN n := by
  have hP : p ≤ 70368744177664 := by
    have h := Nat.div_add_mod p v
    have h2 : v * (p / v) ≤ 1099511627776 * 64 := Nat.mul_le_mul hv2 hp1
    omega
  go_enter Trym.func21, Trym.ntmps21
  go_wp2
  go_loopw [9, 10] (fun s t wr => ∃ x y q : Nat, s = .int .i64 x ∧ t = .int .i64 y ∧ Hid (Nat.gcd x y = Nat.gcd e p) ∧ x ≤ 9223372036854775807 ∧ y ≤ 9223372036854775807 ∧ wr = w.drewN q) (fun _ t _ => (intOf t).toNat)
  case atStart => exact ⟨e, p, 0, rfl, rfl, rfl, he, by omega, rfl⟩
  case round =>
    obtain ⟨x, y, q, rfl, rfl, HG, hx, hy, rfl⟩ := hrel
    by_cases hy0 : 0 < y
    · go_wp2
      go_quiet (fail)
      go_wp2
      have hm := Nat.mod_lt x hy0
      go_roundw
      case rel => exact ⟨y, x % y, _, rfl, val_int (by simp), (gcd_step x y).trans HG.out, hy, by omega, World.drewN_drewN _ _ _⟩
      case measure => simp [intOf]; omega
    · have hy1 : y = 0 := by omega
      subst hy1
      have hG := HG.out
      rw [Nat.gcd_zero_right] at hG
      subst hG
      have hg0 : 0 < Nat.gcd e p := Nat.gcd_pos_of_pos_right _ (by omega)
      have hgp : Nat.gcd e p ≤ p := Nat.gcd_le_right _ (by omega)
      have HD : Hid (Nat.gcd e p ∣ p) := Nat.gcd_dvd_right e p
      have HC : Hid (cv at_ e p v = if Nat.gcd e p ≤ v then 2 ^ (p / v) - 1 else setT v (Nat.gcd e p) (at_ % (Nat.gcd e p : Int)).toNat (p / Nat.gcd e p)) := rfl
      generalize Nat.gcd e p = g at hg0 hgp HD HC hx ⊢
      clear HG hx hy hy0
      by_cases hgv : g ≤ v
      · go_wp2
        go_ret
        exact ⟨ret_int (by rw [HC.out, if_pos hgv]; exact full_eq p v hp1), _, rfl⟩
      · have hE := fmod_eq at_ g hg0 (by omega)
        have ha0 : (at_ % (g : Int)).toNat < g := by
          have h2 := Int.emod_lt_of_pos at_ (show (0 : Int) < g by omega)
          omega
        have HC2 : Hid (cv at_ e p v = setT v g (at_ % (g : Int)).toNat (p / g)) := HC.out.trans (if_neg hgv)
        clear HC
        generalize (at_ % (g : Int)).toNat = a0 at hE ha0 HC2
        go_wp2
        clear hE
        go_loop [11, 12] (fun s t => ∃ S qn k : Nat, s = .int .u64 S ∧ t = .int .i64 qn ∧ Hid (qn = a0 + k * g) ∧ Hid (S = setT v g a0 k) ∧ k ≤ p / g ∧ qn ≤ 140737488355328 ∧ S < 18446744073709551616) (fun _ t => p - (intOf t).toNat)
        case atStart => exact ⟨0, a0, 0, rfl, rfl, show a0 = a0 + 0 * g by omega, rfl, Nat.zero_le _, by omega, by decide⟩
        case round =>
          obtain ⟨S, qn, k, rfl, rfl, HQ, HS, hk, hq, hS⟩ := hrel
          by_cases hlt : qn < p
          · have hdiv := div_lt_64 qn p v hlt hp0 hp1
            go_wp2
            go_round
            case rel => exact ⟨S ||| 2 ^ (qn / v), qn + g, k + 1, val_int (or_eq S qn v hS hdiv), by go_num, show qn + g = a0 + (k + 1) * g by rw [HQ.out, Nat.add_mul]; omega, show S ||| 2 ^ (qn / v) = setT v g a0 (k + 1) by rw [setT, HS.out, HQ.out], lt_of a0 k g p HD.out (by rw [← HQ.out]; exact hlt), by omega, or_lt S qn v hS hdiv⟩
            case measure => simp [intOf]; omega
          · have HK : Hid (k = p / g) := Nat.le_antisymm hk (ge_of a0 k g p HD.out ha0 (by rw [← HQ.out]; omega))
            go_wp2
            go_ret
            exact ⟨ret_int (by rw [HC2.out, HS.out, HK.out]), _, rfl⟩

theorem zzcv_any (at_ : Int) (e p v : Nat) (w : World) (he : e ≤ 9223372036854775807) (hv : 1 ≤ v) (hv2 : v ≤ 1099511627776) (hp : v ≤ p) (hp0 : p % v = 0) (hp1 : p / v ≤ 64) :
    Calls Trym.prog 10 #[.int .i64 at_, .int .i64 e, .int .i64 p, .int .i64 v] w fun e' w' => e' = .returned (.int .u64 (cv at_ e p v : Nat)) ∧ ∃ n, w' = w.drewN n := by
  go_enter Trym.func10, Trym.ntmps10
  go_wp2_with (go_at_call 21; refine (cv_any at_ e p v _ he hv hv2 hp hp0 hp1).mono ?_; rintro e' w' ⟨rfl, n, rfl⟩)
  go_ret
  exact ⟨rfl, _, rfl⟩

/-- Inside the domain of the laws. -/
def Dom (e p v : Int) : Prop := 1 ≤ v ∧ v ≤ 1099511627776 ∧ v ≤ p ∧ p % v = 0 ∧ p / v ≤ 64 ∧ 0 ≤ e
theorem ood_no (e p v : Int) (w : World) (hp1 : p ≤ 9223372036854775807) (h : Dom e p v) :
    Calls Trym.prog 9 #[.int .i64 e, .int .i64 p, .int .i64 v] w fun e' w' => e' = .returned (.bool false) ∧ w = w' := by
  obtain ⟨d1, d2, d3, d4, d5, d6⟩ := h
  go_enter Trym.func9, Trym.ntmps9
  go_wp2
  go_ret
  exact ⟨ret_bool (decide_eq_false (by omega)), rfl⟩
theorem ood_yes (e p v : Int) (w : World) (hp1 : p ≤ 9223372036854775807) (h : ¬ Dom e p v) :
    Calls Trym.prog 9 #[.int .i64 e, .int .i64 p, .int .i64 v] w fun e' w' => e' = .returned (.bool true) ∧ w = w' := by
  by_cases c1 : v < 1
  · go_enter Trym.func9, Trym.ntmps9
    go_wp2
    go_ret
    exact ⟨rfl, rfl⟩
  by_cases c2 : 1099511627776 < v
  · go_enter Trym.func9, Trym.ntmps9
    go_wp2
    go_ret
    exact ⟨rfl, rfl⟩
  by_cases c3 : p < v
  · go_enter Trym.func9, Trym.ntmps9
    go_wp2
    go_ret
    exact ⟨rfl, rfl⟩
  by_cases c4 : p % v = 0
  · by_cases c5 : 64 < p / v
    · go_enter Trym.func9, Trym.ntmps9
      go_wp2
      go_ret
      exact ⟨rfl, rfl⟩
    · by_cases c6 : e < 0
      · go_enter Trym.func9, Trym.ntmps9
        go_wp2
        go_ret
        exact ⟨rfl, rfl⟩
      · exact absurd ⟨by omega, by omega, by omega, c4, by omega, by omega⟩ h
  · have c4' : (p % v == 0) = false := by simpa using c4
    go_enter Trym.func9, Trym.ntmps9
    go_wp2
    go_ret
    exact ⟨rfl, rfl⟩

theorem em_cast (e m : Nat) : (e : Int) * (m : Int) = ((e * m : Nat) : Int) := by simp

/-- All that the law's tail asks of the two sets. -/
theorem stride_facts (at_ : Int) (e m p v : Nat) (hv : 1 ≤ v) (hp : v ≤ p) (hP : p ≤ 70368744177664) (hp0 : p % v = 0) (hp1 : p / v ≤ 64) :
    ∃ C F O N Y A A' : Nat, cv at_ (e * m) p v = C ∧ cv at_ e p v = F ∧ (wrap64 (at_.tmod (p : Int) + (p : Int))).tmod (p : Int) = (O : Int) ∧
      IntKind.u64.wrap (2 ^ min (IntKind.u64.wrap (wrap64 ((O : Int) / (v : Int)))).toNat 64) = (Y : Int) ∧ bits BinOp.andNot IntKind.u64 (C : Int) (F : Int) = 0 ∧
      bits BinOp.and IntKind.u64 (F : Int) (Y : Int) = (A : Int) ∧ bits BinOp.and IntKind.u64 (C : Int) (Y : Int) = (A' : Int) ∧ 0 < A ∧ 0 < A' ∧
      (p : Int) / (v : Int) = (N : Int) ∧ N ≤ 64 ∧ (F : Int) / 2 ^ N = 0 ∧ (C : Int) / 2 ^ N = 0 := by
  have hcl := cv_lt64 at_ (e * m) p v hv (by omega) hp0 hp1
  have hfl := cv_lt64 at_ e p v hv (by omega) hp0 hp1
  have ho := ownV_lt at_ p v (by omega) hp0
  have hy : 2 ^ ownV at_ p v < 18446744073709551616 := pow_lt _ (by omega)
  refine ⟨cv at_ (e * m) p v, cv at_ e p v, (at_ % (p : Int)).toNat, p / v, 2 ^ ownV at_ p v, cv at_ e p v &&& 2 ^ ownV at_ p v, cv at_ (e * m) p v &&& 2 ^ ownV at_ p v, rfl, rfl, fmod_eq at_ p (by omega) hP, ?_, ?_, ?_, ?_, ?_, ?_, by simp, hp1, ?_, ?_⟩
  · rw [shl_eq _ v (by show ownV at_ p v ≤ 64; omega)]
    show ((2 ^ ownV at_ p v % 18446744073709551616 : Nat) : Int) = _
    rw [Nat.mod_eq_of_lt hy]
  · rw [u64_andNot_nat _ _ hcl hfl, cv_sub at_ e m p v hv (by omega) hp0 hp1]; rfl
  · exact u64_and_nat _ _ hfl hy
  · exact u64_and_nat _ _ hcl hy
  · exact Nat.pos_of_ne_zero (cv_own_and at_ e p v hv (by omega) hp0)
  · exact Nat.pos_of_ne_zero (cv_own_and at_ (e * m) p v hv (by omega) hp0)
  · have h := cv_shr at_ e p v hv (by omega) hp0
    have e1 : ((2 : Int) ^ (p / v)) = ((2 ^ (p / v) : Nat) : Int) := by simp
    rw [e1]
    exact_mod_cast h
  · have h := cv_shr at_ (e * m) p v hv (by omega) hp0
    have e1 : ((2 : Int) ^ (p / v)) = ((2 ^ (p / v) : Nat) : Int) := by simp
    rw [e1]
    exact_mod_cast h

/-- The law, inside its domain. -/
theorem stride_core (at_ : Int) (e m p v : Nat) (w : World) (he : e ≤ 9223372036854775807) (hv : 1 ≤ v) (hv2 : v ≤ 1099511627776) (hp : v ≤ p) (hp0 : p % v = 0) (hp1 : p / v ≤ 64) (hm : m ≤ 65536) (hem : e * m ≤ 9223372036854775807) :
    Calls Trym.prog 5 #[.int .i64 at_, .int .i64 e, .int .i64 m, .int .i64 p, .int .i64 v] w fun e' w' => e' = .returned (.bool true) ∧ Grown w w' := by
  have hP : p ≤ 70368744177664 := by
    have h := Nat.div_add_mod p v
    have h2 : v * (p / v) ≤ 1099511627776 * 64 := Nat.mul_le_mul hv2 hp1
    omega
  have hD : Dom e p v := ⟨by omega, by omega, by omega, by exact_mod_cast hp0, by exact_mod_cast hp1, by omega⟩
  have hem2 : (e : Int) * (m : Int) ≤ 9223372036854775807 := by rw [em_cast]; omega
  have hem3 : 0 ≤ (e : Int) * (m : Int) := by rw [em_cast]; omega
  have hq : m ≤ 0 ∨ (0 < m ∧ ¬ (9223372036854775807 / (m : Int) < (e : Int))) := by
    by_cases hm0 : 0 < m
    · have := (Int.le_ediv_iff_mul_le (a := (e : Int)) (b := 9223372036854775807) (show (0 : Int) < (m : Int) by omega)).2 hem2
      exact .inr ⟨hm0, by omega⟩
    · exact .inl (by omega)
  obtain ⟨C, F, O, N, Y, A, A', eC, eF, hE, hX, H1, H2, H3, hA, hA', hN, hN64, H4, H5⟩ := stride_facts at_ e m p v hv hp hP hp0 hp1
  have HC : Hid (cv at_ (e * m) p v = C) := eC
  have HF : Hid (cv at_ e p v = F) := eF
  clear eF eC
  rcases hq with hq | ⟨hm0, hq⟩
  all_goals
    go_enter Trym.func5, Trym.ntmps5
    go_wp2_with (go_at_call 9; refine (ood_no _ _ _ _ (by omega) hD).mono ?_; rintro e' w' ⟨rfl, rfl⟩)
    refine (zzcv_any at_ e p v _ he hv hv2 hp hp0 hp1).mono ?_
    rw [HF.out]
    rintro e' w1 ⟨rfl, n1, rfl⟩
    go_wp2_with fail
    rw [em_cast]
    refine (zzcv_any at_ (e * m) p v _ hem hv hv2 hp hp0 hp1).mono ?_
    rw [HC.out]
    rintro e' w2 ⟨rfl, n2, rfl⟩
    clear hp0 hp1 hD hem hem2 hem3 hP
    have hA2 : ((A : Int) == 0) = false := by simp; omega
    have hA3 : ((A' : Int) == 0) = false := by simp; omega
    by_cases hN : N < 64
    all_goals
      go_wp2_with fail
      go_ret
      exact ⟨rfl, Grown.refl _⟩
end Go.Proofs.Qxb6600419aMods
