import Derived.Test.Qxb6600419aModsYNext
namespace Go.Proofs.Qxb6600419aMods.Years
open Go.RowKit Go.Deep

theorem ret_bool {a b : Bool} (h : a = b) : Ending.returned (.bool a) = .returned (.bool b) := by rw [h]
theorem ret_int {k : IntKind} {a b : Int} (h : a = b) : Ending.returned (.int k a) = .returned (.int k b) := by rw [h]

theorem fmodI (a g : Int) (hg : 1 ≤ g) (hg2 : g ≤ 268435456) : (wrap64 (a.tmod g + g)).tmod g = a % g := by
  have e0 := Int.emod_nonneg a (show g ≠ 0 by omega)
  have e1 := Int.emod_lt_of_pos a (show 0 < g by omega)
  have key : ∀ x : Int, -g < x → x < g → (x - a) % g = 0 → (wrap64 (x + g)).tmod g = a % g := by
    intro x h1 h2 h3
    have hw : wrap64 (x + g) = x + g := by unfold wrap64; omega
    rw [hw, Int.tmod_eq_emod_of_nonneg (by omega)]
    rw [Int.add_emod_right]
    exact Int.emod_eq_emod_iff_emod_sub_eq_zero.2 h3
  by_cases ha : 0 ≤ a
  · rw [Int.tmod_eq_emod_of_nonneg ha]
    refine key _ (by omega) e1 ?_
    have := Int.mul_ediv_add_emod a g
    rw [show a % g - a = g * (-(a / g)) by rw [Int.mul_neg]; omega]
    exact Int.mul_emod_right _ _
  · have hn : a.tmod g = -((-a) % g) := by
      rw [← Int.tmod_eq_emod_of_nonneg (show 0 ≤ -a by omega), Int.neg_tmod, Int.neg_neg]
    have f0 := Int.emod_nonneg (-a) (show g ≠ 0 by omega)
    have f1 := Int.emod_lt_of_pos (-a) (show 0 < g by omega)
    rw [hn]
    refine key _ (by omega) (by omega) ?_
    have := Int.mul_ediv_add_emod (-a) g
    rw [show -((-a) % g) - a = g * ((-a) / g) by omega]
    exact Int.mul_emod_right _ _

theorem fm_any (a g : Int) (w : World) (hg : 1 ≤ g) (hg2 : g ≤ 268435456) : Calls Trym.prog 17 #[.int .i64 a, .int .i64 g] w fun r w' => r = .returned (.int .i64 (a % g)) ∧ w = w' := by
  have hE := fmodI a g hg hg2
  go_enter Trym.func17, Trym.ntmps17
  go_wp2
  go_ret
  exact ⟨rfl, rfl⟩

/-- Does the span (s, e, t) hold v? -/
def hb (s e t v : Int) : Bool := decide (s ≤ v) && decide (v ≤ mx e s) && ((v - s) % mx t 1 == 0)
theorem hb_holds (Y : Nat → Nat → Int) (i : Nat) (v : Int) : hb (Y i 0) (Y i 1) (Y i 2) v = true ↔ Holds Y i v := by
  unfold hb Holds
  simp only [Bool.and_eq_true, decide_eq_true_eq, beq_iff_eq, and_assoc]

theorem sh_any (s e t v : Int) (w : World) (h1 : In s) (h2 : In e) (h3 : In t) (h4 : -1073741824 ≤ v ∧ v ≤ 1073741824) :
    Calls Trym.prog 18 #[.agg #[.int .i64 s, .int .i64 e, .int .i64 t], .int .i64 v] w fun r w' => r = .returned (.bool (hb s e t v)) ∧ Below w.heap.size w w' := by
  have hbe : ∀ o n, Below w.heap.size w ((w.alloc o).drewN n) := fun o n => below_drewN ((Below.refl _ _).alloc (Nat.le_refl _) _) _
  have i1 := h1
  have i2 := h2
  have i3 := h3
  unfold In at i1 i2 i3
  have hcs : ∃ E T, hb s e t v = (decide (s ≤ v) && decide (v ≤ E) && ((v - s) % T == 0)) ∧ 1 ≤ T ∧ T ≤ 268435456 ∧ ((e < s ∧ E = s) ∨ (¬ e < s ∧ E = e)) ∧ ((t < 1 ∧ T = 1) ∨ (¬ t < 1 ∧ T = t)) := by
    refine ⟨mx e s, mx t 1, rfl, mx_one t, ?_, ?_, ?_⟩
    · unfold mx; split <;> omega
    · unfold mx; split <;> simp_all
    · unfold mx; split <;> simp_all
  obtain ⟨E, T, hB, hT1, hT2, hE, hT⟩ := hcs
  rw [hB]
  clear hB h1 h2 h3
  have three : v < s ∨ (¬ v < s ∧ E < v) ∨ (¬ v < s ∧ ¬ E < v) := by omega
  rcases hE with ⟨c1, hE⟩ | ⟨c1, hE⟩
  all_goals
    rcases hT with ⟨c2, hT⟩ | ⟨c2, hT⟩
    all_goals
      subst hE hT
      rcases three with c3 | ⟨c3, c4⟩ | ⟨c3, c4⟩
      all_goals
        go_enter Trym.func18, Trym.ntmps18
        go_wp2
        go_quiet (fail)
        go_wp2_with (go_at_call 17; refine (fm_any _ _ _ (by omega) (by omega)).mono ?_; rintro r w1 ⟨rfl, rfl⟩)
        go_ret
        refine ⟨ret_bool ?_, hbe _ _⟩
        first | rfl | (simp; omega)
end Go.Proofs.Qxb6600419aMods.Years
