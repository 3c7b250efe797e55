/-
  THE PROOF OF 'Rows.FnNextYearLeastMemberAtOrAfterSaid': the frame is the guide's shell (proof-skeleton.mjs) for a slice and an integer, turned by the prover to a slice of arrays; the walk is filled out of Qxb6600419aModsYWalk.lean.
-/
import Derived.Test.Qxb6600419aModsRows
import Derived.Test.Qxb6600419aModsYWalk
import Derived.Deep.Slices
import Derived.WalkKit
import Derived.ProofKit
import Derived.OpenShut
import Derived.ShutString
import Derived.ChangeOld
import Derived.Below
namespace Go.Proofs.Qxb6600419aMods.fnNextYearLeastMemberAtOrAfter
open Go.ChangeShapes Go.WideShapes Go.ChangeAt Go.RowKit Go.Deep Years
open Go.ChangeMaps (open_string shut_string)
set_option linter.unusedVariables false

theorem own : ownKnob Trym.prog.godebug = none := by kernel_rfl
theorem laidOut : laidOutB Trym.prog = true := by kernel_rfl

theorem Trym.cells35 : Trym.prog.cellsOf 35 = 3 := by kernel_rfl
theorem Trym.cells3 : Trym.prog.cellsOf 3 = 1 := by kernel_rfl

/-- WHAT THE WALK IS TOLD OF THE YEARS THAT CAME IN: the slice is nil, or each of its elements is a row of three numbers. -/
def IsYears (w : World) (a : Option Addr) (len cap : Nat) (Y : Nat → Nat → Int) : Prop := (a = none → len = 0 ∧ cap = 0) ∧ LiesY w a Y len

/-- One element opened. -/
theorem open_year {H : Type} {enc : TypeId × Value → H} {w : World} {base n : Nat} {spare : Nat → Bool} {held : Bool} {a : Addr} {cs : List Value} {x : DataW H × List MemPlace}
    (hc : w.cells? base a (Trym.prog.cellsOf 35) = some cs) (ht : DataW.trod enc Trym.prog w base spare held n 35 cs = some x) :
    ∃ z : Nat → Int, ∀ j, j < 3 → w.cell? (a.add j) = some (.int .i64 (z j)) := by
  obtain ⟨_, hlen, hcell⟩ := World.cells?_some hc
  rw [Trym.cells35] at hlen hcell
  obtain ⟨xs, m, _, _, _, hxs, hel⟩ := DataW.trod_array Trym.underlying35 ht
  obtain ⟨z, hz⟩ := choose_lt (α := Int) (n := 3) (p := fun j v => w.cell? (a.add j) = some (.int .i64 v)) (fun j hj => by
    have h := hel j hj
    rw [List.getElem?_eq_getElem (by omega)] at h
    obtain ⟨v, hv, _, _⟩ := DataW.trod_int Trym.underlying3 h
    rw [Trym.cells3] at hv
    refine ⟨v, ?_⟩
    rw [hcell j hj]
    have h2 := congrArg (fun l => l[0]?) hv
    simpa using h2)
  exact ⟨z, hz⟩

/-! ### STEP 1: THE WALK -/
theorem walk (a0 : Option Addr) (len0 cap0 : Nat) (Y : Nat → Nat → Int) (a1 : Int) (w : World) (w0 : IsYears w a0 len0 cap0 Y) :
    Calls Trym.prog 6 #[.slice a0 len0 cap0, .int .i64 a1] w fun e w' => e = .returned (.bool true) ∧ Below w.heap.size w w' := by
  obtain ⟨hnil, hL⟩ := w0
  by_cases c0 : 1048576 < len0
  · go_enter Trym.func6, Trym.ntmps6
    go_wp2_with ((go_at_call 12; refine (zz12_no _ _ _ _ _ (by omega)).mono ?_; rintro e w' ⟨rfl, rfl⟩))
    go_ret
    exact ⟨rfl, Below.refl _ _⟩
  by_cases c1 : 32768 < len0
  · go_enter Trym.func6, Trym.ntmps6
    go_wp2_with ((go_at_call 12; refine (zz12_yes _ _ _ _ _ (by omega)).mono ?_; rintro e w' ⟨rfl, rfl⟩))
    go_ret
    exact ⟨rfl, Below.refl _ _⟩
  by_cases c2 : In a1
  · cases a0 with
    | none =>
      obtain ⟨rfl, rfl⟩ := hnil rfl
      exact law_nil a1 w c2
    | some x => exact law_some x len0 cap0 Y a1 w (by omega) c2 hL
  · go_enter Trym.func6, Trym.ntmps6
    go_wp2_with (first
      | (go_at_call 12; refine (zz12_yes _ _ _ _ _ (by omega)).mono ?_; rintro e w' ⟨rfl, rfl⟩)
      | (go_at_call 13; refine (oob_yes _ _ c2).mono ?_; rintro e w' ⟨rfl, rfl⟩))
    go_ret
    exact ⟨rfl, Below.refl _ _⟩

/-! ### THE ROW's STEP: WRITTEN OUT: LEAVE IT -/
set_option maxRecDepth 100000 in
theorem lifted (os : Os) (started : os.Started) (H : Type) (enc : TypeId × Value → H) :
    ReturnsInHanded {} Trym.checked os 6 .any (Rows.fnNextYearLeastMemberAtOrAfterSpec.pre6 enc Trym.prog Trym.f6 Rows.fnNextYearLeastMemberAtOrAfterRow.domain false) (Rows.fnNextYearLeastMemberAtOrAfterSpec.post enc Trym.prog Trym.f6 false true false false) := by
  refine returnsInHanded_of_change (C := Trym.checked) own started (by kernel_rfl) Trym.func6
    (ChangeSpec.witness6 (enc := enc) (C := Trym.checked) false ⟨#[], #[.slice none 0 0, .int .i64 0], []⟩ 8 (by kernel_rfl) (by kernel_rfl) (by kernel_rfl) (by kernel_rfl)) ?_
  intro W base args ds gs before hval0 hW hcnd _
  have hval : ∀ (j : Nat) t v, Trym.f6.params[j]? = some t → args[j]? = some v → Value.okWide Trym.prog W .any base t v := hval0
  have hW' := hW
  obtain ⟨p, q, hA0, hV, rfl, hfz, hnd⟩ := hW
  have hA : DataW.TrodAll enc Trym.prog W 0 (fun _ => true) true Trym.f6.params.toList args.toList ds p := hA0
  rw [Trym.params6] at hA hval
  obtain ⟨v0, vs0, d0, ds0, p0, q0, hargs, rfl, rfl, h0, r0⟩ := trodAll_cons hA
  obtain ⟨v1, vs1, d1, ds1, p1, q1, rfl, rfl, rfl, h1, r1⟩ := trodAll_cons r0
  obtain ⟨rfl, rfl, rfl⟩ := trodAll_nil r1
  obtain rfl : args = #[v0, v1] := by cases args; simp_all
  obtain ⟨rfl, rfl⟩ := trodVars_none hV
  obtain ⟨a0, len0, cap0, rfl⟩ := okWide_slice Trym.underlying28 (hval 0 28 v0 rfl rfl)
  have k0 := h0
  have lt0 : ∀ x ∈ p0, x.block < W.heap.size := by obtain ⟨m, hm⟩ := k0; exact DataW.trod_lt m _ _ _ hm
  obtain ⟨Y, w0⟩ : ∃ Y, IsYears W a0 len0 cap0 Y := by
    obtain ⟨fuel, hf⟩ := h0
    rcases open_slice Trym.underlying28 hf with ⟨hcs, _⟩ | ⟨x, l, c, m, n, D, Pl, hcs, _, hl, _, hmm, _, hel⟩
    · simp [Value.cells] at hcs
      obtain ⟨rfl, rfl, rfl⟩ := hcs
      exact ⟨fun _ _ => 0, fun _ => ⟨rfl, rfl⟩, fun i hi => absurd hi (Nat.not_lt_zero _)⟩
    · simp [Value.cells] at hcs
      obtain ⟨rfl, rfl, rfl⟩ := hcs
      have hlm : len0 ≤ m := by rw [hmm]; split <;> omega
      obtain ⟨Y, hY⟩ := choose_lt (α := Nat → Int) (n := len0) (p := fun i z => ∀ j, j < 3 → W.cell? ((x.add (i * 3)).add j) = some (.int .i64 (z j))) (fun i hi => by
        obtain ⟨cs', h1, h2⟩ := hel i (by omega)
        rw [Trym.cells35] at h1
        exact open_year (by rw [Trym.cells35]; exact h1) h2)
      refine ⟨Y, fun h => by simp at h, fun i hi => ?_⟩
      obtain ⟨b, off, spot⟩ := x
      have hs : spot = none := by simpa [Addr.add] using World.cell?_spot (hY 0 (by omega) 0 (by decide))
      subst hs
      refine ⟨b, off, rfl, fun j hj => ?_⟩
      have h := hY i hi j hj
      rw [add_plain, add_plain] at h
      exact h
  obtain ⟨a1, rfl, rfl, rfl, w1⟩ := open_int Trym.underlying3 (hval 1 3 v1 rfl rfl) h1
  clear hA0 hval0
  refine (walk a0 len0 cap0 Y a1 W w0).mono fun e W' ⟨he, bel⟩ => ?_
  subst he
  exact ⟨_, rfl, _, _, _, [], _, [], hW', trodAll_mk1 (shut_bool Trym.underlying4 _), (trodAll_cons_mk (Below.trod laidOut (by kernel_rfl) (of_decide_eq_true (by kernel_rfl)) k0 bel lt0) (trodAll_cons_mk (shut_int Trym.underlying3 w1) trodAll_mk0)), rfl, bel.frame _, fun h => by cases h⟩

theorem over : Rows.fnNextYearLeastMemberAtOrAfterRow.holds Trym.pinned (OpenSpec.ofChange Rows.fnNextYearLeastMemberAtOrAfterSpec) :=
  OpenClaim.holds_of_wide 6 Trym.f6 rfl rfl rfl rfl rfl rfl rfl ⟨rfl, rfl, rfl, rfl, rfl⟩ rfl rfl rfl rfl rfl (by kernel_rfl) Trym.func6 (by kernel_rfl)
    (of_decide_eq_true (by kernel_rfl)) (by unfold Func.isWrapper; first | (rw [if_pos (by decide +kernel)]; kernel_rfl) | (rw [if_neg (by decide +kernel)]; exact ⟨rfl, rfl⟩))
    (fun os started H enc _ => lifted os started H enc)

/-- ████ THE STATEMENT ████ -/
theorem proved : Rows.FnNextYearLeastMemberAtOrAfterSaid := over
#print axioms proved
end Go.Proofs.Qxb6600419aMods.fnNextYearLeastMemberAtOrAfter
