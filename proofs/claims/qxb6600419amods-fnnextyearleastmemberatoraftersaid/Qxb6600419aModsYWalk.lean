import Derived.Test.Qxb6600419aModsYLaw
namespace Go.Proofs.Qxb6600419aMods.Years
open Go.RowKit Go.Deep

theorem zz12_yes (a : Option Addr) (len cap : Nat) (v : Value) (w : World) (h : len ≤ 1048576) : Calls Trym.prog 12 #[.slice a len cap, v] w fun e w' => e = .returned (.bool true) ∧ w = w' := by
  go_enter Trym.func12, Trym.ntmps12
  go_wp2
  go_ret
  exact ⟨rfl, rfl⟩
theorem zz12_no (a : Option Addr) (len cap : Nat) (v : Value) (w : World) (h : 1048576 < len) : Calls Trym.prog 12 #[.slice a len cap, v] w fun e w' => e = .returned (.bool false) ∧ w = w' := by
  go_enter Trym.func12, Trym.ntmps12
  go_wp2
  go_ret
  exact ⟨rfl, rfl⟩

theorem law_nil (y : Int) (w : World) (hy : In y) : Calls Trym.prog 6 #[.slice none 0 0, .int .i64 y] w fun e w' => e = .returned (.bool true) ∧ Below w.heap.size w w' := by
  have q28 : ∀ (w : World) (a : Option Addr) (n c n' c' : Nat), (binOp .eql 28 (.slice a n c) (.slice none n' c')).run Trym.prog w = .ok (.bool a.isNone) w := fun w a n c n' c' => Lib.run_eql_slice_nil w _ _ a n c n' c' Trym.underlying28
  have hb0 : ∀ w : World, Calls Trym.prog 14 #[.slice none 0 0] w fun e w' => e = .returned (.bool false) ∧ w = w' := by
    intro w
    go_enter Trym.func14, Trym.ntmps14
    go_wp2
    go_loop [3, 4] (fun i _ => i = .int .i64 0) (fun _ _ => 0)
    case atStart => rfl
    case round =>
      subst hrel
      go_wp2
      go_ret
      exact ⟨rfl, rfl⟩
  go_enter Trym.func6, Trym.ntmps6
  go_wp2_with (first
    | (go_at_call 12; refine (zz12_yes _ _ _ _ _ (by omega)).mono ?_; rintro e w' ⟨rfl, rfl⟩)
    | (go_at_call 13; refine (oob_no _ _ hy).mono ?_; rintro e w' ⟨rfl, rfl⟩)
    | (go_at_call 14; refine (hb0 _).mono ?_; rintro e w' ⟨rfl, rfl⟩)
    | (go_at_call 15; refine (copy_nil _).mono ?_; rintro e w' ⟨rfl, rfl⟩)
    | (go_at_call 16; refine (zznext_nil y _).mono ?_; rintro e w1 ⟨rfl, hb1⟩))
  go_ret
  exact ⟨ret_bool (by simp), hb1⟩

theorem mx_split (a b : Int) : (a < b ∧ b = mx a b) ∨ (¬ a < b ∧ a = mx a b) := by
  by_cases h : a < b
  · exact .inl ⟨h, (mx_lt h).symm⟩
  · exact .inr ⟨h, (mx_ge h).symm⟩

theorem no_step {Y : Nat → Nat → Int} {l : Nat} {c : Int} (h : ∀ i, i < l → ¬ Holds Y i c) (hl : ¬ Holds Y l c) : ∀ i, i < l + 1 → ¬ Holds Y i c := fun i hi => by
  by_cases e : i = l
  · subst e; exact hl
  · exact h i (by omega)

theorem got_bounds (Y : Nat → Nat → Int) (y : Int) (len : Nat) (hy : In y) (hY : ∀ i, i < len → ∀ j, j < 3 → In (Y i j)) (h : (nx Y y len).2 = true) : -1073741824 ≤ (nx Y y len).1 ∧ (nx Y y len).1 ≤ 1073741824 := by
  obtain ⟨h1, i, hi, _, h2, _⟩ := nx_holds Y y len h
  have h3 := mx_in (hY i hi 1 (by decide)) (hY i hi 0 (by decide))
  unfold In at h3 hy
  omega

set_option maxHeartbeats 2000000 in
theorem law_some (x : Addr) (len cap : Nat) (Y : Nat → Nat → Int) (y : Int) (w : World) (hm : len ≤ 32768) (hy : In y) (hL : LiesY w (some x) Y len) :
    Calls Trym.prog 6 #[.slice (some x) len cap, .int .i64 y] w fun e w' => e = .returned (.bool true) ∧ Below w.heap.size w w' := by
  have q28 : ∀ (w : World) (a : Option Addr) (n c n' c' : Nat), (binOp .eql 28 (.slice a n c) (.slice none n' c')).run Trym.prog w = .ok (.bool a.isNone) w := fun w a n c n' c' => Lib.run_eql_slice_nil w _ _ a n c n' c' Trym.underlying28
  go_enter Trym.func6, Trym.ntmps6
  go_wp2_with (first
    | (go_at_call 12; refine (zz12_yes _ _ _ _ _ (by omega)).mono ?_; rintro e w' ⟨rfl, rfl⟩)
    | (go_at_call 13; refine (oob_no _ _ hy).mono ?_; rintro e w' ⟨rfl, rfl⟩))
  refine (yob_any (some x) len cap Y _ hm hL).mono ?_
  rintro e w' ⟨hout, rfl⟩
  rcases hout with rfl | ⟨rfl, hY⟩
  · clear q28
    go_wp2
    go_ret
    exact ⟨rfl, Below.refl _ _⟩
  go_wp2_with fail
  refine (copy_some x len cap Y _ hm hL).mono ?_
  rintro e w1 ⟨rfl, hb1, hr1⟩
  have hL1 := liesY_row hr1
  clear hr1 hL
  go_wp2_with fail
  refine (zznext_some ⟨w.heap.size, 0, none⟩ len len Y y _ hm hy hY hL1).mono ?_
  have HB := Hid.mk (got_bounds Y y len hy hY)
  have HH := Hid.mk (nx_holds Y y len)
  obtain ⟨b, f, hbf⟩ : ∃ b f, nx Y y len = (b, f) := ⟨_, _, rfl⟩
  rw [hbf] at HB HH ⊢
  have HBF := Hid.mk hbf
  clear hbf
  rintro e w2 ⟨rfl, hb2⟩
  have hL2 := hL1.later hb2
  have hb3 := hb1.trans (hb2.mono hb1.size)
  have HY := Hid.mk hY
  clear hL1 hb1 hb2 hY
  go_wp2_with fail
  clear q28
  go_loopw [7, 8, 9, 10, 11, 12, 13] (fun p q i _ _ _ _ wr => ∃ (k : Nat) (c : Int) (g : Bool), k ≤ len ∧ p = .int .i64 c ∧ q = .bool g ∧ i = .int .i64 k ∧ Hid (nx Y y k = (c, g)) ∧ Below w2.heap.size w2 wr) (fun _ _ i _ _ _ _ _ => len - (intOf i).toNat)
  case atStart => exact ⟨0, 0, false, Nat.zero_le _, rfl, rfl, rfl, rfl, Below.refl _ _⟩
  case round =>
    obtain ⟨k, c, g, hk, rfl, rfl, rfl, HN, hbel⟩ := hrel
    by_cases hlt : k < len
    · obtain ⟨bb, off, hx, s0, s1, s2⟩ := hL2.three hlt
      obtain ⟨rfl, rfl⟩ : w.heap.size = bb ∧ 0 = off := by simpa using hx
      clear hx
      have k0 := cell_later hbel s0
      have k1 := cell_later hbel s1
      have k2 := cell_later hbel s2
      simp only [Nat.zero_add] at k0 k1 k2
      have hk' : (k : Int) < (len : Int) := by omega
      have HCS := Hid.mk (nx_cases HN.out)
      have hT1 := mx_one (Y k 2)
      have HTi := Hid.mk (mx_in (HY.out k hlt 2 (by decide)) in_one)
      have HSi := Hid.mk (HY.out k hlt 0 (by decide))
      have HVl := Hid.mk (fun h => yv_first (y := y) (s := Y k 0) (t := mx (Y k 2) 1) (mx_one _) h)
      have HVg := Hid.mk (fun h => yv_ge (y := y) (s := Y k 0) (t := mx (Y k 2) 1) h)
      have HE := Hid.mk (mx_split (Y k 1) (Y k 0))
      have HT := Hid.mk (mx_split (Y k 2) 1)
      clear s0 s1 s2 hL2 hb3 HY HB HH HBF HN
      go_wp2
      go_quiet (fail)
      clear k0 k1 k2
      generalize yv y (Y k 0) (mx (Y k 2) 1) = V at HCS HVl HVg
      generalize mx (Y k 2) 1 = T at hT1 HTi HVl HVg HT
      generalize mx (Y k 1) (Y k 0) = E at HCS HE
      generalize Y k 0 = S at HSi HVl HVg HE ⊢
      generalize Y k 1 = e0 at HE ⊢
      generalize Y k 2 = t0 at HT ⊢
      have i1 := hy
      have i2 := HSi.out
      have i3 := HTi.out
      unfold In at i1 i2 i3
      rcases HE.out with ⟨h1, h2⟩ | ⟨h1, h2⟩
      all_goals
        rcases HT.out with ⟨h3, h4⟩ | ⟨h3, h4⟩
        all_goals
          subst h2 h4
          clear HE HT
          by_cases hsy : S < y
          · have HV := Hid.mk (HVl.out hsy)
            clear HVl HVg HTi HSi
            go_wp2_with fail
            refine (fm_any _ _ _ (by omega) (by omega)).mono ?_
            rintro r w' ⟨rfl, rfl⟩
            have hV := HV.out
            clear HV
            first | (rw [Int.emod_one, Int.add_zero] at hV; subst hV) | (have r0 := Int.emod_nonneg (S - y) (show t0 ≠ 0 by omega); have r1 := Int.emod_lt_of_pos (S - y) (show 0 < t0 by omega); replace hV := hV.symm)
            all_goals
              rcases HCS.out with ⟨h, hn⟩ | ⟨h, rfl, hn⟩ | ⟨h, rfl, h', hn⟩ | ⟨h, rfl, h', hn⟩
              all_goals (first | (exfalso; omega) | skip)
              all_goals
                have HNn := Hid.mk hn
                clear hn HCS
                go_wp2
                go_roundw
                case rel => exact ⟨k + 1, _, _, by omega, rfl, rfl, by go_num, HNn, below_drewN hbel _⟩
                case measure => simp [intOf]; omega
          · have hV : V = S := HVg.out (by omega)
            clear HVl HVg HTi HSi
            subst hV
            rcases HCS.out with ⟨h, hn⟩ | ⟨h, rfl, hn⟩ | ⟨h, rfl, h', hn⟩ | ⟨h, rfl, h', hn⟩
            all_goals (first | (exfalso; omega) | skip)
            all_goals
              have HNn := Hid.mk hn
              clear hn HCS
              go_wp2
              go_roundw
              case rel => exact ⟨k + 1, _, _, by omega, rfl, rfl, by go_num, HNn, below_drewN hbel _⟩
              case measure => simp [intOf]; omega
    · have HE2 : Hid (c = b ∧ g = f) := by
        have h := HN.out
        rw [show k = len by omega, HBF.out] at h
        exact ⟨(congrArg Prod.fst h).symm, (congrArg Prod.snd h).symm⟩
      obtain ⟨rfl, rfl⟩ := HE2.out
      clear HN HBF HE2
      cases g with
      | false =>
        go_wp2
        go_ret
        exact ⟨rfl, hb3.trans (hbel.mono hb3.size)⟩
      | true =>
        obtain ⟨hyc, hex⟩ := HH.out rfl
        have hbd := HB.out rfl
        have HX := Hid.mk hex
        have hL3 := hL2.later hbel
        have hb4 := hb3.trans (hbel.mono hb3.size)
        clear hex HH HB hL2 hb3 hbel
        go_wp2
        go_loopw [14] (fun i wq => ∃ l : Nat, l ≤ len ∧ i = .int .i64 l ∧ Hid (∀ i, i < l → ¬ Holds Y i c) ∧ Below w.heap.size w wq ∧ LiesY wq (some ⟨w.heap.size, 0, none⟩) Y len) (fun i _ => len - (intOf i).toNat)
        case atStart => exact ⟨0, Nat.zero_le _, rfl, fun i hi => absurd hi (Nat.not_lt_zero _), hb4, hL3⟩
        case round =>
          clear hL3 hb4
          obtain ⟨l, hl, rfl, HNo, hbq, hLq⟩ := hrel
          by_cases hll : l < len
          · obtain ⟨bb, off, hx, s0, s1, s2⟩ := hLq.three hll
            obtain ⟨rfl, rfl⟩ : w.heap.size = bb ∧ 0 = off := by simpa using hx
            clear hx
            simp only [Nat.zero_add] at s0 s1 s2
            have hl' : (l : Int) < (len : Int) := by omega
            have HH2 := Hid.mk (hb_holds Y l c)
            have HI0 := Hid.mk (HY.out l hll 0 (by decide))
            have HI1 := Hid.mk (HY.out l hll 1 (by decide))
            have HI2 := Hid.mk (HY.out l hll 2 (by decide))
            by_cases hH : hb (Y l 0) (Y l 1) (Y l 2) c = true
            · go_wp2_with fail
              refine (sh_any _ _ _ _ _ HI0.out HI1.out HI2.out hbd).mono ?_
              rw [hH]
              rintro r w5 ⟨rfl, hb5⟩
              go_wp2
              go_ret
              exact ⟨rfl, hbq.trans (hb5.mono hbq.size)⟩
            · have hH2 : hb (Y l 0) (Y l 1) (Y l 2) c = false := by simpa using hH
              go_wp2_with fail
              refine (sh_any _ _ _ _ _ HI0.out HI1.out HI2.out hbd).mono ?_
              rw [hH2]
              rintro r w5 ⟨rfl, hb5⟩
              have hLq2 := hLq.later hb5
              have hbq2 := hbq.trans (hb5.mono hbq.size)
              clear hLq hbq hb5 s0 s1 s2
              go_wp2
              go_roundw
              case rel => exact ⟨l + 1, by omega, by go_num, no_step HNo.out (fun h => hH (HH2.out.2 h)), hbq2, hLq2⟩
              case measure => simp [intOf]; omega
          · exfalso
            obtain ⟨i, hi, hh⟩ := HX.out
            exact HNo.out i (by omega) hh
end Go.Proofs.Qxb6600419aMods.Years
