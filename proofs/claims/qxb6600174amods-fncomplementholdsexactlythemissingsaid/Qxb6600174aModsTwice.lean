import Derived.Test.Qxb6600174aModsComp
namespace Go.Proofs.Qxb6600174aMods
open Go.RowKit Go.Deep

theorem zz10_yes (a : Option Addr) (len cap : Nat) (v : Value) (w : World) (h : len ≤ 1048576) :
    Calls Trym.prog 10 #[.slice a len cap, v] w fun e w' => e = .returned (.bool true) ∧ w' = w := by
  go_enter Trym.func10, Trym.ntmps10
  go_wp2
  go_ret
  exact ⟨rfl, rfl⟩
theorem zz10_no (a : Option Addr) (len cap : Nat) (v : Value) (w : World) (h : 1048576 < len) :
    Calls Trym.prog 10 #[.slice a len cap, v] w fun e w' => e = .returned (.bool false) ∧ w' = w := by
  go_enter Trym.func10, Trym.ntmps10
  go_wp2
  go_ret
  exact ⟨rfl, rfl⟩

/-- cloneWords, whatever the slice. -/
theorem clone_any (a : Option Addr) (len cap : Nat) (ns : List Nat) (w : World) (hl : ns.length = len) (hm : len ≤ 131072) (hnil : a = none → len = 0 ∧ cap = 0) (hc : Lies w a ns) :
    Calls Trym.prog 7 #[.slice a len cap] w fun e w' => ∃ a', e = .returned (.slice a' len len) ∧ Below w.heap.size w w' ∧ Lies w' a' ns := by
  cases a with
  | none =>
    obtain ⟨rfl, rfl⟩ := hnil rfl
    refine (clone_nil w).mono fun e w' ⟨he, hw⟩ => ?_
    subst hw
    exact ⟨none, he, Below.refl _ _, hc⟩
  | some x =>
    refine (clone_some x len cap ns w hm (fun i hi => ?_)).mono fun e w' ⟨he, hb, hs, hr⟩ => ?_
    · obtain ⟨b, off, hx, h⟩ := hc i (by omega)
      exact ⟨b, off, by simpa using hx, h⟩
    · exact ⟨_, he, hb, fun i hi => ⟨w.heap.size, 0, rfl, by simpa using hr.cell (i := i) (by omega)⟩⟩

theorem lies_row {w : World} {g n : Nat} {ns : List Nat} (hl : ns.length = n) (h : w.rowIs g 29 n (fun i => .int .u64 (wd ns i))) : Lies w (some ⟨g, 0, none⟩) ns :=
  fun i hi => ⟨g, 0, rfl, by simpa using h.cell (i := i) (by omega)⟩
theorem comp_row {w : World} {g n m : Nat} {B : Int} {ns : List Nat} (hn : ((m : Int) + 63) / 64 = n) (h : w.rowIs g 29 n (fun i => .int .u64 ((compN B ns m i : Nat) : Int))) : Lies w (some ⟨g, 0, none⟩) (comp B ns m) :=
  lies_row (n := n) (by rw [comp_length]; omega) (h.congr (fun i hi => by unfold wd; rw [comp_getD _ _ _ _ (by omega)]))
theorem comp_lt (B : Int) (ns : List Nat) (m : Int) (k : Nat) : (comp B ns m).getD k 0 < 18446744073709551616 := by
  by_cases h : k < (m.toNat + 63) / 64
  · rw [comp_getD _ _ _ _ h]; exact compN_lt _ _ _ _
  · rw [List.getD_eq_getElem?_getD, List.getElem?_eq_none (by rw [comp_length]; omega)]; decide

theorem last_of {ns : List Nat} {len m : Nat} (h : ((m : Int) % 64 != 0) = false ∨ (wd ns (len - 1) / 2 ^ (m % 64) != 0) = false) : m % 64 ≠ 0 → ns.getD (len - 1) 0 / 2 ^ (m % 64) = 0 := by
  intro hr
  rcases h with h | h
  · simp at h; omega
  · simp only [bne_eq_false_iff_eq] at h
    unfold wd at h
    have e : ((2 : Int) ^ (m % 64)) = ((2 ^ (m % 64) : Nat) : Int) := by simp
    rw [e] at h
    exact_mod_cast h

theorem after_two {w w1 w2 w3 : World} {o1 o2 : Obj} {ns : List Nat} {a' : Option Addr} {len m g3 : Nat} (hl : ns.length = len) (hn : ((m : Int) + 63) / 64 = len) (hlast : m % 64 ≠ 0 → ns.getD (len - 1) 0 / 2 ^ (m % 64) = 0) (hz : ∀ k, ns.getD k 0 < 18446744073709551616)
    (hb1 : Below w.heap.size w w1) (hl1 : Lies w1 a' ns) (hb2 : Below (w1.alloc o1).heap.size (w1.alloc o1) w2) (hb3 : Below (w2.alloc o2).heap.size (w2.alloc o2) w3)
    (hr3 : w3.rowIs g3 29 len (fun i => .int .u64 ((compN m (comp m ns m) m i : Nat) : Int))) :
    Below w.heap.size w w3 ∧ Lies w3 a' ns ∧ w3.rowIs g3 29 len (fun i => .int .u64 (wd ns i)) := by
  have e1 : Below w1.heap.size w1 w2 := ((Below.refl _ w1).alloc (Nat.le_refl _) o1).trans (hb2.mono (by simp))
  have e2 : Below w2.heap.size w2 w3 := ((Below.refl _ w2).alloc (Nat.le_refl _) o2).trans (hb3.mono (by simp))
  refine ⟨(hb1.trans (e1.mono hb1.size)).trans (e2.mono (Nat.le_trans hb1.size e1.size)), (hl1.later e1).later e2, hr3.congr (fun i hi => ?_)⟩
  rw [twice ns m (by omega) hz (by rw [hl]; exact hlast) i (by omega)]
  rfl

set_option maxHeartbeats 400000 in
theorem twice_core (ns : List Nat) (a : Option Addr) (len cap m : Nat) (w : World) (hl : ns.length = len) (hm : len ≤ 131072) (hz : ∀ k, ns.getD k 0 < 18446744073709551616) (hc : Lies w a ns)
    (hnil : a = none → len = 0 ∧ cap = 0) (h1 : m ≤ 65536) (hA : ¬ (64 * (len : Int) < (m : Int))) (hB : len = 0 ∨ 64 * ((len : Int) - 1) < (m : Int)) :
    Calls Trym.prog 4 #[.slice a len cap, .int .i64 m] w fun e w' => e = .returned (.bool true) ∧ Below w.heap.size w w' := by
  have HL : Hid (ns.length = len) := hl
  clear hl
  have HN : Hid (((m : Int) + 63) / 64 = len) := show ((m : Int) + 63) / 64 = len by omega
  have hpc : (m % 64 = 0 ∧ len ≤ 0) ∨ (m % 64 = 0 ∧ 0 < len ∧ 64 * ((len : Int) - 1) < (m : Int)) ∨ (m % 64 ≠ 0 ∧ 0 < len ∧ 64 * ((len : Int) - 1) < (m : Int) ∧ ∃ b off, a = some ⟨b, off, none⟩ ∧ w.cell? ⟨b, off + (len - 1), none⟩ = some (.int .u64 (wd ns (len - 1)))) := by
    by_cases hr : m % 64 = 0
    · rcases hB with hB | hB
      · exact .inl ⟨hr, by omega⟩
      · by_cases hp : 0 < len
        · exact .inr (.inl ⟨hr, hp, hB⟩)
        · exact .inl ⟨hr, by omega⟩
    · exact .inr (.inr ⟨hr, by omega, by omega, hc (len - 1) (by have := HL.out; omega)⟩)
  clear hB
  have HT0 : Hid (m % 64 = 0 → (m % 64 ≠ 0 → ns.getD (len - 1) 0 / 2 ^ (m % 64) = 0)) := fun h h' => absurd h h'
  rcases hpc with ⟨hr, hpos⟩ | ⟨hr, hpos, hB⟩ | ⟨hr, hpos, hB, b, off, rfl, hcell⟩
  all_goals
    go_enter Trym.func4, Trym.ntmps4
    go_wp2_with ((go_at_call 10; refine (zz10_yes _ _ _ _ _ (by omega)).mono ?_; rintro e w' ⟨rfl, rfl⟩))
  rotate_left 2
  · go_ret
    exact ⟨rfl, Below.refl _ _⟩
  rotate_left 1
  all_goals
    have HT : Hid (m % 64 ≠ 0 → ns.getD (len - 1) 0 / 2 ^ (m % 64) = 0) := by first | exact HT0.out hr | exact last_of (by assumption)
    refine (clone_any _ len cap ns _ HL.out hm hnil hc).mono ?_
    rintro e w1 ⟨a', rfl, hb1, hl1⟩
    clear hc hnil HT0
    go_wp2_with fail
    refine (comp_any m ns a' len len m len _ HL.out hm (by omega) (by omega) hz (hl1.later ((Below.refl _ _).alloc (Nat.le_refl _) _)) h1 HN.out).mono ?_
    rintro e w2 ⟨g, rfl, hb2, hr2⟩
    go_wp2_with fail
    refine (comp_any m (comp m ns m) (some ⟨g, 0, none⟩) len len m len _ (by rw [comp_length]; have := HN.out; omega) hm (by omega) (by omega) (comp_lt m ns m) ((comp_row HN.out hr2).later ((Below.refl _ _).alloc (Nat.le_refl _) _)) h1 HN.out).mono ?_
    rintro e w3 ⟨g3, rfl, hb3, hr3⟩
    obtain ⟨hbel, hl3, hr4⟩ := after_two HL.out HN.out HT.out hz hb1 hl1 hb2 hb3 hr3
    clear hb1 hl1 hb2 hb3 hr3 hr2 HT
    go_wp2_with fail
    have hd := alloc_two w3 (.int .i64 m) (.slice (some ⟨g3, 0, none⟩) len len) 26
    have hB4 : Below w3.heap.size w3 (w3.alloc (.cells #[.int .i64 m, .slice (some ⟨g3, 0, none⟩) len len] 26)) := (Below.refl _ _).alloc (Nat.le_refl _) _
    have hl5 := hl3.later hB4
    have hr5 := row_later hr4 hB4
    have hbel5 := hbel.trans (hB4.mono hbel.size)
    clear hl3 hr4 hbel hB4
    generalize (w3.alloc (.cells #[.int .i64 m, .slice (some ⟨g3, 0, none⟩) len len] 26)) = w4 at hd hl5 hr5 hbel5 ⊢
    go_loopw [9] (fun i wr => ∃ k : Nat, k ≤ len ∧ i = .int .i64 k ∧ Below w4.heap.size w4 wr) (fun i _ => len - (intOf i).toNat)
    case atStart => exact ⟨0, Nat.zero_le _, rfl, Below.refl _ _⟩
    case round =>
      obtain ⟨k, hk, rfl, hbr⟩ := hrel
      by_cases hlt : k < len
      · have hlt' : (k : Int) < (len : Int) := by omega
        obtain ⟨b5, o5, rfl, hc5⟩ := hl5 k (by have := HL.out; omega)
        have k1 := cell_later hbr hc5
        have k2 := cell_later hbr (hr5.cell hlt)
        have k3 := cell_later hbr (hd.cell (i := 1) (by omega))
        simp only [two] at k3
        go_wp2
        go_quiet (fail)
        go_wp2
        go_roundw
        case rel => exact ⟨k + 1, by omega, by go_num, below_drewN hbr _⟩
        case measure => simp [intOf]; omega
      · go_wp2
        go_ret
        exact ⟨rfl, hbel5.trans (hbr.mono hbel5.size)⟩
end Go.Proofs.Qxb6600174aMods
