import Derived.Test.Qxb6600174aModsTwice
namespace Go.Proofs.Qxb6600174aMods
open Go.RowKit Go.Deep

theorem zz6_yes (v v' : Value) (a : Option Addr) (len cap : Nat) (w : World) (h : len ≤ 1048576) :
    Calls Trym.prog 6 #[v, .slice a len cap, v'] w fun e w' => e = .returned (.bool true) ∧ w = w' := by
  go_enter Trym.func6, Trym.ntmps6
  go_wp2
  go_ret
  exact ⟨rfl, rfl⟩
theorem zz6_no (v v' : Value) (a : Option Addr) (len cap : Nat) (w : World) (h : 1048576 < len) :
    Calls Trym.prog 6 #[v, .slice a len cap, v'] w fun e w' => e = .returned (.bool false) ∧ w = w' := by
  go_enter Trym.func6, Trym.ntmps6
  go_wp2
  go_ret
  exact ⟨rfl, rfl⟩

theorem inS_bit (B : Int) (ns : List Nat) (i : Nat) (hB : (i : Int) < B) (hz : ∀ k, ns.getD k 0 < 18446744073709551616) :
    (bits BinOp.and IntKind.u64 (wd ns (i / 64) / 2 ^ (i % 64)) 1 == 1) = inS B ns i := by
  unfold inS wd
  have hx := hz (i / 64)
  generalize ns.getD (i / 64) 0 = x at hx ⊢
  have e : ((2 : Int) ^ (i % 64)) = ((2 ^ (i % 64) : Nat) : Int) := by simp
  have e2 : (x : Int) / ((2 ^ (i % 64) : Nat) : Int) = ((x / 2 ^ (i % 64) : Nat) : Int) := by simp
  have h2 : x / 2 ^ (i % 64) ≤ x := Nat.div_le_self _ _
  rw [e, e2, Nat.testBit_eq_decide_div_mod_eq]
  generalize x / 2 ^ (i % 64) = y at h2 ⊢
  rw [and_one_u64 _ (by omega) (by omega)]
  simp only [hB, decide_true, Bool.true_and]
  rw [Bool.eq_iff_iff]
  simp only [beq_iff_eq, decide_eq_true_eq]
  omega
theorem inS_past (B : Int) (ns : List Nat) (i : Nat) (h : ns.length ≤ i / 64) : inS B ns i = false := by
  unfold inS
  rw [List.getD_eq_getElem?_getD, List.getElem?_eq_none h]
  simp
theorem inS_out (B : Int) (ns : List Nat) (i : Nat) (h : ¬ (i : Int) < B) : inS B ns i = false := by
  unfold inS
  simp [h]
theorem ret_bool {a b : Bool} (h : a = b) : Ending.returned (.bool a) = .returned (.bool b) := by rw [h]

theorem inSet_any (B : Int) (ns : List Nat) (a : Option Addr) (len cap i : Nat) (w : World) (hl : ns.length = len) (hm : len ≤ 131072) (hi : i ≤ 131072)
    (hz : ∀ k, ns.getD k 0 < 18446744073709551616) (hc : Lies w a ns) :
    Calls Trym.prog 9 #[.int .i64 B, .slice a len cap, .int .i64 i] w fun e w' => e = .returned (.bool (inS B ns i)) ∧ w = w' := by
  by_cases hB : (i : Int) < B
  · by_cases hk : i / 64 < len
    · obtain ⟨b, off, rfl, hcell⟩ := hc (i / 64) (by omega)
      clear hl
      have hk' : (i : Int) / 64 < (len : Int) := by omega
      go_enter Trym.func9, Trym.ntmps9
      go_wp2
      go_ret
      exact ⟨ret_bool (inS_bit B ns i hB hz), rfl⟩
    · rw [inS_past B ns i (by omega)]
      clear hl
      have hk' : ¬ (i : Int) / 64 < (len : Int) := by omega
      go_enter Trym.func9, Trym.ntmps9
      go_wp2
      go_ret
      exact ⟨rfl, rfl⟩
  · rw [inS_out B ns i hB]
    clear hl
    go_enter Trym.func9, Trym.ntmps9
    go_wp2
    go_ret
    exact ⟨rfl, rfl⟩

theorem after_one {w w1 w2 : World} {o1 : Obj} {ns cs : List Nat} {a' : Option Addr} {g m n : Nat} (hb1 : Below w.heap.size w w1) (hl1 : Lies w1 a' ns) (hb2 : Below (w1.alloc o1).heap.size (w1.alloc o1) w2) (hr : Lies w2 (some ⟨g, 0, none⟩) cs) :
    Below w.heap.size w (w2.alloc (.cells #[.int .i64 m, .slice (some ⟨g, 0, none⟩) n n] 26)) ∧ Lies (w2.alloc (.cells #[.int .i64 m, .slice (some ⟨g, 0, none⟩) n n] 26)) a' ns ∧
      Lies (w2.alloc (.cells #[.int .i64 m, .slice (some ⟨g, 0, none⟩) n n] 26)) (some ⟨g, 0, none⟩) cs ∧
      (w2.alloc (.cells #[.int .i64 m, .slice (some ⟨g, 0, none⟩) n n] 26)).rowIs w2.heap.size 26 2 (two (.int .i64 m) (.slice (some ⟨g, 0, none⟩) n n)) := by
  have e1 : Below w1.heap.size w1 w2 := ((Below.refl _ w1).alloc (Nat.le_refl _) o1).trans (hb2.mono (by simp))
  have e2 : Below w2.heap.size w2 (w2.alloc (.cells #[.int .i64 m, .slice (some ⟨g, 0, none⟩) n n] 26)) := (Below.refl _ _).alloc (Nat.le_refl _) _
  exact ⟨(hb1.trans (e1.mono hb1.size)).trans (e2.mono (Nat.le_trans hb1.size e1.size)), (hl1.later e1).later e2, hr.later e2, alloc_two _ _ _ _⟩

set_option maxHeartbeats 400000 in
theorem holds_core (B : Int) (ns : List Nat) (a : Option Addr) (len cap m n : Nat) (w : World) (hl : ns.length = len) (hm : len ≤ 131072) (hz : ∀ k, ns.getD k 0 < 18446744073709551616) (hc : Lies w a ns)
    (hnil : a = none → len = 0 ∧ cap = 0) (hB : -1048576 ≤ B) (hB' : B ≤ 9223372036854775807) (h1 : m ≤ 65536) (hn : ((m : Int) + 63) / 64 = n) :
    Calls Trym.prog 3 #[.int .i64 B, .slice a len cap, .int .i64 m] w fun e w' => e = .returned (.bool true) ∧ Below w.heap.size w w' := by
  have HL : Hid (ns.length = len) := hl
  have HN : Hid (((m : Int) + 63) / 64 = n) := hn
  have hn1 : n ≤ 1024 := by omega
  have hA : ¬ (64 * (n : Int) < (m : Int)) := by omega
  have hC : n ≤ 0 ∨ (0 < n ∧ 64 * ((n : Int) - 1) < (m : Int)) := by omega
  clear hl hn
  rcases hC with hC | ⟨hC, hD⟩
  all_goals
    go_enter Trym.func3, Trym.ntmps3
    go_wp2_with ((go_at_call 6; refine (zz6_yes _ _ _ _ _ _ (by omega)).mono ?_; rintro e w' ⟨rfl, rfl⟩))
    refine (clone_any _ len cap ns _ HL.out hm hnil hc).mono ?_
    rintro e w1 ⟨a', rfl, hb1, hl1⟩
    clear hc hnil
    go_wp2_with fail
    refine (comp_any B ns a' len len m n _ HL.out hm (by omega) (by omega) hz (hl1.later ((Below.refl _ _).alloc (Nat.le_refl _) _)) h1 HN.out).mono ?_
    rintro e w2 ⟨g, rfl, hb2, hr2⟩
    go_wp2_with fail
    obtain ⟨hbel, hl3, hr3, hd3⟩ := after_one (m := m) (n := n) hb1 hl1 hb2 (comp_row HN.out hr2)
    clear hb1 hl1 hb2 hr2
    generalize (w2.alloc (.cells #[.int .i64 m, .slice (some ⟨g, 0, none⟩) n n] 26)) = w4 at hbel hl3 hr3 hd3 ⊢
    have k1 := hd3.cell (i := 1) (by omega)
    simp only [two] at k1
    go_loop [10, 11] (fun i _ => ∃ k : Nat, k ≤ 64 * n ∧ i = .int .i64 k) (fun i _ => 64 * n - (intOf i).toNat)
    case atStart => exact ⟨0, Nat.zero_le _, rfl⟩
    case round =>
      obtain ⟨k, hk, rfl⟩ := hrel
      by_cases hlt : k < 64 * n
      · first | (exfalso; omega) | skip
        all_goals
         have hlt' : (k : Int) < 64 * (n : Int) := by omega
         have HE := holds B ns m n k (by have := HN.out; omega) hlt
         by_cases hkm : k < m
         · have hkm' : (k : Int) < (m : Int) := by omega
           simp only [hkm, decide_true, Bool.true_and] at HE
           go_wp2_with (first
             | (go_at_call_of 9 (Value.int IntKind.i64 B); refine (inSet_any B ns a' len len k _ HL.out hm (by omega) hz hl3).mono ?_; rintro e w' ⟨rfl, rfl⟩)
             | (go_at_call 9; refine (inSet_any (64 * (n : Int)) (comp B ns m) (some ⟨g, 0, none⟩) n n k _ (by rw [comp_length]; have := HN.out; omega) (by omega) (by omega) (comp_lt B ns m) hr3).mono ?_; rw [HE]; rintro e w' ⟨rfl, rfl⟩))
           go_round
           case rel => exact ⟨k + 1, by omega, by go_num⟩
           case measure => simp [intOf]; omega
         · have hkm' : ¬ (k : Int) < (m : Int) := by omega
           simp only [hkm, decide_false, Bool.false_and] at HE
           go_wp2_with (first
             | (go_at_call_of 9 (Value.int IntKind.i64 B); refine (inSet_any B ns a' len len k _ HL.out hm (by omega) hz hl3).mono ?_; rintro e w' ⟨rfl, rfl⟩)
             | (go_at_call 9; refine (inSet_any (64 * (n : Int)) (comp B ns m) (some ⟨g, 0, none⟩) n n k _ (by rw [comp_length]; have := HN.out; omega) (by omega) (by omega) (comp_lt B ns m) hr3).mono ?_; rw [HE]; rintro e w' ⟨rfl, rfl⟩))
           go_round
           case rel => exact ⟨k + 1, by omega, by go_num⟩
           case measure => simp [intOf]; omega
      · go_wp2
        go_ret
        exact ⟨rfl, hbel⟩
end Go.Proofs.Qxb6600174aMods
