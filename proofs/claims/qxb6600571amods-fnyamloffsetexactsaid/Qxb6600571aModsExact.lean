import Derived.Test.Qxb6600571aModsZw
import Derived.OwnWalk
namespace Go.Proofs.Qxb6600571aMods
open Go.RowKit Go.Deep

/-- zzWidth: what the model's decoding says. -/
theorem zw_any (w : World) (g len i : Nat) (xs : List Int) (hl : xs.length = len) (hm : len ≤ 1048576) (hx : ∀ k, 0 ≤ xs.getD k 0 ∧ xs.getD k 0 ≤ 255) (hL : LiesB w (some ⟨g, 0, none⟩) xs) (hi : i < len) :
    Calls Trym.prog 12 #[.slice (some ⟨g, 0, none⟩) len len, .int .i64 i] w fun e w' => e = .returned (.int .i64 (wd (strOfNums xs) i : Nat)) ∧ w = w' := by
  have hc : ∀ k, k < len → w.cell? ⟨g, k, none⟩ = some (.int .u8 (by_ (strOfNums xs) k : Nat)) := fun k hk => by
    obtain ⟨b, off, ha, h⟩ := hL k (by omega)
    obtain ⟨rfl, rfl⟩ : g = b ∧ 0 = off := by simpa using ha
    rw [by_nums xs hx k]
    simpa using h
  have hF : Four w g len i (by_ (strOfNums xs) i) (by_ (strOfNums xs) (i + 1)) (by_ (strOfNums xs) (i + 2)) (by_ (strOfNums xs) (i + 3)) :=
    ⟨hi, hm, hc i hi, fun h => hc _ h, fun h => hc _ h, fun h => hc _ h⟩
  rw [wd_zzW, strOfNums_size, hl]
  generalize by_ (strOfNums xs) i = b0 at hF ⊢
  generalize by_ (strOfNums xs) (i + 1) = b1 at hF ⊢
  generalize by_ (strOfNums xs) (i + 2) = b2 at hF ⊢
  generalize by_ (strOfNums xs) (i + 3) = b3 at hF ⊢
  by_cases a1 : b0 < 128
  · exact zw_plain _ _ _ _ _ _ _ _ hF a1
  by_cases a2 : b0 < 194
  · exact zw_other _ _ _ _ _ _ _ _ hF (by omega) (.inl a2)
  by_cases a3 : b0 ≤ 223
  · exact zw_c2 _ _ _ _ _ _ _ _ hF (by omega) a3
  by_cases a4 : b0 = 224
  · exact zw_e0 _ _ _ _ _ _ _ _ hF a4
  by_cases a5 : b0 ≤ 236
  · exact zw_e1 _ _ _ _ _ _ _ _ hF (by omega) a5
  by_cases a6 : b0 = 237
  · exact zw_ed _ _ _ _ _ _ _ _ hF a6
  by_cases a7 : b0 ≤ 239
  · exact zw_ee _ _ _ _ _ _ _ _ hF (by omega) a7
  by_cases a8 : b0 = 240
  · exact zw_f0 _ _ _ _ _ _ _ _ hF a8
  by_cases a9 : b0 ≤ 243
  · exact zw_f1 _ _ _ _ _ _ _ _ hF (by omega) a9
  by_cases a10 : b0 = 244
  · exact zw_f4 _ _ _ _ _ _ _ _ hF a10
  · exact zw_other _ _ _ _ _ _ _ _ hF (by omega) (.inr (by omega))

/-- The first t places. -/
def places (s : ByteArray) (t : Nat) : List Value := (List.range t).map fun k => .int .i64 ((posT s k : Nat) : Int)
theorem places_succ (s : ByteArray) (t : Nat) : places s (t + 1) = places s t ++ [.int .i64 ((posT s t : Nat) : Int)] := by
  unfold places; rw [List.range_succ, List.map_append]; rfl
theorem places_at (s : ByteArray) (t j : Nat) (h : j < t) : (places s t)[j]? = some (.int .i64 ((posT s j : Nat) : Int)) := by
  unfold places; simp [h]
theorem posT_ge (s : ByteArray) (t : Nat) (h : ∀ k, k < t → posT s k < s.size) : t ≤ posT s t := by
  induction t with
  | zero => exact Nat.zero_le _
  | succ t ih =>
    have h1 := ih (fun k hk => h k (by omega))
    have h2 := posT_strict s t (t + 1) (by omega) (h t (by omega))
    omega
theorem lt_step {s : ByteArray} {t : Nat} (h : ∀ k, k < t → posT s k < s.size) (ht : posT s t < s.size) : ∀ k, k < t + 1 → posT s k < s.size := fun k hk => by
  by_cases e : k = t
  · subst e; exact ht
  · exact h k (by omega)

theorem zz11_yes (a : Option Addr) (len cap : Nat) (v : Value) (w : World) (h : len ≤ 1048576) : Calls Trym.prog 11 #[.slice a len cap, v] w fun e w' => e = .returned (.bool true) ∧ w = w' := by
  go_enter Trym.func11, Trym.ntmps11
  go_wp2
  go_ret
  exact ⟨rfl, rfl⟩
theorem zz11_no (a : Option Addr) (len cap : Nat) (v : Value) (w : World) (h : 1048576 < len) : Calls Trym.prog 11 #[.slice a len cap, v] w fun e w' => e = .returned (.bool false) ∧ w = w' := by
  go_enter Trym.func11, Trym.ntmps11
  go_wp2
  go_ret
  exact ⟨rfl, rfl⟩
theorem Trym.info3 : (Trym.prog.info? 3).map (fun i => (i.zero, i.size, i.bytes)) = some (some (.int .i64 0), 1, 8) := by kernel_rfl

set_option maxHeartbeats 1600000 in
theorem exact_some (x : Addr) (len cap : Nat) (xs : List Int) (c : Int) (w : World) (hl : xs.length = len) (hm : len ≤ 1048576) (hc0 : -9223372036854775808 ≤ c) (hc1 : c ≤ 9223372036854775807) (hxs : ∀ k, 0 ≤ xs.getD k 0 ∧ xs.getD k 0 ≤ 255) (hL : LiesB w (some x) xs) :
    Calls Trym.prog 5 #[.slice (some x) len cap, .int .i64 c] w fun e w' => e = .returned (.bool true) ∧ Below w.heap.size w w' := by
  have q27 : ∀ (w : World) (a : Option Addr) (n c n' c' : Nat), (binOp .neq 27 (.slice a n c) (.slice none n' c')).run Trym.prog w = .ok (.bool (!a.isNone)) w := fun w a n c n' c' => run_neq_slice_nil_any w _ _ a n c n' c' Trym.underlying27
  have hmk := run_make_row' (P := Trym.prog) 27 5 (.int .u8 0) 1 Trym.underlying27 Trym.info5 rfl .i64 .i64 len (by omega) (by omega)
  obtain ⟨w2, hcp, hb2, hL2⟩ := copy_fact x len cap xs w hl hL
  obtain ⟨i0, hi, hz0, hz1, hz2⟩ := info_parts Trym.info3
  have hsz : (strOfNums xs).size = len := by rw [strOfNums_size]; exact hl
  have HZW := hide (fun w3 (hb : Below w2.heap.size w2 w3) i (hi : i < len) => zw_any w3 w.heap.size len i xs hl hm hxs (hL2.later hb) hi)
  have HOFF := hide (fun w3 (hb : Below w2.heap.size w2 w3) => zzoff_any (some ⟨w.heap.size, 0, none⟩) len len (strOfNums xs) c w3 hsz hc0 hc1 (conv_some hl (hL2.later hb)))
  have HSZ := hide hsz
  generalize strOfNums xs = s at HZW HOFF HSZ
  clear hl hL hL2 hsz hxs
  have hmk2 : ∀ W : World, (Instr.makeSlice 29 (.int .i64 0) (.int .i64 (len : Int))).run Trym.prog W = .ok (.slice (some ⟨W.heap.size, 0, none⟩) 0 len) (W.alloc (.cells (madeCells #[.int .i64 0] len) 3)) := fun W => by
    have hr := run_make (P := Trym.prog) W 29 3 i0 (.int .i64 0) Trym.underlying29 hi hz0 .i64 .i64 0 len (Int.le_refl _) (by omega) (by rw [hz2]; omega) (by omega)
    simp only [Int.toNat_zero, Int.toNat_natCast, hz1, Nat.mul_one] at hr
    exact hr
  have HI := hide hi
  have HZ1 := hide hz1
  clear hi hz0 hz1 hz2
  go_enter Trym.func5, Trym.ntmps5
  go_wp2_with (go_at_call 11; refine (zz11_yes _ _ _ _ _ hm).mono ?_; rintro e w' ⟨rfl, rfl⟩)
  have hown := World.ownsRow_made (e := 3) (size := 1) w2 (madeCells #[.int .i64 0] len) len (Nat.le_refl w2.heap.size) (by unfold maxLen; omega) (by rw [size_madeCells, Nat.mul_one])
  have hb3 : Below w2.heap.size w2 (w2.alloc (.cells (madeCells #[.int .i64 0] len) 3)) := (Below.refl _ _).alloc (Nat.le_refl _) _
  clear q27 hmk hcp hmk2
  go_loopw [6, 7] (fun v i wr => ∃ t : Nat, v = .slice (some ⟨w2.heap.size, 0, none⟩) t len ∧ i = .int .i64 (posT s t : Nat) ∧ Hid (∀ k, k < t → posT s k < s.size) ∧ t ≤ len ∧ posT s t ≤ len ∧ wr.ownsRow w2.heap.size 3 1 (.slice (some ⟨w2.heap.size, 0, none⟩) t len) t (places s t) ∧ Below w2.heap.size w2 wr) (fun _ i _ => len - (intOf i).toNat)
  case atStart => exact ⟨0, rfl, rfl, fun k hk => absurd hk (Nat.not_lt_zero _), Nat.zero_le _, Nat.zero_le _, hown, hb3⟩
  case round =>
    clear hown hb3
    obtain ⟨t, rfl, rfl, HT, htl, hpl, hown, hbr⟩ := hrel
    by_cases hlt : posT s t < len
    · have htp : t + 1 ≤ len := by have := posT_ge s t HT.out; omega
      have hlt' : ((posT s t : Nat) : Int) < (len : Int) := by omega
      have HP := hide (posT_step s t (by rw [HSZ.out]; exact hlt))
      have HPB := hide (wd_bounds s (posT s t) (by rw [HSZ.out]; exact hlt))
      have HTN := hide (lt_step HT.out (by rw [HSZ.out]; exact hlt))
      have HPS := hide (places_succ s t)
      generalize posT s t = p at *
      go_wp2_with (at_builtin; refine wpList_append_fits _ rfl (.tmp 33) (.tmp 35) 29 rfl w2.heap.size 3 i0 1 Trym.underlying29 HI.out HZ1.out w2.heap.size t len (places s t) rfl (hown.alloc _) ⟨wr.heap.size, 0, none⟩ 1 1 [.int .i64 (p : Int)] rfl rfl ?c1 ?c2 ?c3 ?_)
      case c1 => exact cell_one_new _ _ _
      case c2 => intro u hu; simp at hu; subst hu; rfl
      case c3 => exact htp
      intro w4 hown4 hgrow
      have hb4 : Below w2.heap.size w2 w4 := (hbr.alloc hbr.size _).grown hgrow (by have := hbr.size; simp; omega) (fun k h => by cases h; exact Nat.le_refl _)
      have HO4 := hide hown4
      clear hown4 hgrow hown hbr
      have hpw := HPB.out
      rw [HSZ.out] at hpw
      go_wp2_with (go_at_call 12; refine (HZW.out _ hb4 p hlt).mono ?_; rintro e w5 ⟨rfl, rfl⟩)
      go_roundw
      case rel => exact ⟨t + 1, rfl, valInt (by rw [HP.out]; simp), HTN, htp, by rw [HP.out]; omega, by rw [HPS.out]; exact HO4.out, hb4⟩
      case measure => simp [intOf]; omega
    · have HE := hide (show posT s t = len by omega)
      have hb5 := hb2.trans (hbr.mono hb2.size)
      have HC := hide (fun j (hj : j < t) => (hown.cellAt j (by omega)).trans (places_at s t j hj))
      clear hown
      clear HZW HI HZ1
      by_cases hcp : 0 < c
      · obtain ⟨K, rfl⟩ := Int.eq_ofNat_of_zero_le (show 0 ≤ c by omega)
        rw [Int.toNat_natCast] at HOFF
        by_cases hkt : K < t
        · have hkt' : (K : Int) < (t : Int) := by omega
          have hcell := HC.out K hkt
          go_wp2_with (go_at_call 13; refine (HOFF.out _ hbr).mono ?_; rintro e w5 ⟨rfl, hb6⟩)
          go_ret
          exact ⟨retBool (by simp), hb5.trans (hb6.mono hb5.size)⟩
        · have hkt' : ¬ (K : Int) < (t : Int) := by omega
          have hpe := posT_end s t K (by omega) (by rw [HSZ.out]; exact hlt)
          rw [HSZ.out] at hpe
          rw [hpe] at HOFF
          clear hpe
          go_wp2_with (go_at_call 13; refine (HOFF.out _ hbr).mono ?_; rintro e w5 ⟨rfl, hb6⟩)
          go_ret
          exact ⟨retBool (by simp), hb5.trans (hb6.mono hb5.size)⟩
      · rw [show c.toNat = 0 by omega] at HOFF
        by_cases hkt : 0 < t
        · have hkt' : (0 : Int) < (t : Int) := by omega
          have hcell := HC.out 0 hkt
          go_wp2_with (go_at_call 13; refine (HOFF.out _ hbr).mono ?_; rintro e w5 ⟨rfl, hb6⟩)
          go_ret
          exact ⟨retBool (by simp), hb5.trans (hb6.mono hb5.size)⟩
        · have hkt' : ¬ (0 : Int) < (t : Int) := by omega
          have hpe := posT_end s t 0 (by omega) (by rw [HSZ.out]; exact hlt)
          rw [HSZ.out] at hpe
          rw [hpe] at HOFF
          clear hpe
          go_wp2_with (go_at_call 13; refine (HOFF.out _ hbr).mono ?_; rintro e w5 ⟨rfl, hb6⟩)
          go_ret
          exact ⟨retBool (by simp), hb5.trans (hb6.mono hb5.size)⟩

theorem exact_nil (c : Int) (w : World) (hc0 : -9223372036854775808 ≤ c) (hc1 : c ≤ 9223372036854775807) :
    Calls Trym.prog 5 #[.slice none 0 0, .int .i64 c] w fun e w' => e = .returned (.bool true) ∧ Below w.heap.size w w' := by
  have q27 : ∀ (w : World) (a : Option Addr) (n c n' c' : Nat), (binOp .neq 27 (.slice a n c) (.slice none n' c')).run Trym.prog w = .ok (.bool (!a.isNone)) w := fun w a n c n' c' => run_neq_slice_nil_any w _ _ a n c n' c' Trym.underlying27
  have hmk : ∀ w : World, (Instr.makeSlice 29 (.int .i64 0) (.int .i64 0)).run Trym.prog w = .ok (.slice (some ⟨w.heap.size, 0, none⟩) 0 0) (w.alloc (.cells (madeCells #[.int .i64 0] 0) 3)) := fun w => run_make_row' (P := Trym.prog) 29 3 (.int .i64 0) 8 Trym.underlying29 Trym.info3 rfl .i64 .i64 0 (by omega) (by omega) w
  have C1 := hide (fun w => zzoff_any none 0 0 (strOfNums []) c w rfl hc0 hc1 (conv_nil w))
  have e0 : ∀ t, posT (strOfNums []) t = 0 := fun t => by have := posT_le (strOfNums []) t; rw [strOfNums_size] at this; simpa using this
  rw [e0] at C1
  clear e0
  have hba : ∀ o, Below w.heap.size w (w.alloc o) := fun o => (Below.refl _ _).alloc (Nat.le_refl _) o
  go_enter Trym.func5, Trym.ntmps5
  go_wp2_with (go_at_call 11; refine (zz11_yes _ _ _ _ _ (by omega)).mono ?_; rintro e w' ⟨rfl, rfl⟩)
  clear q27 hmk
  go_loop [6, 7] (fun v i => v = .slice (some ⟨w.heap.size, 0, none⟩) 0 0 ∧ i = .int .i64 0) (fun _ _ => 0)
  case atStart => exact ⟨rfl, rfl⟩
  case round =>
    obtain ⟨rfl, rfl⟩ := hrel
    by_cases hcp : 0 < c
    all_goals
      go_wp2_with (go_at_call 13; refine (C1.out _).mono ?_; rintro e w5 ⟨rfl, hb6⟩)
      go_ret
      exact ⟨rfl, (hba _).trans (hb6.mono (by simp))⟩
end Go.Proofs.Qxb6600571aMods
