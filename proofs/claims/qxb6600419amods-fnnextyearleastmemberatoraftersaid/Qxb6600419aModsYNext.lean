import Derived.Test.Qxb6600419aModsYears
namespace Go.Proofs.Qxb6600419aMods.Years
open Go.RowKit Go.Deep

theorem zznext_nil (y : Int) (w : World) :
    Calls Trym.prog 16 #[.slice none 0 0, .int .i64 y] w fun r w' => r = .returned (.tuple #[.int .i64 y, .bool true]) ∧ Below w.heap.size w w' := by
  have q28 : ∀ (w : World) (a : Option Addr) (n c n' c' : Nat), (binOp .neq 28 (.slice a n c) (.slice none n' c')).run Trym.prog w = .ok (.bool (!a.isNone)) w := fun w a n c n' c' => run_neq_slice_nil_any w _ _ a n c n' c' Trym.underlying28
  go_enter Trym.func16, Trym.ntmps16
  go_wp2_with fail
  refine (next_nil w.heap.size y _ (by simp [go_sem])).mono ?_
  rintro r w1 ⟨rfl, rfl⟩
  go_wp2
  go_ret2
  exact ⟨rfl, (Below.refl _ _).alloc (Nat.le_refl _) _⟩

theorem cell_store {w1 : World} {b b' o o' : Nat} {v u : Value} (hne : b ≠ b') (h : w1.cell? ⟨b, o, none⟩ = some v) : (w1.setCell ⟨b', o', none⟩ u).cell? ⟨b, o, none⟩ = some v :=
  (World.cell?_of_block (w := w1) (blk_setCell_other _ _ _ _ hne)).trans h
theorem cell_store3 {w1 : World} {b b' o o1 o2 o3 : Nat} {v u1 u2 u3 : Value} (hne : b ≠ b') (h : w1.cell? ⟨b, o, none⟩ = some v) : (((w1.setCell ⟨b', o1, none⟩ u1).setCell ⟨b', o2, none⟩ u2).setCell ⟨b', o3, none⟩ u3).cell? ⟨b, o, none⟩ = some v :=
  cell_store hne (cell_store hne (cell_store hne h))
theorem keep_store {w1 : World} {N b o o1 o2 o3 p1 p2 p3 : Nat} {v1 v2 v3 v4 u1 u2 u3 : Value} (hb : b ≠ N + 1) (h1 : w1.cell? ⟨N, o, none⟩ = some v1) (h2 : w1.cell? ⟨b, p1, none⟩ = some v2) (h3 : w1.cell? ⟨b, p2, none⟩ = some v3) (h4 : w1.cell? ⟨b, p3, none⟩ = some v4) :
    (((w1.setCell ⟨N + 1, o1, none⟩ u1).setCell ⟨N + 1, o2, none⟩ u2).setCell ⟨N + 1, o3, none⟩ u3).cell? ⟨N, o, none⟩ = some v1 ∧ (((w1.setCell ⟨N + 1, o1, none⟩ u1).setCell ⟨N + 1, o2, none⟩ u2).setCell ⟨N + 1, o3, none⟩ u3).cell? ⟨b, p1, none⟩ = some v2 ∧
      (((w1.setCell ⟨N + 1, o1, none⟩ u1).setCell ⟨N + 1, o2, none⟩ u2).setCell ⟨N + 1, o3, none⟩ u3).cell? ⟨b, p2, none⟩ = some v3 ∧ (((w1.setCell ⟨N + 1, o1, none⟩ u1).setCell ⟨N + 1, o2, none⟩ u2).setCell ⟨N + 1, o3, none⟩ u3).cell? ⟨b, p3, none⟩ = some v4 :=
  ⟨cell_store3 (by omega) h1, cell_store3 hb h2, cell_store3 hb h3, cell_store3 hb h4⟩

set_option maxHeartbeats 2000000 in
theorem zznext_some (x : Addr) (len cap : Nat) (Y : Nat → Nat → Int) (y : Int) (w : World) (hm : len ≤ 32768) (hy : In y) (hY : ∀ i, i < len → ∀ j, j < 3 → In (Y i j)) (hL : LiesY w (some x) Y len) :
    Calls Trym.prog 16 #[.slice (some x) len cap, .int .i64 y] w fun r w' => r = .returned (.tuple #[.int .i64 (nx Y y len).1, .bool (nx Y y len).2]) ∧ Below w.heap.size w w' := by
  have q28 : ∀ (w : World) (a : Option Addr) (n c n' c' : Nat), (binOp .neq 28 (.slice a n c) (.slice none n' c')).run Trym.prog w = .ok (.bool (!a.isNone)) w := fun w a n c n' c' => run_neq_slice_nil_any w _ _ a n c n' c' Trym.underlying28
  have hmk := make3 45 53 Trym.underlying45 Trym.info53 len hm
  obtain ⟨b, f, hbf⟩ : ∃ b f, nx Y y len = (b, f) := ⟨_, _, rfl⟩
  rw [hbf]
  have HR := Hid.mk hbf
  clear hbf
  show Calls Trym.prog 16 #[.slice (some x) len cap, .int .i64 y] w fun r w' => r = .returned (.tuple #[.int .i64 b, .bool f]) ∧ Below w.heap.size w w'
  go_enter Trym.func16, Trym.ntmps16
  go_wp2
  clear q28 hmk
  go_loopw [7] (fun i wr => ∃ k : Nat, k ≤ len ∧ i = .int .i64 k ∧ Below w.heap.size w wr ∧ wr.cell? ⟨w.heap.size, 7, none⟩ = some (.slice (some ⟨w.heap.size + 1, 0, none⟩) len len) ∧ wr.rowIs (w.heap.size + 1) 53 (len * 3) (upTo Y k)) (fun i _ => len - (intOf i).toNat)
  case atStart =>
    refine ⟨0, Nat.zero_le _, rfl, ((Below.refl _ _).alloc (Nat.le_refl _) _).alloc (by simp) _, by simp [go_sem], ?_⟩
    have h := made3 (w.alloc (.cells #[Value.int IntKind.u64 0, Value.int IntKind.u64 0, Value.int IntKind.u32 0, Value.int IntKind.u32 0,
        Value.int IntKind.u16 0, Value.int IntKind.u8 0, Value.bool false, Value.slice (some ⟨w.heap.size + 1, 0, none⟩) len len, Value.slice none 0 0,
        Value.slice none 0 0, Value.slice none 0 0, Value.slice none 0 0, Value.slice none 0 0, Value.slice none 0 0,
        Value.slice none 0 0, Value.string { data := #[] }, Value.int IntKind.u32 0, Value.int IntKind.u32 0,
        Value.int IntKind.u32 0, Value.int IntKind.u32 0, Value.int IntKind.u32 0, Value.int IntKind.u32 0,
        Value.int IntKind.u32 0, Value.int IntKind.u16 0, Value.int IntKind.u16 0, Value.int IntKind.u16 0,
        Value.int IntKind.u16 0, Value.int IntKind.u16 0, Value.int IntKind.u16 0, Value.int IntKind.u16 0,
        Value.int IntKind.u16 0, Value.int IntKind.u16 0, Value.int IntKind.u16 0, Value.int IntKind.u16 0,
        Value.int IntKind.u16 0, Value.int IntKind.u16 0, Value.int IntKind.u16 0] 51)) (.int .i64 0) (len * 3) 53
    rw [World.size_alloc] at h
    exact h.congr (fun j _ => by unfold upTo; rw [if_neg (by omega)])
  case round =>
    obtain ⟨k, hk, rfl, hbel, hcy, hrow⟩ := hrel
    by_cases hlt : k < len
    · obtain ⟨bb, off, hx, s0, s1, s2⟩ := hL.three hlt
      obtain rfl : x = ⟨bb, off, none⟩ := by simpa using hx
      clear hx
      have hbb : bb ≠ w.heap.size + 1 := by have := World.block_lt_of_cell? w _ s0; show bb ≠ _; simp at this; omega
      have k0 := (hbel.cell (World.block_lt_of_cell? w _ s0)).trans s0
      have k1 := (hbel.cell (World.block_lt_of_cell? w _ s1)).trans s1
      have k2 := (hbel.cell (World.block_lt_of_cell? w _ s2)).trans s2
      have t0 := hrow.cell (i := k * 3) (by omega)
      have t1 := hrow.cell (i := k * 3 + 1) (by omega)
      have t2 := hrow.cell (i := k * 3 + 2) (by omega)
      rw [upTo_at] at t1 t2
      rw [show upTo Y k (k * 3) = .int .i64 0 from upTo_at Y k 0] at t0
      have f0 := hrow.frozen (k * 3)
      have f1 := hrow.frozen (k * 3 + 1)
      have f2 := hrow.frozen (k * 3 + 2)
      have hk' : (k : Int) < (len : Int) := by omega
      clear s0 s1 s2 hL hY hy HR
      go_wp2
      go_region_held3 (fun w' => w'.cell? ⟨w.heap.size, 7, none⟩ = some (.slice (some ⟨w.heap.size + 1, 0, none⟩) len len) ∧ w'.cell? ⟨bb, off + k * 3, none⟩ = some (.int .i64 (Y k 0)) ∧ w'.cell? ⟨bb, off + k * 3 + 1, none⟩ = some (.int .i64 (Y k 1)) ∧ w'.cell? ⟨bb, off + k * 3 + 2, none⟩ = some (.int .i64 (Y k 2)))
        ((first | exact keep_store hbb ‹_› ‹_› ‹_› ‹_› | go_keep)) (fail)
      go_wp2
      go_roundw
      case rel => exact ⟨k + 1, by omega, by go_num, (((hbel.setCell (by show w.heap.size ≤ w.heap.size + 1; omega) _).setCell (by show w.heap.size ≤ w.heap.size + 1; omega) _).setCell (by show w.heap.size ≤ w.heap.size + 1; omega) _).drew, cell_store3 (by omega) hcy, (row3_step hrow).drew⟩
      case measure => simp [intOf]; omega
    · have hrow2 : wr.rowIs (w.heap.size + 1) 53 (len * 3) (upTo Y len) := hrow.congr (fun j _ => by rw [show k = len by omega])
      go_wp2_with fail
      refine (next_some w.heap.size ⟨w.heap.size + 1, 0, none⟩ len len Y y _ hm hy hY hcy (liesY_row hrow2)).mono ?_
      rw [HR.out]
      rintro r w1 ⟨rfl, hb1⟩
      go_wp2
      go_ret2
      exact ⟨rfl, hbel.trans (hb1.mono hbel.size)⟩
end Go.Proofs.Qxb6600419aMods.Years
