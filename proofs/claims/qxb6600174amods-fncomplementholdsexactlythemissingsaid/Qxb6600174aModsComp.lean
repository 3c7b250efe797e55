import Derived.Test.Qxb6600174aModsLeaf
namespace Go.Proofs.Qxb6600174aMods
open Go.RowKit Go.Deep

theorem new_any (m n : Nat) (w : World) (h1 : m ≤ 65536) (hn : ((m : Int) + 63) / 64 = n) :
    Calls Trym.prog 12 #[.int .i64 m] w fun e w' => e = .returned (.agg #[.int .i64 m, .slice (some ⟨w.heap.size + 1, 0, none⟩) n n]) ∧ Below w.heap.size w w' ∧ w'.heap.size = w.heap.size + 2 ∧
      w'.rowIs (w.heap.size + 1) 29 n (fun _ => .int .u64 0) := by
  have HN : Hid (((m : Int) + 63) / 64 = n) := hn
  have hn1 : n ≤ 1024 := by omega
  clear hn
  have hmk := run_make_row' (P := Trym.prog) 22 29 (.int .u64 0) 8 Trym.underlying22 Trym.info29 rfl .i64 .i64 n (by omega) (by omega)
  go_enter Trym.func12, Trym.ntmps12
  go_wp2_with (go_at_call 15; refine (elems_any _ _ (by omega) (by omega)).mono ?_; rw [HN.out]; rintro e w' ⟨rfl, rfl⟩)
  refine bodyPost_ret (v := .agg #[.int .i64 m, .slice (some ⟨w.heap.size + 1, 0, none⟩) n n]) (by simp [results, Trym.results12, go_sem]) rfl ⟨rfl, ((Below.refl _ _).alloc (Nat.le_refl _) _).alloc (by simp) _, by simp, ?_⟩
  have h := World.rowIs_made (w.alloc (Obj.cells #[Value.int IntKind.i64 ↑m, Value.slice (some { block := w.heap.size + 1, off := 0 }) n n] 26)) (.int .u64 0) n 29
  simpa using h

/-- The words ns lie at a in w. -/
def Lies (w : World) (a : Option Addr) (ns : List Nat) : Prop := ∀ i, i < ns.length → ∃ b off, a = some ⟨b, off, none⟩ ∧ w.cell? ⟨b, off + i, none⟩ = some (.int .u64 (wd ns i))
theorem Lies.later {w w1 : World} {a : Option Addr} {ns : List Nat} (h : Lies w a ns) (hb : Below w.heap.size w w1) : Lies w1 a ns := fun i hi => by
  obtain ⟨b, off, ha, hc⟩ := h i hi
  exact ⟨b, off, ha, (hb.cell (World.block_lt_of_cell? w _ hc)).trans hc⟩

theorem elem_all (B : Int) (ns : List Nat) (a : Option Addr) (len cap k : Nat) (w : World) (hl : ns.length = len) (hm : len ≤ 131072) (hB : -9223372036000000000 ≤ B) (hB' : B ≤ 9223372036854775807)
    (hz : ∀ k, ns.getD k 0 < 18446744073709551616) (hc : Lies w a ns) :
    Calls Trym.prog 13 #[.agg #[.int .i64 B, .slice a len cap], .int .i64 k] w fun e w' => e = .returned (.int .u64 (elemN B ns k : Nat)) ∧ Below w.heap.size w w' := by
  by_cases hk : k < len
  · obtain ⟨b, off, rfl, h⟩ := hc k (by omega)
    exact elem_in B ns b off len cap k w hm hk hB hB' hz h
  · have e : elemN B ns k = 0 := by
      unfold elemN
      rw [List.getD_eq_getElem?_getD, List.getElem?_eq_none (by omega)]
      simp
    rw [e]
    exact elem_past B a len cap k w (by omega)

def two (x y : Value) : Nat → Value | 0 => x | _ => y

structure CInv (w wr : World) (B : Int) (ns : List Nat) (a : Option Addr) (len cap m n k : Nat) : Prop where
  bel : Below w.heap.size w wr
  size : w.heap.size + 5 ≤ wr.heap.size
  box : wr.rowIs w.heap.size 26 2 (two (.int .i64 B) (.slice a len cap))
  res : wr.rowIs (w.heap.size + 1) 26 2 (two (.int .i64 0) (.slice none 0 0))
  c : wr.rowIs (w.heap.size + 1 + 1 + 2) 26 2 (two (.int .i64 m) (.slice (some ⟨w.heap.size + 1 + 1 + 1, 0, none⟩) n n))
  row : wr.rowIs (w.heap.size + 1 + 1 + 1) 29 n (fun i => .int .u64 (if i < k then ((compN B ns m i : Nat) : Int) else 0))

theorem of_drew {w w1 : World} (h : Below w.drew.heap.size w.drew w1) : Below w.heap.size w w1 := ⟨h.os, h.tape, h.output, h.size, h.block⟩
theorem cell_store {w1 : World} {b b' o o' : Nat} {v u : Value} (hne : b ≠ b') (h : w1.cell? ⟨b, o, none⟩ = some v) : (w1.setCell ⟨b', o', none⟩ u).cell? ⟨b, o, none⟩ = some v :=
  (World.cell?_of_block (w := w1) (blk_setCell_other _ _ _ _ hne)).trans h
theorem keep_store {w1 : World} {N k : Nat} {v1 v2 v3 u : Value} (h1 : w1.cell? ⟨N + 1 + 1 + 2, 1, none⟩ = some v1) (h2 : w1.cell? ⟨N, 0, none⟩ = some v2) (h3 : w1.cell? ⟨N, 1, none⟩ = some v3) :
    (w1.setCell ⟨N + 1 + 1 + 1, k, none⟩ u).cell? ⟨N + 1 + 1 + 2, 1, none⟩ = some v1 ∧ (w1.setCell ⟨N + 1 + 1 + 1, k, none⟩ u).cell? ⟨N, 0, none⟩ = some v2 ∧ (w1.setCell ⟨N + 1 + 1 + 1, k, none⟩ u).cell? ⟨N, 1, none⟩ = some v3 :=
  ⟨cell_store (by omega) h1, cell_store (by omega) h2, cell_store (by omega) h3⟩
theorem alloc_two (w : World) (x y : Value) (t : TypeId) : (w.alloc (.cells #[x, y] t)).rowIs w.heap.size t 2 (two x y) :=
  World.rowIs_alloc w #[x, y] t (two x y) (fun i hi => by
    match i, hi with
    | 0, _ => rfl
    | 1, _ => rfl)
theorem row_later {w w1 : World} {b : Nat} {t : TypeId} {n : Nat} {f : Nat → Value} (h : w.rowIs b t n f) (hb : Below w.heap.size w w1) : w1.rowIs b t n f := h.of_block (hb.block _ h.lt)

theorem CInv.start {w w1 : World} {B : Int} {ns : List Nat} {a : Option Addr} {len cap m n : Nat}
    (hb1 : Below ((w.alloc (Obj.cells #[Value.int IntKind.i64 B, Value.slice a len cap] 26)).alloc (Obj.cells #[Value.int IntKind.i64 0, Value.slice none 0 0] 26)).heap.size
      ((w.alloc (Obj.cells #[Value.int IntKind.i64 B, Value.slice a len cap] 26)).alloc (Obj.cells #[Value.int IntKind.i64 0, Value.slice none 0 0] 26)) w1)
    (hs1 : w1.heap.size = ((w.alloc (Obj.cells #[Value.int IntKind.i64 B, Value.slice a len cap] 26)).alloc (Obj.cells #[Value.int IntKind.i64 0, Value.slice none 0 0] 26)).heap.size + 2)
    (hr1 : w1.rowIs (((w.alloc (Obj.cells #[Value.int IntKind.i64 B, Value.slice a len cap] 26)).alloc (Obj.cells #[Value.int IntKind.i64 0, Value.slice none 0 0] 26)).heap.size + 1) 29 n fun _ => Value.int IntKind.u64 0) :
    CInv w (w1.alloc (Obj.cells #[Value.int IntKind.i64 ↑m, Value.slice (some { block := w.heap.size + 1 + 1 + 1, off := 0 }) n n] 26)) B ns a len cap m n 0 := by
  have hbox := ((alloc_two w (.int .i64 B) (.slice a len cap) 26).alloc (Obj.cells #[Value.int IntKind.i64 0, Value.slice none 0 0] 26))
  have hres := alloc_two (w.alloc (Obj.cells #[Value.int IntKind.i64 B, Value.slice a len cap] 26)) (.int .i64 0) (.slice none 0 0) 26
  have hc := alloc_two w1 (.int .i64 m) (.slice (some ⟨w.heap.size + 1 + 1 + 1, 0, none⟩) n n) 26
  have hbel : Below w.heap.size w w1 := (((Below.refl _ w).alloc (Nat.le_refl _) _).alloc (by simp) _).trans (hb1.mono (by simp; omega))
  rw [hs1] at hc
  simp only [World.size_alloc] at hs1 hr1 hc hres
  refine ⟨hbel.alloc (by omega) _, by simp; omega, (row_later hbox hb1).alloc _, (row_later hres hb1).alloc _, hc, (hr1.alloc _).congr (fun j _ => by simp)⟩

theorem CInv.step {w wr w1 : World} {B : Int} {ns : List Nat} {a : Option Addr} {len cap m n k : Nat} (h : CInv w wr B ns a len cap m n k) (hb : Below wr.heap.size wr w1) {v : Int} (hv : v = ((compN B ns m k : Nat) : Int)) :
    CInv w (w1.setCell ⟨w.heap.size + 1 + 1 + 1, k, none⟩ (.int .u64 v)) B ns a len cap m n (k + 1) := by
  have hs := hb.size
  have hs2 := h.size
  subst hv
  refine ⟨(h.bel.trans (hb.mono (by omega))).setCell (by show w.heap.size ≤ w.heap.size + 1 + 1 + 1; omega) _, by simp; omega, (row_later h.box hb).setOther (by show w.heap.size ≠ w.heap.size + 1 + 1 + 1; omega) _,
    (row_later h.res hb).setOther (by show w.heap.size + 1 ≠ w.heap.size + 1 + 1 + 1; omega) _, (row_later h.c hb).setOther (by show w.heap.size + 1 + 1 + 2 ≠ w.heap.size + 1 + 1 + 1; omega) _,
    ((row_later h.row hb).set k _).congr (fun j _ => ?_)⟩
  by_cases e : j = k
  · subst e; rw [if_pos rfl, if_pos (by omega)]
  · rw [if_neg e]
    by_cases h2 : j < k
    · rw [if_pos h2, if_pos (by omega)]
    · rw [if_neg h2, if_neg (by omega)]

theorem xor_max (x : Nat) (hx : x < 18446744073709551616) : 18446744073709551615 ^^^ x = 18446744073709551615 - x := by
  apply Nat.eq_of_testBit_eq
  intro j
  have e : (18446744073709551615 : Nat) = 2 ^ 64 - 1 := by decide
  rw [Nat.testBit_xor, not_bit x j hx, e, Nat.testBit_two_pow_sub_one]
  by_cases hj : j < 64
  · simp [hj]
  · have hb : x.testBit j = false := by
      refine Nat.testBit_lt_two_pow (Nat.lt_of_lt_of_le hx ?_)
      have h1 : (2 : Nat) ^ 64 ≤ 2 ^ j := Nat.pow_le_pow_right (by decide) (by omega)
      have h2 : (2 : Nat) ^ 64 = 18446744073709551616 := by decide
      omega
    simp [hj, hb]
theorem comp_eq (B : Int) (ns : List Nat) (m k : Nat) : bits BinOp.and IntKind.u64 (bits BinOp.xor IntKind.u64 IntKind.u64.max ((elemN B ns k : Nat) : Int)) ((lowN ((m : Int) - 64 * (k : Int)) : Nat) : Int) = ((compN B ns m k : Nat) : Int) := by
  have hm : IntKind.u64.max = ((18446744073709551615 : Nat) : Int) := by decide
  have hx := elemN_lt B ns k
  rw [hm, u64_xor_nat _ _ (by omega) hx, xor_max _ hx, u64_and_nat _ _ (by omega) (lowN_lt _)]
  rfl

theorem comp_any (B : Int) (ns : List Nat) (a : Option Addr) (len cap m n : Nat) (w : World) (hl : ns.length = len) (hm : len ≤ 131072) (hB : -9223372036000000000 ≤ B) (hB' : B ≤ 9223372036854775807)
    (hz : ∀ k, ns.getD k 0 < 18446744073709551616) (hc : Lies w a ns) (h1 : m ≤ 65536) (hn : ((m : Int) + 63) / 64 = n) :
    Calls Trym.prog 8 #[.agg #[.int .i64 B, .slice a len cap], .int .i64 m] w fun e w' => ∃ g, e = .returned (.agg #[.int .i64 m, .slice (some ⟨g, 0, none⟩) n n]) ∧ Below w.heap.size w w' ∧
      w'.rowIs g 29 n (fun i => .int .u64 ((compN B ns m i : Nat) : Int)) := by
  have HL : Hid (ns.length = len) := hl
  have HN : Hid (((m : Int) + 63) / 64 = n) := hn
  have hn1 : n ≤ 1024 := by omega
  clear hn hl
  go_enter Trym.func8, Trym.ntmps8
  go_wp2_with (go_at_call 12; refine (new_any m n _ h1 HN.out).mono ?_; rintro e w1 ⟨rfl, hb1, hs1, hr1⟩)
  have hI := CInv.start (ns := ns) (m := m) hb1 hs1 hr1
  clear hb1 hs1 hr1
  generalize (w1.alloc (Obj.cells #[Value.int IntKind.i64 ↑m, Value.slice (some { block := w.heap.size + 1 + 1 + 1, off := 0 }) n n] 26)) = w2 at hI ⊢
  clear w1
  go_loopw [12, 6] (fun i _ wr => ∃ k : Nat, k ≤ n ∧ i = .int .i64 k ∧ CInv w wr B ns a len cap m n k) (fun i _ _ => n - (intOf i).toNat)
  case atStart => exact ⟨0, Nat.zero_le _, rfl, hI⟩
  case round =>
    clear hI
    obtain ⟨k, hk, rfl, hI⟩ := hrel
    by_cases hlt : k < n
    · have hlt' : (k : Int) < (n : Int) := by omega
      have hL : Lies wr.drew a ns := hc.later hI.bel.drew
      have f1 := hI.row.frozen k
      have c1 := hI.row.cell hlt
      simp only [Nat.lt_irrefl, if_false] at c1
      have c2 := hI.c.cell (i := 1) (by omega)
      have c3 := hI.box.cell (i := 0) (by omega)
      have c4 := hI.box.cell (i := 1) (by omega)
      simp only [two] at c2 c3 c4
      go_wp2
      go_region_held3 (fun w' => w'.cell? ⟨w.heap.size + 1 + 1 + 2, 1, none⟩ = some (.slice (some ⟨w.heap.size + 1 + 1 + 1, 0, none⟩) n n) ∧ w'.cell? ⟨w.heap.size, 0, none⟩ = some (.int .i64 B) ∧
          w'.cell? ⟨w.heap.size, 1, none⟩ = some (.slice a len cap)) ((first | exact keep_store ‹_› ‹_› ‹_› | go_keep))
        (first
          | (go_at_call 14; refine (low_any _ _).mono ?_; rintro e w1 ⟨rfl, rfl⟩)
          | (go_at_call 13; (refine (elem_all B ns a len cap k wr.drew HL.out hm hB hB' hz hL).mono ?_); rintro e w1 ⟨rfl, hb1⟩; have hb2 : Below wr.heap.size wr w1 := of_drew hb1; clear hb1; have d1 := cell_later hb2 c1; have d2 := cell_later hb2 c2; have d3 := cell_later hb2 c3; have d4 := cell_later hb2 c4; have d5 := (hb2.frozen (p := ⟨w.heap.size + 1 + 1 + 1, k, none⟩) hI.row.lt).trans f1))
      go_wp2
      go_roundw
      case rel => exact ⟨k + 1, by omega, by go_num, hI.step hb2 (comp_eq B ns m k)⟩
      case measure => simp [intOf]; omega
    · have c2 := hI.c.cell (i := 1) (by omega)
      have c1 := hI.c.cell (i := 0) (by omega)
      have c3 := hI.res.cell (i := 0) (by omega)
      have c4 := hI.res.cell (i := 1) (by omega)
      have c5 := hI.res.frozen 0
      have c6 := hI.res.frozen 1
      simp only [two] at c1 c2 c3 c4
      go_wp2
      refine bodyPost_ret (v := .agg #[.int .i64 m, .slice (some ⟨w.heap.size + 1 + 1 + 1, 0, none⟩) n n]) (by simp [results, Trym.results8, go_sem, c3, c4]) rfl ⟨_, rfl, (hI.bel.setCell (by show w.heap.size ≤ w.heap.size + 1; omega) _).setCell (by show w.heap.size ≤ w.heap.size + 1; omega) _,
        ((hI.row.setOther (by show w.heap.size + 1 + 1 + 1 ≠ w.heap.size + 1; omega) _).setOther (by show w.heap.size + 1 + 1 + 1 ≠ w.heap.size + 1; omega) _).congr (fun j hj => by rw [if_pos (by omega)])⟩
end Go.Proofs.Qxb6600174aMods
