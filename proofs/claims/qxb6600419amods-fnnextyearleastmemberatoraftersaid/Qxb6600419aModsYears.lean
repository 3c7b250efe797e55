import Derived.Test.Qxb6600419aModsRows
import Derived.Test.Qxb6600419aModsYPlain
import Derived.WalkKit
import Derived.WalkSpells
import Derived.WalkLawsBesides
import Derived.Below
import Derived.Deep.OwnRows
import Derived.Deep.QuietTactic
import Derived.BigQuiet
import Derived.Deep.RegionHeld3
namespace Go.Proofs.Qxb6600419aMods.Years
open Go.RowKit Go.Deep

theorem oob_no (v : Int) (w : World) (h : In v) : Calls Trym.prog 13 #[.int .i64 v] w fun e w' => e = .returned (.bool false) ∧ w = w' := by
  obtain ⟨h1, h2⟩ := h
  go_enter Trym.func13, Trym.ntmps13
  go_wp2
  go_ret
  exact ⟨by simp; omega, rfl⟩
theorem oob_yes (v : Int) (w : World) (h : ¬ In v) : Calls Trym.prog 13 #[.int .i64 v] w fun e w' => e = .returned (.bool true) ∧ w = w' := by
  by_cases h1 : v < -268435456
  · go_enter Trym.func13, Trym.ntmps13
    go_wp2
    go_ret
    exact ⟨rfl, rfl⟩
  · have h2 : 268435456 < v := by unfold In at h; omega
    go_enter Trym.func13, Trym.ntmps13
    go_wp2
    go_ret
    exact ⟨rfl, rfl⟩

/-- The years Y lie at a. -/
def LiesY (w : World) (a : Option Addr) (Y : Nat → Nat → Int) (len : Nat) : Prop :=
  ∀ i, i < len → ∃ b off, a = some ⟨b, off, none⟩ ∧ ∀ j, j < 3 → w.cell? ⟨b, off + i * 3 + j, none⟩ = some (.int .i64 (Y i j))

def YOut (Y : Nat → Nat → Int) (len : Nat) (e : Ending) : Prop := e = .returned (.bool true) ∨ (e = .returned (.bool false) ∧ ∀ i, i < len → ∀ j, j < 3 → In (Y i j))

theorem in_step {Y : Nat → Nat → Int} {k l : Nat} (h : ∀ j, j < l → In (Y k j)) (hin : In (Y k l)) : ∀ j, j < l + 1 → In (Y k j) := fun j hj => by
  by_cases e : j = l
  · subst e; exact hin
  · exact h j (by omega)
theorem in_step2 {Y : Nat → Nat → Int} {k l : Nat} (h : ∀ i, i < k → ∀ j, j < 3 → In (Y i j)) (hk : ∀ j, j < l → In (Y k j)) (hl : 3 ≤ l) : ∀ i, i < k + 1 → ∀ j, j < 3 → In (Y i j) := fun i hi j hj => by
  by_cases e : i = k
  · subst e; exact hk j (by omega)
  · exact h i (by omega) j hj

theorem yob_any (a : Option Addr) (len cap : Nat) (Y : Nat → Nat → Int) (w : World) (hm : len ≤ 32768) (hc : LiesY w a Y len) :
    Calls Trym.prog 14 #[.slice a len cap] w fun e w' => YOut Y len e ∧ w = w' := by
  go_enter Trym.func14, Trym.ntmps14
  go_wp2
  go_loop [3, 4] (fun i _ => ∃ k : Nat, k ≤ len ∧ i = .int .i64 k ∧ Hid (∀ i, i < k → ∀ j, j < 3 → In (Y i j))) (fun i _ => len - (intOf i).toNat)
  case atStart => exact ⟨0, Nat.zero_le _, rfl, fun i hi => absurd hi (Nat.not_lt_zero _)⟩
  case round =>
    obtain ⟨k, hk, rfl, HI⟩ := hrel
    by_cases hlt : k < len
    · obtain ⟨b, off, rfl, hcell⟩ := hc k hlt
      have hk' : (k : Int) < (len : Int) := by omega
      have HC : Hid (∀ j, j < 3 → w.cell? ⟨b, off + k * 3 + j, none⟩ = some (.int .i64 (Y k j))) := hcell
      clear hcell hc
      go_wp2
      go_loop [4] (fun j => ∃ l : Nat, l ≤ 3 ∧ j = .int .i64 l ∧ Hid (∀ j, j < l → In (Y k j))) (fun j => 3 - (intOf j).toNat)
      case atStart => exact ⟨0, Nat.zero_le _, rfl, fun i hi => absurd hi (Nat.not_lt_zero _)⟩
      case round =>
        obtain ⟨l, hl, rfl, HJ⟩ := hrel
        by_cases hl3 : l < 3
        · have hcl := HC.out l hl3
          by_cases hin : In (Y k l)
          · go_wp2_with (go_at_call 13; refine (oob_no _ _ hin).mono ?_; rintro e w' ⟨rfl, rfl⟩)
            go_round
            case rel => exact ⟨l + 1, by omega, by go_num, in_step HJ.out hin⟩
            case measure => simp [intOf]; omega
          · go_wp2_with (go_at_call 13; refine (oob_yes _ _ hin).mono ?_; rintro e w' ⟨rfl, rfl⟩)
            go_ret
            exact ⟨.inl rfl, rfl⟩
        · go_wp2
          go_round
          case rel => exact ⟨k + 1, by omega, by go_num, in_step2 HI.out HJ.out (by omega)⟩
          case measure => simp [intOf]; omega
    · go_wp2
      go_ret
      exact ⟨.inr ⟨rfl, fun i hi => HI.out i (by omega)⟩, rfl⟩

/-! ### Rows of three cells an element -/
theorem Trym.info35 : (Trym.prog.info? 35).map (fun i => (i.zero, i.size, i.bytes)) = some (some (.agg #[.int .i64 0, .int .i64 0, .int .i64 0]), 3, 24) := by kernel_rfl
theorem Trym.info53 : (Trym.prog.info? 53).map (fun i => (i.zero, i.size, i.bytes)) = some (some (.agg #[.int .i64 0, .int .i64 0, .int .i64 0]), 3, 24) := by kernel_rfl

/-- make([]T, n), T of three integers. -/
theorem make3 (t e : TypeId) (ht : Trym.prog.underlying t = some (.slice e)) (hinfo : (Trym.prog.info? e).map (fun i => (i.zero, i.size, i.bytes)) = some (some (.agg #[.int .i64 0, .int .i64 0, .int .i64 0]), 3, 24)) (n : Nat) (hn : n ≤ 32768) (w : World) :
    (Instr.makeSlice t (.int .i64 (n : Int)) (.int .i64 (n : Int))).run Trym.prog w = .ok (.slice (some ⟨w.heap.size, 0, none⟩) n n) (w.alloc (.cells (madeCells #[.int .i64 0, .int .i64 0, .int .i64 0] (n * 3)) e)) := by
  obtain ⟨i, hi, hz, hs, hb⟩ := info_parts hinfo
  have hr := run_make (P := Trym.prog) w t e i _ ht hi hz .i64 .i64 n n (by omega) (Int.le_refl _) (by rw [hb]; omega) (by omega)
  simp only [Int.toNat_natCast, hs] at hr
  exact hr
theorem made3 (w : World) (z : Value) (n : Nat) (t : TypeId) : (w.alloc (.cells (madeCells #[z, z, z] n) t)).rowIs w.heap.size t n (fun _ => z) := by
  have h := World.rowIs_alloc w (madeCells #[z, z, z] n) t (fun _ => z) (fun i hi => by
    rw [size_madeCells] at hi
    simp only [madeCells, Array.getElem?_map, Array.getElem?_range, hi, if_true, Option.map_some, Option.some.injEq]
    have h3 : i % 3 < 3 := Nat.mod_lt _ (by decide)
    show #[z, z, z][i % 3]! = z
    match i % 3, h3 with
    | 0, _ => rfl
    | 1, _ => rfl
    | 2, _ => rfl)
  rw [size_madeCells] at h
  exact h
/-- Cell p of a row of which k elements are filled. -/
def upTo (Y : Nat → Nat → Int) (k p : Nat) : Value := .int .i64 (if p < k * 3 then Y (p / 3) (p % 3) else 0)
theorem upTo_at (Y : Nat → Nat → Int) (k j : Nat) : upTo Y k (k * 3 + j) = .int .i64 0 := by unfold upTo; rw [if_neg (by omega)]
theorem row3_step {w : World} {g n k : Nat} {t : TypeId} {Y : Nat → Nat → Int} (h : w.rowIs g t n (upTo Y k)) :
    (((w.setCell ⟨g, k * 3, none⟩ (.int .i64 (Y k 0))).setCell ⟨g, k * 3 + 1, none⟩ (.int .i64 (Y k 1))).setCell ⟨g, k * 3 + 2, none⟩ (.int .i64 (Y k 2))).rowIs g t n (upTo Y (k + 1)) := by
  refine (((h.set (k * 3) _).set (k * 3 + 1) _).set (k * 3 + 2) _).congr (fun p _ => ?_)
  unfold upTo
  by_cases e2 : p = k * 3 + 2
  · subst e2; rw [if_pos rfl, if_pos (by omega), show (k * 3 + 2) / 3 = k by omega, show (k * 3 + 2) % 3 = 2 by omega]
  rw [if_neg e2]
  by_cases e1 : p = k * 3 + 1
  · subst e1; rw [if_pos rfl, if_pos (by omega), show (k * 3 + 1) / 3 = k by omega, show (k * 3 + 1) % 3 = 1 by omega]
  rw [if_neg e1]
  by_cases e0 : p = k * 3
  · subst e0; rw [if_pos rfl, if_pos (by omega), show (k * 3) / 3 = k by omega, show (k * 3) % 3 = 0 by omega]
  rw [if_neg e0]
  by_cases e : p < k * 3
  · rw [if_pos e, if_pos (by omega)]
  · rw [if_neg e, if_neg (by omega)]
theorem liesY_row {w : World} {g len : Nat} {t : TypeId} {Y : Nat → Nat → Int} (h : w.rowIs g t (len * 3) (upTo Y len)) : LiesY w (some ⟨g, 0, none⟩) Y len := fun i hi =>
  ⟨g, 0, rfl, fun j hj => by
    have hc := h.cell (i := i * 3 + j) (by omega)
    unfold upTo at hc
    rw [if_pos (by omega), show (i * 3 + j) / 3 = i by omega, show (i * 3 + j) % 3 = j by omega] at hc
    rw [Nat.zero_add]
    exact hc⟩
theorem LiesY.later {w w1 : World} {a : Option Addr} {Y : Nat → Nat → Int} {len : Nat} (h : LiesY w a Y len) (hb : Below w.heap.size w w1) : LiesY w1 a Y len := fun i hi => by
  obtain ⟨b, off, ha, hc⟩ := h i hi
  exact ⟨b, off, ha, fun j hj => cell_later hb (hc j hj)⟩
theorem LiesY.three {w : World} {a : Option Addr} {Y : Nat → Nat → Int} {len k : Nat} (h : LiesY w a Y len) (hk : k < len) :
    ∃ b off, a = some ⟨b, off, none⟩ ∧ w.cell? ⟨b, off + k * 3, none⟩ = some (.int .i64 (Y k 0)) ∧ w.cell? ⟨b, off + k * 3 + 1, none⟩ = some (.int .i64 (Y k 1)) ∧ w.cell? ⟨b, off + k * 3 + 2, none⟩ = some (.int .i64 (Y k 2)) := by
  obtain ⟨b, off, ha, hc⟩ := h k hk
  exact ⟨b, off, ha, hc 0 (by decide), hc 1 (by decide), hc 2 (by decide)⟩

/-- copyYears. -/
theorem copy_nil (w : World) : Calls Trym.prog 15 #[.slice none 0 0] w fun e w' => e = .returned (.slice none 0 0) ∧ w = w' := by
  have q28 : ∀ (w : World) (a : Option Addr) (n c n' c' : Nat), (binOp .eql 28 (.slice a n c) (.slice none n' c')).run Trym.prog w = .ok (.bool a.isNone) w := fun w a n c n' c' => Lib.run_eql_slice_nil w _ _ a n c n' c' Trym.underlying28
  go_enter Trym.func15, Trym.ntmps15
  go_wp2
  go_ret
  exact ⟨rfl, rfl⟩

theorem copy_some (x : Addr) (len cap : Nat) (Y : Nat → Nat → Int) (w : World) (hm : len ≤ 32768) (hc : LiesY w (some x) Y len) :
    Calls Trym.prog 15 #[.slice (some x) len cap] w fun e w' => e = .returned (.slice (some ⟨w.heap.size, 0, none⟩) len len) ∧ Below w.heap.size w w' ∧ w'.rowIs w.heap.size 35 (len * 3) (upTo Y len) := by
  have q28 : ∀ (w : World) (a : Option Addr) (n c n' c' : Nat), (binOp .eql 28 (.slice a n c) (.slice none n' c')).run Trym.prog w = .ok (.bool a.isNone) w := fun w a n c n' c' => Lib.run_eql_slice_nil w _ _ a n c n' c' Trym.underlying28
  have hmk := make3 28 35 Trym.underlying28 Trym.info35 len hm
  go_enter Trym.func15, Trym.ntmps15
  go_wp2
  clear q28 hmk
  go_loopw [4] (fun i wr => ∃ k : Nat, k ≤ len ∧ i = .int .i64 k ∧ Below w.heap.size w wr ∧ wr.rowIs w.heap.size 35 (len * 3) (upTo Y k)) (fun i _ => len - (intOf i).toNat)
  case atStart => exact ⟨0, Nat.zero_le _, rfl, (Below.refl _ _).alloc (Nat.le_refl _) _, (made3 w _ (len * 3) 35).congr (fun j _ => by unfold upTo; rw [if_neg (by omega)])⟩
  case round =>
    obtain ⟨k, hk, rfl, hbel, hrow⟩ := hrel
    by_cases hlt : k < len
    · obtain ⟨b, off, hx, s0, s1, s2⟩ := hc.three hlt
      obtain rfl : x = ⟨b, off, none⟩ := by simpa using hx
      clear hx
      have k0 := (hbel.cell (World.block_lt_of_cell? w _ s0)).trans s0
      have k1 := (hbel.cell (World.block_lt_of_cell? w _ s1)).trans s1
      have k2 := (hbel.cell (World.block_lt_of_cell? w _ s2)).trans s2
      have t0 := hrow.cell (i := k * 3) (by omega)
      have t1 := hrow.cell (i := k * 3 + 1) (by omega)
      have t2 := hrow.cell (i := k * 3 + 2) (by omega)
      rw [upTo_at] at t1 t2
      rw [show upTo Y k (k * 3) = .int .i64 0 from upTo_at Y k 0] at t0
      have f0 := hrow.frozen (k * 3)
      have f1 := hrow.frozen (k * 3 + 1)
      have f2 := hrow.frozen (k * 3 + 2)
      have hk' : (k : Int) < (len : Int) := by omega
      clear s0 s1 s2 hc
      go_wp2
      go_roundw
      case rel => exact ⟨k + 1, by omega, by go_num, ((hbel.setCell (Nat.le_refl _) _).setCell (Nat.le_refl _) _).setCell (Nat.le_refl _) _, row3_step hrow⟩
      case measure => simp [intOf]; omega
    · go_wp2
      go_ret
      exact ⟨rfl, hbel, hrow.congr (fun j hj => by rw [show k = len by omega])⟩

theorem norm_any (s e t : Int) (w : World) : Calls Trym.prog 24 #[.agg #[.int .i64 s, .int .i64 e, .int .i64 t]] w fun r w' => r = .returned (.agg #[.int .i64 s, .int .i64 (mx e s), .int .i64 (mx t 1)]) ∧ Below w.heap.size w w' := by
  have two : ∀ o1 o2, Below w.heap.size w ((w.alloc o1).alloc o2) := fun o1 o2 => ((Below.refl _ _).alloc (Nat.le_refl _) _).alloc (by simp) _
  by_cases h1 : e < s
  · by_cases h2 : t < 1
    · rw [mx_lt h1, mx_lt h2]
      go_enter Trym.func24, Trym.ntmps24
      go_wp2
      exact bodyPost_ret (v := .agg #[.int .i64 s, .int .i64 s, .int .i64 1]) (by simp [results, Trym.results24, go_sem]) rfl ⟨rfl, two _ _⟩
    · rw [mx_lt h1, mx_ge h2]
      go_enter Trym.func24, Trym.ntmps24
      go_wp2
      exact bodyPost_ret (v := .agg #[.int .i64 s, .int .i64 s, .int .i64 t]) (by simp [results, Trym.results24, go_sem]) rfl ⟨rfl, two _ _⟩
  · by_cases h2 : t < 1
    · rw [mx_ge h1, mx_lt h2]
      go_enter Trym.func24, Trym.ntmps24
      go_wp2
      exact bodyPost_ret (v := .agg #[.int .i64 s, .int .i64 e, .int .i64 1]) (by simp [results, Trym.results24, go_sem]) rfl ⟨rfl, two _ _⟩
    · rw [mx_ge h1, mx_ge h2]
      go_enter Trym.func24, Trym.ntmps24
      go_wp2
      exact bodyPost_ret (v := .agg #[.int .i64 s, .int .i64 e, .int .i64 t]) (by simp [results, Trym.results24, go_sem]) rfl ⟨rfl, two _ _⟩

theorem Hid.mk {p : Prop} (h : p) : Hid p := h
def three (x y z : Value) : Nat → Value | 0 => x | 1 => y | _ => z
theorem alloc_three (w : World) (x y z : Value) (t : TypeId) : (w.alloc (.cells #[x, y, z] t)).rowIs w.heap.size t 3 (three x y z) :=
  World.rowIs_alloc w #[x, y, z] t (three x y z) (fun i hi => by
    match i, hi with
    | 0, _ => rfl
    | 1, _ => rfl
    | 2, _ => rfl)
theorem row_later {w w1 : World} {b : Nat} {t : TypeId} {n : Nat} {f : Nat → Value} (h : w.rowIs b t n f) (hb : Below w.heap.size w w1) : w1.rowIs b t n f := h.of_block (hb.block _ h.lt)
theorem after_norm {w wr w1 : World} {x y z : Value} (hbel : Below w.heap.size w wr) (hb1 : Below (wr.alloc (.cells #[x, y, z] 53)).heap.size (wr.alloc (.cells #[x, y, z] 53)) w1) :
    Below w.heap.size w w1 ∧ w1.rowIs wr.heap.size 53 3 (three x y z) ∧ w.heap.size ≤ wr.heap.size :=
  ⟨(hbel.alloc hbel.size _).trans (hb1.mono (by have := hbel.size; simp; omega)), row_later (alloc_three wr x y z 53) hb1, hbel.size⟩

theorem next_nil (cb : Nat) (y : Int) (w : World) (hc : w.cell? ⟨cb, 7, none⟩ = some (.slice none 0 0)) :
    Calls Trym.prog 23 #[.pointer (some ⟨cb, 0, none⟩), .int .i64 y] w fun r w' => r = .returned (.tuple #[.int .i64 y, .bool true]) ∧ w = w' := by
  have q45 : ∀ (w : World) (a : Option Addr) (n c n' c' : Nat), (binOp .eql 45 (.slice a n c) (.slice none n' c')).run Trym.prog w = .ok (.bool a.isNone) w := fun w a n c n' c' => Lib.run_eql_slice_nil w _ _ a n c n' c' Trym.underlying45
  go_enter Trym.func23, Trym.ntmps23
  go_wp2
  go_ret2
  exact ⟨rfl, rfl⟩

theorem next_some (cb : Nat) (x : Addr) (len cap : Nat) (Y : Nat → Nat → Int) (y : Int) (w : World) (hm : len ≤ 32768) (hy : In y) (hY : ∀ i, i < len → ∀ j, j < 3 → In (Y i j)) (hc : w.cell? ⟨cb, 7, none⟩ = some (.slice (some x) len cap)) (hL : LiesY w (some x) Y len) :
    Calls Trym.prog 23 #[.pointer (some ⟨cb, 0, none⟩), .int .i64 y] w fun r w' => r = .returned (.tuple #[.int .i64 (nx Y y len).1, .bool (nx Y y len).2]) ∧ Below w.heap.size w w' := by
  have q45 : ∀ (w : World) (a : Option Addr) (n c n' c' : Nat), (binOp .eql 45 (.slice a n c) (.slice none n' c')).run Trym.prog w = .ok (.bool a.isNone) w := fun w a n c n' c' => Lib.run_eql_slice_nil w _ _ a n c n' c' Trym.underlying45
  have HX : Hid (∀ b f, nx Y y len = (b, f) → Ending.returned (.tuple #[.int .i64 b, .bool f]) = Ending.returned (.tuple #[.int .i64 (nx Y y len).1, .bool (nx Y y len).2])) := fun b f h => by rw [h]
  generalize Ending.returned (.tuple #[.int .i64 (nx Y y len).1, .bool (nx Y y len).2]) = R at HX ⊢
  go_enter Trym.func23, Trym.ntmps23
  go_wp2
  clear q45
  go_loopw [6, 7, 22] (fun p q i wr => ∃ (k : Nat) (b : Int) (f : Bool), k ≤ len ∧ p = .int .i64 b ∧ q = .bool f ∧ i = .int .i64 k ∧ Hid (nx Y y k = (b, f)) ∧ Below w.heap.size w wr) (fun _ _ i _ => len - (intOf i).toNat)
  case atStart => exact ⟨0, 0, false, Nat.zero_le _, rfl, rfl, rfl, rfl, Below.refl _ _⟩
  case round =>
    obtain ⟨k, b, f, hk, rfl, rfl, rfl, HN, hbel⟩ := hrel
    by_cases hlt : k < len
    · obtain ⟨bb, off, hx, s0, s1, s2⟩ := hL.three hlt
      obtain rfl : x = ⟨bb, off, none⟩ := by simpa using hx
      clear hx
      have k0 := (hbel.cell (World.block_lt_of_cell? w _ s0)).trans s0
      have k1 := (hbel.cell (World.block_lt_of_cell? w _ s1)).trans s1
      have k2 := (hbel.cell (World.block_lt_of_cell? w _ s2)).trans s2
      have hk' : (k : Int) < (len : Int) := by omega
      clear s0 s1 s2 hc
      have HCS := Hid.mk (nx_cases HN.out)
      have hT1 := mx_one (Y k 2)
      have HTi := Hid.mk (mx_in (hY k hlt 2 (by decide)) in_one)
      have HSi := Hid.mk (hY k hlt 0 (by decide))
      have HVl := Hid.mk (fun h => yv_lt (y := y) (s := Y k 0) (t := mx (Y k 2) 1) h)
      have HVg := Hid.mk (fun h => yv_ge (y := y) (s := Y k 0) (t := mx (Y k 2) 1) h)
      go_wp2_with fail
      refine (norm_any _ _ _ _).mono ?_
      rintro r w1 ⟨rfl, hb1⟩
      obtain ⟨hbel1, hrow1, hsz⟩ := after_norm hbel hb1
      clear hb1 k0 k1 k2 hL hY
      generalize yv y (Y k 0) (mx (Y k 2) 1) = V at HCS HVl HVg
      generalize mx (Y k 2) 1 = T at hT1 HTi HVl HVg ⊢
      generalize mx (Y k 1) (Y k 0) = E at HCS ⊢
      have d0 := hrow1.cell (i := 0) (by decide)
      have d1 := hrow1.cell (i := 1) (by decide)
      have d2 := hrow1.cell (i := 2) (by decide)
      have g0 := hrow1.frozen 0
      have g1 := hrow1.frozen 1
      have g2 := hrow1.frozen 2
      simp only [three] at d0 d1 d2
      generalize Y k 0 = S at HSi HVl HVg d0 hrow1 ⊢
      have hW : Below w.heap.size w (((w1.setCell { block := wr.heap.size, off := 0 } (Value.int IntKind.i64 S)).setCell { block := wr.heap.size, off := 1 } (Value.int IntKind.i64 E)).setCell { block := wr.heap.size, off := 2 } (Value.int IntKind.i64 T)) :=
        ((hbel1.setCell hsz _).setCell hsz _).setCell hsz _
      by_cases hsy : S < y
      · have hV := (HVl.out hsy).symm
        obtain ⟨q0, q1, q2, q3⟩ := up_bounds y S T hy HSi.out HTi.out hT1 hsy
        have i1 := hy
        have i2 := HSi.out
        have i3 := HTi.out
        unfold In at i1 i2 i3
        go_wp2
        go_quiet (fail)
        clear hV
        rcases HCS.out with ⟨h, hn⟩ | ⟨h, rfl, hn⟩ | ⟨h, rfl, h', hn⟩ | ⟨h, rfl, h', hn⟩
        all_goals
          have HNn := Hid.mk hn
          clear hn HCS
          go_wp2
          go_roundw
          case rel => exact ⟨k + 1, _, _, by omega, rfl, rfl, by go_num, HNn, below_drewN hW _⟩
          case measure => simp [intOf]; omega
      · have hV : V = S := HVg.out (by omega)
        subst hV
        rcases HCS.out with ⟨h, hn⟩ | ⟨h, rfl, hn⟩ | ⟨h, rfl, h', hn⟩ | ⟨h, rfl, h', hn⟩
        all_goals
          have HNn := Hid.mk hn
          clear hn HCS
          go_wp2
          go_roundw
          case rel => exact ⟨k + 1, _, _, by omega, rfl, rfl, by go_num, HNn, hW⟩
          case measure => simp [intOf]; omega
    · go_wp2
      go_ret2
      exact ⟨HX.out b f (by rw [← HN.out, show k = len by omega]), hbel⟩
end Go.Proofs.Qxb6600419aMods.Years
