import Derived.Test.Qxb6600571aModsRows
import Derived.Test.Qxb6600571aModsPos
import Derived.WalkKit
import Derived.WalkSpells
import Derived.WalkLawsBesides
import Derived.Below
import Derived.Deep.OwnRows
import Derived.Laws.RangeAny
import Derived.Laws.IdiomCopy
namespace Go.Proofs.Qxb6600571aMods
open Go.RowKit Go.Deep

theorem hide {p : Prop} (h : p) : Hid p := h
theorem retInt {k : IntKind} {a b : Int} (h : a = b) : Ending.returned (.int k a) = .returned (.int k b) := by rw [h]
theorem retBool {a b : Bool} (h : a = b) : Ending.returned (.bool a) = .returned (.bool b) := by rw [h]
theorem valInt {k : IntKind} {a b : Int} (h : a = b) : Value.int k a = .int k b := by rw [h]

/-- yamlOffset, what its conversion gives taken as known. -/
theorem off_any (a : Option Addr) (len cap : Nat) (s : ByteArray) (c : Int) (w : World) (hs : s.size = len) (hc0 : -9223372036854775808 ≤ c) (hc1 : c ≤ 9223372036854775807)
    (hcv : (convert 27 9 (.slice a len cap)).run Trym.prog w = .ok (.string s) w) :
    Calls Trym.prog 17 #[.slice a len cap, .int .i64 c] w fun e w' => e = .returned (.int .i64 (posT s c.toNat : Nat)) ∧ Below w.heap.size w w' := by
  have HS := hide hs
  clear hs
  go_enter Trym.func17, Trym.ntmps17
  go_wp2
  clear hcv
  have hbi : ∀ p, Below w.heap.size w (w.iter s p) := fun p => (Below.refl _ w).alloc (Nat.le_refl _) (.stringIter s p)
  have HBI := hide hbi
  clear hbi
  go_loopw [1, 5] (fun p _ wr => ∃ t : Nat, p = .int .i64 (c - t) ∧ t ≤ c.toNat ∧ wr = w.iter s (posT s t)) (fun _ _ wr => s.size - wr.iterPos w.heap.size)
  case atStart => exact ⟨0, by simp, Nat.zero_le _, rfl⟩
  case round =>
    obtain ⟨t, rfl, ht, rfl⟩ := hrel
    by_cases hp : posT s t < s.size
    · have hnx := fun ty => run_next_any (P := Trym.prog) w s (posT s t) ty hp
      by_cases hct : c - (t : Int) ≤ 0
      · go_wp2
        go_ret
        exact ⟨retInt (by rw [show c.toNat = t by omega]), HBI.out _⟩
      · go_wp2
        have hst := posT_step s t hp
        have hwd := wd_bounds s _ hp
        unfold wd at hst hwd
        go_roundw
        case rel => exact ⟨t + 1, valInt (by omega), by omega, by rw [hst]⟩
        case measure => simp; omega
    · have hnx := fun ty => run_next_end (P := Trym.prog) w s (posT s t) ty hp
      go_wp2
      go_ret
      exact ⟨retInt (by rw [posT_end s t c.toNat ht hp, HS.out]), HBI.out _⟩

theorem zzoff_any (a : Option Addr) (len cap : Nat) (s : ByteArray) (c : Int) (w : World) (hs : s.size = len) (hc0 : -9223372036854775808 ≤ c) (hc1 : c ≤ 9223372036854775807)
    (hcv : (convert 27 9 (.slice a len cap)).run Trym.prog w = .ok (.string s) w) :
    Calls Trym.prog 13 #[.slice a len cap, .int .i64 c] w fun e w' => e = .returned (.int .i64 (posT s c.toNat : Nat)) ∧ Below w.heap.size w w' := by
  have H := off_any a len cap s c w hs hc0 hc1 hcv
  clear hcv hs
  go_enter Trym.func13, Trym.ntmps13
  go_wp2_with (go_at_call 17; refine H.mono ?_; rintro e w' ⟨rfl, hb⟩)
  go_ret
  exact ⟨rfl, hb⟩

/-- The bytes xs lie at a. -/
def LiesB (w : World) (a : Option Addr) (xs : List Int) : Prop := ∀ i, i < xs.length → ∃ b off, a = some ⟨b, off, none⟩ ∧ w.cell? ⟨b, off + i, none⟩ = some (.int .u8 (xs.getD i 0))
theorem LiesB.later {w w1 : World} {a : Option Addr} {xs : List Int} (h : LiesB w a xs) (hb : Below w.heap.size w w1) : LiesB w1 a xs := fun i hi => by
  obtain ⟨b, off, ha, hc⟩ := h i hi
  exact ⟨b, off, ha, cell_later hb hc⟩
/-- What the conversion gives. -/
theorem conv_some {w : World} {b off len cap : Nat} {xs : List Int} (hl : xs.length = len) (h : LiesB w (some ⟨b, off, none⟩) xs) : (convert 27 9 (.slice (some ⟨b, off, none⟩) len cap)).run Trym.prog w = .ok (.string (strOfNums xs)) w :=
  run_convert_bytes_arg (P := Trym.prog) w 27 5 Trym.underlying27 Trym.underlying5 b off len cap xs hl (fun i hi => by
    obtain ⟨b', off', ha, hc⟩ := h i (by omega)
    obtain ⟨rfl, rfl⟩ : b = b' ∧ off = off' := by simpa using ha
    exact hc) 9 Trym.underlying9
theorem conv_nil (w : World) : (convert 27 9 (.slice none 0 0)).run Trym.prog w = .ok (.string (strOfNums [])) w :=
  run_convert_bytes_nil (P := Trym.prog) w 27 5 Trym.underlying27 Trym.underlying5 0 0 9 Trym.underlying9

theorem Trym.info5 : (Trym.prog.info? 5).map (fun i => (i.zero, i.size, i.bytes)) = some (some (.int .u8 0), 1, 1) := by kernel_rfl
theorem Trym.size5 : (Trym.prog.info? 5).map (·.size) = some 1 := by kernel_rfl

theorem zz14_yes (a : Option Addr) (len cap : Nat) (v v' : Value) (w : World) (h : len ≤ 1048576) : Calls Trym.prog 14 #[.slice a len cap, v, v'] w fun e w' => e = .returned (.bool true) ∧ w = w' := by
  go_enter Trym.func14, Trym.ntmps14
  go_wp2
  go_ret
  exact ⟨rfl, rfl⟩
theorem zz14_no (a : Option Addr) (len cap : Nat) (v v' : Value) (w : World) (h : 1048576 < len) : Calls Trym.prog 14 #[.slice a len cap, v, v'] w fun e w' => e = .returned (.bool false) ∧ w = w' := by
  go_enter Trym.func14, Trym.ntmps14
  go_wp2
  go_ret
  exact ⟨rfl, rfl⟩

theorem addP (b off j : Nat) : (⟨b, off, none⟩ : Addr).add j = ⟨b, off + j, none⟩ := by unfold Addr.add; split <;> simp_all

theorem below_setCells {B b : Nat} {w0 : World} (hB : B ≤ b) : ∀ (vs : List Value) (o : Nat) (w : World), Below B w0 w → Below B w0 (w.setCells b o vs)
  | [], _, _, h => h
  | v :: vs, o, w, h => below_setCells hB vs (o + 1) (w.setCell ⟨b, o, none⟩ v) (h.setCell hB v)

/-- 'c := make([]byte, len(src)); copy(c, src)'. -/
theorem copy_fact (x : Addr) (len cap : Nat) (xs : List Int) (w : World) (hl : xs.length = len) (hL : LiesB w (some x) xs) :
    ∃ w2, (Builtin.copy_ #[27, 27] 3 #[.slice (some ⟨w.heap.size, 0, none⟩) len len, .slice (some x) len cap]).run Trym.prog (w.alloc (.cells (madeCells #[.int .u8 0] len) 5)) = .ok (.int .i64 len) w2 ∧
      Below w.heap.size w w2 ∧ LiesB w2 (some ⟨w.heap.size, 0, none⟩) xs := by
  have hb0 : Below w.heap.size w (w.alloc (.cells (madeCells #[.int .u8 0] len) 5)) := (Below.refl _ _).alloc (Nat.le_refl _) _
  by_cases h0 : len = 0
  · subst h0
    refine ⟨_, run_copy_none _ 27 27 3 5 _ _ 0 0 0 cap Trym.underlying27 Trym.size5 rfl, hb0, fun i hi => by omega⟩
  · obtain ⟨b, off, hx, _⟩ := hL 0 (by omega)
    obtain rfl : x = ⟨b, off, none⟩ := by simpa using hx
    have hrow := World.rowIs_made w (.int .u8 0) len 5
    have hcs : (xs.map (Value.int .u8)).length = len := by simpa using hl
    have hsome : ∀ j, j < (xs.map (Value.int .u8)).length → ((w.alloc (.cells (madeCells #[.int .u8 0] len) 5)).cell? ⟨w.heap.size, 0 + j, none⟩).isSome = true := fun j hj => by
      rw [Nat.zero_add, hrow.cell (by omega)]; rfl
    have hrun := run_copy_cells (P := Trym.prog) (w.alloc (.cells (madeCells #[.int .u8 0] len) 5)) 27 27 3 5 w.heap.size 0 len len ⟨b, off, none⟩ len cap (xs.map (Value.int .u8)) Trym.underlying27 Trym.size5 (by rw [hcs]; exact (Nat.min_self len).symm)
      (fun j v hj => by
        have hjl : j < xs.length := by
          rcases Nat.lt_or_ge j xs.length with h | h
          · exact h
          · rw [List.getElem?_eq_none (by simpa using h)] at hj; cases hj
        obtain ⟨b', off', ha, hc⟩ := hL j hjl
        obtain ⟨rfl, rfl⟩ : b = b' ∧ off = off' := by simpa using ha
        rw [addP, hb0.cell (World.block_lt_of_cell? w _ hc), hc, ← hj]
        simp [List.getD, hjl])
      hsome (fun j _ => by rw [Nat.zero_add]; exact hrow.frozen j) (fun v hv => by
        obtain ⟨n, _, rfl⟩ := List.mem_map.1 hv
        rfl)
    rw [hcs] at hrun
    refine ⟨_, hrun, below_setCells (Nat.le_refl _) _ _ _ hb0, fun i hi => ⟨w.heap.size, 0, rfl, ?_⟩⟩
    rw [World.cell?_setCells_in w.heap.size (xs.map (Value.int .u8)) 0 _ hsome i (by simpa using hi)]
    simp [List.getD, hi]

/-- The law's tail. -/
theorem mono_tail (s : ByteArray) (a b : Int) (hab : a ≤ b) : ∃ ra rb : Nat, posT s a.toNat = ra ∧ posT s b.toNat = rb ∧ ra ≤ rb ∧ rb ≤ s.size ∧ ¬ (0 < b ∧ a < b ∧ ra < s.size ∧ ra = rb) := by
  refine ⟨_, _, rfl, rfl, posT_mono s _ _ (by omega), posT_le s _, ?_⟩
  rintro ⟨h1, h2, h3, h4⟩
  have := posT_strict s a.toNat b.toNat (by omega) h3
  omega

theorem mono_some (x : Addr) (len cap : Nat) (xs : List Int) (a b : Int) (w : World) (hl : xs.length = len) (hm : len ≤ 1048576) (ha0 : -9223372036854775808 ≤ a) (hab : a ≤ b) (hb1 : b ≤ 9223372036854775807) (hL : LiesB w (some x) xs) :
    Calls Trym.prog 6 #[.slice (some x) len cap, .int .i64 a, .int .i64 b] w fun e w' => e = .returned (.bool true) ∧ Below w.heap.size w w' := by
  have q27 : ∀ (w : World) (a : Option Addr) (n c n' c' : Nat), (binOp .neq 27 (.slice a n c) (.slice none n' c')).run Trym.prog w = .ok (.bool (!a.isNone)) w := fun w a n c n' c' => run_neq_slice_nil_any w _ _ a n c n' c' Trym.underlying27
  have hmk := run_make_row' (P := Trym.prog) 27 5 (.int .u8 0) 1 Trym.underlying27 Trym.info5 rfl .i64 .i64 len (by omega) (by omega)
  obtain ⟨w2, hcp, hb2, hL2⟩ := copy_fact x len cap xs w hl hL
  have hsz : (strOfNums xs).size = len := by rw [strOfNums_size]; exact hl
  have C1 := zzoff_any (some ⟨w.heap.size, 0, none⟩) len len (strOfNums xs) a w2 hsz (by omega) (by omega) (conv_some hl hL2)
  have HC2 := hide (fun w3 (hb : Below w2.heap.size w2 w3) => zzoff_any (some ⟨w.heap.size, 0, none⟩) len len (strOfNums xs) b w3 hsz (by omega) (by omega) (conv_some hl (hL2.later hb)))
  obtain ⟨ra, rb, ea, eb, h1, h2, h3⟩ := mono_tail (strOfNums xs) a b hab
  rw [ea] at C1
  rw [eb] at HC2
  rw [hsz] at h2 h3
  clear ea eb hl hL hL2 hsz
  go_enter Trym.func6, Trym.ntmps6
  go_wp2_with (go_at_call 14; refine (zz14_yes _ _ _ _ _ _ hm).mono ?_; rintro e w' ⟨rfl, rfl⟩)
  clear q27 hmk hcp
  refine C1.mono ?_
  rintro e w3 ⟨rfl, hb3⟩
  go_wp2_with fail
  refine (HC2.out _ hb3).mono ?_
  rintro e w4 ⟨rfl, hb4⟩
  clear C1 HC2
  have hb5 := (hb2.trans (hb3.mono hb2.size)).trans (hb4.mono (Nat.le_trans hb2.size hb3.size))
  clear hb2 hb3 hb4
  go_wp2
  all_goals
    go_ret
    exact ⟨rfl, hb5⟩

theorem mono_nil (a b : Int) (w : World) (ha0 : -9223372036854775808 ≤ a) (hab : a ≤ b) (hb1 : b ≤ 9223372036854775807) :
    Calls Trym.prog 6 #[.slice none 0 0, .int .i64 a, .int .i64 b] w fun e w' => e = .returned (.bool true) ∧ Below w.heap.size w w' := by
  have q27 : ∀ (w : World) (a : Option Addr) (n c n' c' : Nat), (binOp .neq 27 (.slice a n c) (.slice none n' c')).run Trym.prog w = .ok (.bool (!a.isNone)) w := fun w a n c n' c' => run_neq_slice_nil_any w _ _ a n c n' c' Trym.underlying27
  have C1 := hide (fun w => zzoff_any none 0 0 (strOfNums []) a w rfl (by omega) (by omega) (conv_nil w))
  have C2 := hide (fun w => zzoff_any none 0 0 (strOfNums []) b w rfl (by omega) (by omega) (conv_nil w))
  have e0 : ∀ t, posT (strOfNums []) t = 0 := fun t => by have := posT_le (strOfNums []) t; rw [strOfNums_size] at this; simpa using this
  rw [e0] at C1 C2
  clear e0
  go_enter Trym.func6, Trym.ntmps6
  go_wp2_with (go_at_call 14; refine (zz14_yes _ _ _ _ _ _ (by omega)).mono ?_; rintro e w' ⟨rfl, rfl⟩)
  clear q27
  refine (C1.out _).mono ?_
  rintro e w3 ⟨rfl, hb3⟩
  go_wp2_with fail
  refine (C2.out _).mono ?_
  rintro e w4 ⟨rfl, hb4⟩
  clear C1 C2
  have hb5 := hb3.trans (hb4.mono hb3.size)
  clear hb3 hb4
  go_wp2
  all_goals
    go_ret
    exact ⟨rfl, hb5⟩
end Go.Proofs.Qxb6600571aMods
