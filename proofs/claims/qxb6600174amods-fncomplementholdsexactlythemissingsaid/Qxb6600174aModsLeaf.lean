import Derived.Test.Qxb6600174aModsRows
import Derived.Test.Qxb6600174aModsPlain
import Derived.WalkKit
import Derived.WalkSpells
import Derived.WalkLawsBesides
import Derived.Below
import Derived.Deep.OwnRows
import Derived.Deep.QuietTactic
import Derived.BigQuiet
import Derived.Deep.RegionHeld3
namespace Go.Proofs.Qxb6600174aMods
open Go.RowKit Go.Deep

theorem ret_int {k : IntKind} {a b : Int} (h : a = b) : Ending.returned (.int k a) = .returned (.int k b) := by rw [h]

theorem elems_any (m : Int) (w : World) (h0 : 0 ≤ m) (h1 : m ≤ 65536) :
    Calls Trym.prog 15 #[.int .i64 m] w fun e w' => e = .returned (.int .i64 ((m + 63) / 64)) ∧ w' = w := by
  go_enter Trym.func15, Trym.ntmps15
  go_wp2
  go_ret
  exact ⟨rfl, rfl⟩

theorem low_eq (n : Int) : IntKind.u64.wrap (IntKind.u64.wrap (2 ^ min n.toNat 64) - 1) = ((lowN n : Nat) : Int) := by
  rw [IntKind.wrap_u64, IntKind.wrap_u64]
  unfold lowN
  have e : ((2 : Int) ^ min n.toNat 64) = ((2 ^ min n.toNat 64 : Nat) : Int) := by simp
  rw [e]
  have h1 : 0 < 2 ^ (min n.toNat 64) := Nat.two_pow_pos _
  have h2 : 2 ^ (min n.toNat 64) ≤ 2 ^ 64 := Nat.pow_le_pow_right (by decide) (by omega)
  have e64 : (2 : Nat) ^ 64 = 18446744073709551616 := by decide
  omega
theorem low_neg (n : Int) (h : n < 0) : lowN n = 0 := by
  unfold lowN
  have : n.toNat = 0 := by omega
  simp [this]

theorem low_any (n : Int) (w : World) :
    Calls Trym.prog 14 #[.int .i64 n] w fun e w' => e = .returned (.int .u64 (lowN n : Nat)) ∧ w' = w := by
  go_enter Trym.func14, Trym.ntmps14
  go_wp2
  · go_ret
    exact ⟨ret_int (by rw [low_neg n (by assumption)]; rfl), rfl⟩
  · go_ret
    exact ⟨ret_int (low_eq n), rfl⟩

/-- Word k, as the cells hold it. -/
def wd (ns : List Nat) (k : Nat) : Int := ((ns.getD k 0 : Nat) : Int)

theorem elem_past (B : Int) (a : Option Addr) (len cap k : Nat) (w : World) (hk : len ≤ k) :
    Calls Trym.prog 13 #[.agg #[.int .i64 B, .slice a len cap], .int .i64 k] w fun e w' => e = .returned (.int .u64 0) ∧ Below w.heap.size w w' := by
  go_enter Trym.func13, Trym.ntmps13
  go_wp2
  go_ret
  exact ⟨rfl, (Below.refl _ _).alloc (Nat.le_refl _) _⟩

theorem and_eq (B : Int) (ns : List Nat) (k : Nat) (hz : ns.getD k 0 < 18446744073709551616) : bits BinOp.and IntKind.u64 (wd ns k) ((lowN (B - 64 * (k : Int)) : Nat) : Int) = ((elemN B ns k : Nat) : Int) := by
  unfold wd elemN
  exact u64_and_nat _ _ hz (lowN_lt _)

theorem elem_in (B : Int) (ns : List Nat) (b off len cap k : Nat) (w : World) (hm : len ≤ 131072) (hk : k < len) (hB : -9223372036000000000 ≤ B) (hB' : B ≤ 9223372036854775807) (hz : ∀ k, ns.getD k 0 < 18446744073709551616)
    (hc : w.cell? ⟨b, off + k, none⟩ = some (.int .u64 (wd ns k))) :
    Calls Trym.prog 13 #[.agg #[.int .i64 B, .slice (some ⟨b, off, none⟩) len cap], .int .i64 k] w fun e w' => e = .returned (.int .u64 (elemN B ns k : Nat)) ∧ Below w.heap.size w w' := by
  have hb : b < w.heap.size := World.block_lt_of_cell? w _ hc
  have hc' : ∀ o, (w.alloc o).cell? ⟨b, off + k, none⟩ = some (.int .u64 (wd ns k)) := fun o => (World.cell?_alloc_lt _ _ _ hb).trans hc
  have hk' : (k : Int) < (len : Int) := by omega
  go_enter Trym.func13, Trym.ntmps13
  go_wp2
  go_quiet ((go_at_call 14; exact Calls.quiet_of_same (low_any _ _)))
  go_wp2
  go_ret
  exact ⟨ret_int (and_eq B ns k (hz k)), below_drewN ((Below.refl _ _).alloc (Nat.le_refl _) _) _⟩

theorem Trym.info29 : (Trym.prog.info? 29).map (fun i => (i.zero, i.size, i.bytes)) = some (some (.int .u64 0), 1, 8) := by kernel_rfl

theorem clone_nil (w : World) : Calls Trym.prog 7 #[.slice none 0 0] w fun e w' => e = .returned (.slice none 0 0) ∧ w' = w := by
  have q22 : ∀ (w : World) (a : Option Addr) (n c n' c' : Nat), (binOp .eql 22 (.slice a n c) (.slice none n' c')).run Trym.prog w = .ok (.bool a.isNone) w := fun w a n c n' c' => Lib.run_eql_slice_nil w _ _ a n c n' c' Trym.underlying22
  go_enter Trym.func7, Trym.ntmps7
  go_wp2
  go_ret
  exact ⟨rfl, rfl⟩

theorem row_step (ns : List Nat) (k j : Nat) : (if j = k then Value.int .u64 (wd ns k) else .int .u64 (if j < k then wd ns j else 0)) = .int .u64 (if j < k + 1 then wd ns j else 0) := by
  by_cases h : j = k
  · subst h; rw [if_pos rfl, if_pos (by omega)]
  · rw [if_neg h]
    by_cases h2 : j < k
    · rw [if_pos h2, if_pos (by omega)]
    · rw [if_neg h2, if_neg (by omega)]

theorem clone_some (x : Addr) (len cap : Nat) (ns : List Nat) (w : World) (hm : len ≤ 131072)
    (hc : ∀ i, i < len → ∃ b off, x = ⟨b, off, none⟩ ∧ w.cell? ⟨b, off + i, none⟩ = some (.int .u64 (wd ns i))) :
    Calls Trym.prog 7 #[.slice (some x) len cap] w fun e w' => e = .returned (.slice (some ⟨w.heap.size, 0, none⟩) len len) ∧ Below w.heap.size w w' ∧ w'.heap.size = w.heap.size + 1 ∧
      w'.rowIs w.heap.size 29 len (fun i => .int .u64 (wd ns i)) := by
  have q22 : ∀ (w : World) (a : Option Addr) (n c n' c' : Nat), (binOp .eql 22 (.slice a n c) (.slice none n' c')).run Trym.prog w = .ok (.bool a.isNone) w := fun w a n c n' c' => Lib.run_eql_slice_nil w _ _ a n c n' c' Trym.underlying22
  have hmk := run_make_row' (P := Trym.prog) 22 29 (.int .u64 0) 8 Trym.underlying22 Trym.info29 rfl .i64 .i64 len (by omega) (by omega)
  go_enter Trym.func7, Trym.ntmps7
  go_wp2
  clear q22 hmk
  go_loopw [4] (fun i wr => ∃ k : Nat, k ≤ len ∧ i = .int .i64 k ∧ Below w.heap.size w wr ∧ wr.heap.size = w.heap.size + 1 ∧ wr.rowIs w.heap.size 29 len (fun i => .int .u64 (if i < k then wd ns i else 0))) (fun i _ => len - (intOf i).toNat)
  case atStart => exact ⟨0, Nat.zero_le _, rfl, (Below.refl _ _).alloc (Nat.le_refl _) _, by simp, (World.rowIs_made w _ len 29).congr (fun j _ => by simp)⟩
  case round =>
    obtain ⟨k, hk, rfl, hbel, hsz, hrow⟩ := hrel
    by_cases hlt : k < len
    · obtain ⟨b, off, rfl, hcell⟩ := hc k hlt
      have hcr : wr.cell? ⟨b, off + k, none⟩ = some (.int .u64 (wd ns k)) := (hbel.cell (World.block_lt_of_cell? w _ hcell)).trans hcell
      have hfr : wr.frozen? ⟨w.heap.size, k, none⟩ = false := hrow.frozen k
      have hce := hrow.cell hlt
      simp only [Nat.lt_irrefl, if_false] at hce
      have hk' : (k : Int) < (len : Int) := by omega
      go_wp2
      go_roundw
      case rel => exact ⟨k + 1, by omega, by go_num, hbel.setCell (Nat.le_refl _) _, by simpa using hsz, (hrow.set k _).congr (fun j hj => row_step ns k j)⟩
      case measure => simp [intOf]; omega
    · go_wp2
      go_ret
      exact ⟨rfl, hbel, hsz, hrow.congr (fun j hj => by rw [if_pos (by omega)])⟩
end Go.Proofs.Qxb6600174aMods
