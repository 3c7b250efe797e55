/-
  THE WALK over zzWidth, a theorem for each class of the first byte. (Laid out by a script of the prover's own.)
-/
import Derived.Test.Qxb6600571aModsOff
import Derived.Test.Qxb6600571aModsWid
namespace Go.Proofs.Qxb6600571aMods
open Go.RowKit Go.Deep

/-- The bytes as the walk reads them. -/
structure Four (w : World) (g len i : Nat) (b0 b1 b2 b3 : Nat) : Prop where
  lt : i < len
  m : len ≤ 1048576
  c0 : w.cell? ⟨g, i, none⟩ = some (.int .u8 b0)
  c1 : i + 1 < len → w.cell? ⟨g, i + 1, none⟩ = some (.int .u8 b1)
  c2 : i + 2 < len → w.cell? ⟨g, i + 2, none⟩ = some (.int .u8 b2)
  c3 : i + 3 < len → w.cell? ⟨g, i + 3, none⟩ = some (.int .u8 b3)

set_option maxHeartbeats 1600000 in
set_option maxRecDepth 100000 in
theorem zw_plain (w : World) (g len i b0 b1 b2 b3 : Nat) (h : Four w g len i b0 b1 b2 b3) (hb : b0 < 128) :
    Calls Trym.prog 12 #[.slice (some ⟨g, 0, none⟩) len len, .int .i64 i] w fun e w' => e = .returned (.int .i64 (zzW (len - i) b0 b1 b2 b3 : Nat)) ∧ w = w' := by
  obtain ⟨hlt, hm, c0, _, _, _⟩ := h
  have hi : (i : Int) < (len : Int) := by omega
  have HZ : zzW (len - i) b0 b1 b2 b3 = 1 := by unfold zzW; rw [if_pos hb]
  rw [HZ]
  go_enter Trym.func12, Trym.ntmps12
  go_wp2
  go_ret
  exact ⟨rfl, rfl⟩

set_option maxHeartbeats 1600000 in
set_option maxRecDepth 100000 in
theorem zw_other (w : World) (g len i b0 b1 b2 b3 : Nat) (h : Four w g len i b0 b1 b2 b3) (hb : 128 ≤ b0) (hb2 : b0 < 194 ∨ 244 < b0) :
    Calls Trym.prog 12 #[.slice (some ⟨g, 0, none⟩) len len, .int .i64 i] w fun e w' => e = .returned (.int .i64 (zzW (len - i) b0 b1 b2 b3 : Nat)) ∧ w = w' := by
  obtain ⟨hlt, hm, c0, _, _, _⟩ := h
  have hi : (i : Int) < (len : Int) := by omega
  have HZ : zzW (len - i) b0 b1 b2 b3 = 1 := by
    unfold zzW
    rw [if_neg (by omega), if_neg (by omega), if_neg (by omega), if_neg (by omega), if_neg (by omega), if_neg (by omega), if_neg (by omega), if_neg (by omega), if_neg (by omega)]
  rw [HZ]
  rcases hb2 with hb2 | hb2
  · go_enter Trym.func12, Trym.ntmps12
    go_wp2
    go_ret
    exact ⟨rfl, rfl⟩
  · go_enter Trym.func12, Trym.ntmps12
    go_wp2
    go_ret
    exact ⟨rfl, rfl⟩

set_option maxHeartbeats 1600000 in
set_option maxRecDepth 100000 in
theorem zw_c2 (w : World) (g len i b0 b1 b2 b3 : Nat) (h : Four w g len i b0 b1 b2 b3) (hb : 194 ≤ b0) (hb' : b0 ≤ 223) :
    Calls Trym.prog 12 #[.slice (some ⟨g, 0, none⟩) len len, .int .i64 i] w fun e w' => e = .returned (.int .i64 (zzW (len - i) b0 b1 b2 b3 : Nat)) ∧ w = w' := by
  obtain ⟨hlt, hm, c0, c1, c2, c3⟩ := h
  have hi : (i : Int) < (len : Int) := by omega
  have HZ : zzW (len - i) b0 b1 b2 b3 = (if len - i < 2 then 1 else if b1 < 128 ∨ 191 < b1 then 1 else 2) := by
    unfold zzW
    rw [if_neg (by omega), if_pos (by omega)]
  rw [HZ]
  clear HZ
  by_cases d1 : len - i < 2
  · rw [if_pos d1]
    clear c1 c2 c3
    have d1' : (len : Int) - (i : Int) < 2 := by omega
    go_enter Trym.func12, Trym.ntmps12
    go_wp2
    go_ret
    exact ⟨rfl, rfl⟩
  rw [if_neg d1]
  have d1' : ¬ ((len : Int) - (i : Int) < 2) := by omega
  have k1 := c1 (by omega)
  have j1 : (i : Int) + 1 < (len : Int) := by omega
  clear c1 c2 c3
  by_cases pb1 : b1 < 128
  · rw [if_pos (.inl pb1)]
    have pb1' : (b1 : Int) < 128 := by omega
    go_enter Trym.func12, Trym.ntmps12
    go_wp2
    go_ret
    exact ⟨rfl, rfl⟩
  by_cases qb1 : 191 < b1
  · rw [if_pos (.inr qb1)]
    have qb1' : 191 < (b1 : Int) := by omega
    go_enter Trym.func12, Trym.ntmps12
    go_wp2
    go_ret
    exact ⟨rfl, rfl⟩
  rw [if_neg (by omega)]
  have rb1 : (128 : Int) ≤ (b1 : Int) := by omega
  have tb1 : (b1 : Int) ≤ 191 := by omega
  go_enter Trym.func12, Trym.ntmps12
  go_wp2
  go_loop [10] (fun k => k = .int .i64 2) (fun _ => 0)
  case atStart => rfl
  case round =>
    subst hrel
    go_wp2
    go_ret
    exact ⟨rfl, rfl⟩

set_option maxHeartbeats 1600000 in
set_option maxRecDepth 100000 in
theorem zw_e0 (w : World) (g len i b0 b1 b2 b3 : Nat) (h : Four w g len i b0 b1 b2 b3) (hb : b0 = 224) :
    Calls Trym.prog 12 #[.slice (some ⟨g, 0, none⟩) len len, .int .i64 i] w fun e w' => e = .returned (.int .i64 (zzW (len - i) b0 b1 b2 b3 : Nat)) ∧ w = w' := by
  obtain ⟨hlt, hm, c0, c1, c2, c3⟩ := h
  have hi : (i : Int) < (len : Int) := by omega
  have HZ : zzW (len - i) b0 b1 b2 b3 = (if len - i < 3 then 1 else if b1 < 160 ∨ 191 < b1 then 1 else if b2 < 128 ∨ 191 < b2 then 1 else 3) := by
    unfold zzW
    rw [if_neg (by omega), if_neg (by omega), if_pos (by omega)]
  rw [HZ]
  clear HZ
  subst hb
  by_cases d1 : len - i < 3
  · rw [if_pos d1]
    clear c1 c2 c3
    have d1' : (len : Int) - (i : Int) < 3 := by omega
    go_enter Trym.func12, Trym.ntmps12
    go_wp2
    go_ret
    exact ⟨rfl, rfl⟩
  rw [if_neg d1]
  have d1' : ¬ ((len : Int) - (i : Int) < 3) := by omega
  have k1 := c1 (by omega)
  have j1 : (i : Int) + 1 < (len : Int) := by omega
  have k2 := c2 (by omega)
  have j2 : (i : Int) + 2 < (len : Int) := by omega
  clear c1 c2 c3
  by_cases pb1 : b1 < 160
  · rw [if_pos (.inl pb1)]
    have pb1' : (b1 : Int) < 160 := by omega
    go_enter Trym.func12, Trym.ntmps12
    go_wp2
    go_ret
    exact ⟨rfl, rfl⟩
  by_cases qb1 : 191 < b1
  · rw [if_pos (.inr qb1)]
    have qb1' : 191 < (b1 : Int) := by omega
    go_enter Trym.func12, Trym.ntmps12
    go_wp2
    go_ret
    exact ⟨rfl, rfl⟩
  rw [if_neg (by omega)]
  have rb1 : (160 : Int) ≤ (b1 : Int) := by omega
  have tb1 : (b1 : Int) ≤ 191 := by omega
  by_cases pb2 : b2 < 128
  · rw [if_pos (.inl pb2)]
    have pb2' : (b2 : Int) < 128 := by omega
    go_enter Trym.func12, Trym.ntmps12
    go_wp2
    go_loop [10] (fun k => k = .int .i64 2) (fun _ => 0)
    case atStart => rfl
    case round =>
      subst hrel
      go_wp2
      go_ret
      exact ⟨rfl, rfl⟩
  by_cases qb2 : 191 < b2
  · rw [if_pos (.inr qb2)]
    have qb2' : 191 < (b2 : Int) := by omega
    go_enter Trym.func12, Trym.ntmps12
    go_wp2
    go_loop [10] (fun k => k = .int .i64 2) (fun _ => 0)
    case atStart => rfl
    case round =>
      subst hrel
      go_wp2
      go_ret
      exact ⟨rfl, rfl⟩
  rw [if_neg (by omega)]
  have rb2 : (128 : Int) ≤ (b2 : Int) := by omega
  have tb2 : (b2 : Int) ≤ 191 := by omega
  go_enter Trym.func12, Trym.ntmps12
  go_wp2
  go_loop [10] (fun k => k = .int .i64 2 ∨ k = .int .i64 3) (fun k => 3 - (intOf k).toNat)
  case atStart => exact .inl rfl
  case round =>
    rcases hrel with rfl | rfl
    · go_wp2
      go_round
      case rel => exact .inr (by go_num)
      case measure => simp [intOf]
    · go_wp2
      go_ret
      exact ⟨rfl, rfl⟩

set_option maxHeartbeats 1600000 in
set_option maxRecDepth 100000 in
theorem zw_e1 (w : World) (g len i b0 b1 b2 b3 : Nat) (h : Four w g len i b0 b1 b2 b3) (hb : 225 ≤ b0) (hb' : b0 ≤ 236) :
    Calls Trym.prog 12 #[.slice (some ⟨g, 0, none⟩) len len, .int .i64 i] w fun e w' => e = .returned (.int .i64 (zzW (len - i) b0 b1 b2 b3 : Nat)) ∧ w = w' := by
  obtain ⟨hlt, hm, c0, c1, c2, c3⟩ := h
  have hi : (i : Int) < (len : Int) := by omega
  have HZ : zzW (len - i) b0 b1 b2 b3 = (if len - i < 3 then 1 else if b1 < 128 ∨ 191 < b1 then 1 else if b2 < 128 ∨ 191 < b2 then 1 else 3) := by
    unfold zzW
    rw [if_neg (by omega), if_neg (by omega), if_neg (by omega), if_pos (by omega)]
  rw [HZ]
  clear HZ
  by_cases d1 : len - i < 3
  · rw [if_pos d1]
    clear c1 c2 c3
    have d1' : (len : Int) - (i : Int) < 3 := by omega
    go_enter Trym.func12, Trym.ntmps12
    go_wp2
    go_ret
    exact ⟨rfl, rfl⟩
  rw [if_neg d1]
  have d1' : ¬ ((len : Int) - (i : Int) < 3) := by omega
  have k1 := c1 (by omega)
  have j1 : (i : Int) + 1 < (len : Int) := by omega
  have k2 := c2 (by omega)
  have j2 : (i : Int) + 2 < (len : Int) := by omega
  clear c1 c2 c3
  by_cases pb1 : b1 < 128
  · rw [if_pos (.inl pb1)]
    have pb1' : (b1 : Int) < 128 := by omega
    go_enter Trym.func12, Trym.ntmps12
    go_wp2
    go_ret
    exact ⟨rfl, rfl⟩
  by_cases qb1 : 191 < b1
  · rw [if_pos (.inr qb1)]
    have qb1' : 191 < (b1 : Int) := by omega
    go_enter Trym.func12, Trym.ntmps12
    go_wp2
    go_ret
    exact ⟨rfl, rfl⟩
  rw [if_neg (by omega)]
  have rb1 : (128 : Int) ≤ (b1 : Int) := by omega
  have tb1 : (b1 : Int) ≤ 191 := by omega
  by_cases pb2 : b2 < 128
  · rw [if_pos (.inl pb2)]
    have pb2' : (b2 : Int) < 128 := by omega
    go_enter Trym.func12, Trym.ntmps12
    go_wp2
    go_loop [10] (fun k => k = .int .i64 2) (fun _ => 0)
    case atStart => rfl
    case round =>
      subst hrel
      go_wp2
      go_ret
      exact ⟨rfl, rfl⟩
  by_cases qb2 : 191 < b2
  · rw [if_pos (.inr qb2)]
    have qb2' : 191 < (b2 : Int) := by omega
    go_enter Trym.func12, Trym.ntmps12
    go_wp2
    go_loop [10] (fun k => k = .int .i64 2) (fun _ => 0)
    case atStart => rfl
    case round =>
      subst hrel
      go_wp2
      go_ret
      exact ⟨rfl, rfl⟩
  rw [if_neg (by omega)]
  have rb2 : (128 : Int) ≤ (b2 : Int) := by omega
  have tb2 : (b2 : Int) ≤ 191 := by omega
  go_enter Trym.func12, Trym.ntmps12
  go_wp2
  go_loop [10] (fun k => k = .int .i64 2 ∨ k = .int .i64 3) (fun k => 3 - (intOf k).toNat)
  case atStart => exact .inl rfl
  case round =>
    rcases hrel with rfl | rfl
    · go_wp2
      go_round
      case rel => exact .inr (by go_num)
      case measure => simp [intOf]
    · go_wp2
      go_ret
      exact ⟨rfl, rfl⟩

set_option maxHeartbeats 1600000 in
set_option maxRecDepth 100000 in
theorem zw_ed (w : World) (g len i b0 b1 b2 b3 : Nat) (h : Four w g len i b0 b1 b2 b3) (hb : b0 = 237) :
    Calls Trym.prog 12 #[.slice (some ⟨g, 0, none⟩) len len, .int .i64 i] w fun e w' => e = .returned (.int .i64 (zzW (len - i) b0 b1 b2 b3 : Nat)) ∧ w = w' := by
  obtain ⟨hlt, hm, c0, c1, c2, c3⟩ := h
  have hi : (i : Int) < (len : Int) := by omega
  have HZ : zzW (len - i) b0 b1 b2 b3 = (if len - i < 3 then 1 else if b1 < 128 ∨ 159 < b1 then 1 else if b2 < 128 ∨ 191 < b2 then 1 else 3) := by
    unfold zzW
    rw [if_neg (by omega), if_neg (by omega), if_neg (by omega), if_neg (by omega), if_pos (by omega)]
  rw [HZ]
  clear HZ
  subst hb
  by_cases d1 : len - i < 3
  · rw [if_pos d1]
    clear c1 c2 c3
    have d1' : (len : Int) - (i : Int) < 3 := by omega
    go_enter Trym.func12, Trym.ntmps12
    go_wp2
    go_ret
    exact ⟨rfl, rfl⟩
  rw [if_neg d1]
  have d1' : ¬ ((len : Int) - (i : Int) < 3) := by omega
  have k1 := c1 (by omega)
  have j1 : (i : Int) + 1 < (len : Int) := by omega
  have k2 := c2 (by omega)
  have j2 : (i : Int) + 2 < (len : Int) := by omega
  clear c1 c2 c3
  by_cases pb1 : b1 < 128
  · rw [if_pos (.inl pb1)]
    have pb1' : (b1 : Int) < 128 := by omega
    go_enter Trym.func12, Trym.ntmps12
    go_wp2
    go_ret
    exact ⟨rfl, rfl⟩
  by_cases qb1 : 159 < b1
  · rw [if_pos (.inr qb1)]
    have qb1' : 159 < (b1 : Int) := by omega
    go_enter Trym.func12, Trym.ntmps12
    go_wp2
    go_ret
    exact ⟨rfl, rfl⟩
  rw [if_neg (by omega)]
  have rb1 : (128 : Int) ≤ (b1 : Int) := by omega
  have tb1 : (b1 : Int) ≤ 159 := by omega
  by_cases pb2 : b2 < 128
  · rw [if_pos (.inl pb2)]
    have pb2' : (b2 : Int) < 128 := by omega
    go_enter Trym.func12, Trym.ntmps12
    go_wp2
    go_loop [10] (fun k => k = .int .i64 2) (fun _ => 0)
    case atStart => rfl
    case round =>
      subst hrel
      go_wp2
      go_ret
      exact ⟨rfl, rfl⟩
  by_cases qb2 : 191 < b2
  · rw [if_pos (.inr qb2)]
    have qb2' : 191 < (b2 : Int) := by omega
    go_enter Trym.func12, Trym.ntmps12
    go_wp2
    go_loop [10] (fun k => k = .int .i64 2) (fun _ => 0)
    case atStart => rfl
    case round =>
      subst hrel
      go_wp2
      go_ret
      exact ⟨rfl, rfl⟩
  rw [if_neg (by omega)]
  have rb2 : (128 : Int) ≤ (b2 : Int) := by omega
  have tb2 : (b2 : Int) ≤ 191 := by omega
  go_enter Trym.func12, Trym.ntmps12
  go_wp2
  go_loop [10] (fun k => k = .int .i64 2 ∨ k = .int .i64 3) (fun k => 3 - (intOf k).toNat)
  case atStart => exact .inl rfl
  case round =>
    rcases hrel with rfl | rfl
    · go_wp2
      go_round
      case rel => exact .inr (by go_num)
      case measure => simp [intOf]
    · go_wp2
      go_ret
      exact ⟨rfl, rfl⟩

set_option maxHeartbeats 1600000 in
set_option maxRecDepth 100000 in
theorem zw_ee (w : World) (g len i b0 b1 b2 b3 : Nat) (h : Four w g len i b0 b1 b2 b3) (hb : 238 ≤ b0) (hb' : b0 ≤ 239) :
    Calls Trym.prog 12 #[.slice (some ⟨g, 0, none⟩) len len, .int .i64 i] w fun e w' => e = .returned (.int .i64 (zzW (len - i) b0 b1 b2 b3 : Nat)) ∧ w = w' := by
  obtain ⟨hlt, hm, c0, c1, c2, c3⟩ := h
  have hi : (i : Int) < (len : Int) := by omega
  have HZ : zzW (len - i) b0 b1 b2 b3 = (if len - i < 3 then 1 else if b1 < 128 ∨ 191 < b1 then 1 else if b2 < 128 ∨ 191 < b2 then 1 else 3) := by
    unfold zzW
    rw [if_neg (by omega), if_neg (by omega), if_neg (by omega), if_neg (by omega), if_neg (by omega), if_pos (by omega)]
  rw [HZ]
  clear HZ
  by_cases d1 : len - i < 3
  · rw [if_pos d1]
    clear c1 c2 c3
    have d1' : (len : Int) - (i : Int) < 3 := by omega
    go_enter Trym.func12, Trym.ntmps12
    go_wp2
    go_ret
    exact ⟨rfl, rfl⟩
  rw [if_neg d1]
  have d1' : ¬ ((len : Int) - (i : Int) < 3) := by omega
  have k1 := c1 (by omega)
  have j1 : (i : Int) + 1 < (len : Int) := by omega
  have k2 := c2 (by omega)
  have j2 : (i : Int) + 2 < (len : Int) := by omega
  clear c1 c2 c3
  by_cases pb1 : b1 < 128
  · rw [if_pos (.inl pb1)]
    have pb1' : (b1 : Int) < 128 := by omega
    go_enter Trym.func12, Trym.ntmps12
    go_wp2
    go_ret
    exact ⟨rfl, rfl⟩
  by_cases qb1 : 191 < b1
  · rw [if_pos (.inr qb1)]
    have qb1' : 191 < (b1 : Int) := by omega
    go_enter Trym.func12, Trym.ntmps12
    go_wp2
    go_ret
    exact ⟨rfl, rfl⟩
  rw [if_neg (by omega)]
  have rb1 : (128 : Int) ≤ (b1 : Int) := by omega
  have tb1 : (b1 : Int) ≤ 191 := by omega
  by_cases pb2 : b2 < 128
  · rw [if_pos (.inl pb2)]
    have pb2' : (b2 : Int) < 128 := by omega
    go_enter Trym.func12, Trym.ntmps12
    go_wp2
    go_loop [10] (fun k => k = .int .i64 2) (fun _ => 0)
    case atStart => rfl
    case round =>
      subst hrel
      go_wp2
      go_ret
      exact ⟨rfl, rfl⟩
  by_cases qb2 : 191 < b2
  · rw [if_pos (.inr qb2)]
    have qb2' : 191 < (b2 : Int) := by omega
    go_enter Trym.func12, Trym.ntmps12
    go_wp2
    go_loop [10] (fun k => k = .int .i64 2) (fun _ => 0)
    case atStart => rfl
    case round =>
      subst hrel
      go_wp2
      go_ret
      exact ⟨rfl, rfl⟩
  rw [if_neg (by omega)]
  have rb2 : (128 : Int) ≤ (b2 : Int) := by omega
  have tb2 : (b2 : Int) ≤ 191 := by omega
  go_enter Trym.func12, Trym.ntmps12
  go_wp2
  go_loop [10] (fun k => k = .int .i64 2 ∨ k = .int .i64 3) (fun k => 3 - (intOf k).toNat)
  case atStart => exact .inl rfl
  case round =>
    rcases hrel with rfl | rfl
    · go_wp2
      go_round
      case rel => exact .inr (by go_num)
      case measure => simp [intOf]
    · go_wp2
      go_ret
      exact ⟨rfl, rfl⟩

set_option maxHeartbeats 1600000 in
set_option maxRecDepth 100000 in
theorem zw_f0 (w : World) (g len i b0 b1 b2 b3 : Nat) (h : Four w g len i b0 b1 b2 b3) (hb : b0 = 240) :
    Calls Trym.prog 12 #[.slice (some ⟨g, 0, none⟩) len len, .int .i64 i] w fun e w' => e = .returned (.int .i64 (zzW (len - i) b0 b1 b2 b3 : Nat)) ∧ w = w' := by
  obtain ⟨hlt, hm, c0, c1, c2, c3⟩ := h
  have hi : (i : Int) < (len : Int) := by omega
  have HZ : zzW (len - i) b0 b1 b2 b3 = (if len - i < 4 then 1 else if b1 < 144 ∨ 191 < b1 then 1 else if b2 < 128 ∨ 191 < b2 then 1 else if b3 < 128 ∨ 191 < b3 then 1 else 4) := by
    unfold zzW
    rw [if_neg (by omega), if_neg (by omega), if_neg (by omega), if_neg (by omega), if_neg (by omega), if_neg (by omega), if_pos (by omega)]
  rw [HZ]
  clear HZ
  subst hb
  by_cases d1 : len - i < 4
  · rw [if_pos d1]
    clear c1 c2 c3
    have d1' : (len : Int) - (i : Int) < 4 := by omega
    go_enter Trym.func12, Trym.ntmps12
    go_wp2
    go_ret
    exact ⟨rfl, rfl⟩
  rw [if_neg d1]
  have d1' : ¬ ((len : Int) - (i : Int) < 4) := by omega
  have k1 := c1 (by omega)
  have j1 : (i : Int) + 1 < (len : Int) := by omega
  have k2 := c2 (by omega)
  have j2 : (i : Int) + 2 < (len : Int) := by omega
  have k3 := c3 (by omega)
  have j3 : (i : Int) + 3 < (len : Int) := by omega
  clear c1 c2 c3
  by_cases pb1 : b1 < 144
  · rw [if_pos (.inl pb1)]
    have pb1' : (b1 : Int) < 144 := by omega
    go_enter Trym.func12, Trym.ntmps12
    go_wp2
    go_ret
    exact ⟨rfl, rfl⟩
  by_cases qb1 : 191 < b1
  · rw [if_pos (.inr qb1)]
    have qb1' : 191 < (b1 : Int) := by omega
    go_enter Trym.func12, Trym.ntmps12
    go_wp2
    go_ret
    exact ⟨rfl, rfl⟩
  rw [if_neg (by omega)]
  have rb1 : (144 : Int) ≤ (b1 : Int) := by omega
  have tb1 : (b1 : Int) ≤ 191 := by omega
  by_cases pb2 : b2 < 128
  · rw [if_pos (.inl pb2)]
    have pb2' : (b2 : Int) < 128 := by omega
    go_enter Trym.func12, Trym.ntmps12
    go_wp2
    go_loop [10] (fun k => k = .int .i64 2) (fun _ => 0)
    case atStart => rfl
    case round =>
      subst hrel
      go_wp2
      go_ret
      exact ⟨rfl, rfl⟩
  by_cases qb2 : 191 < b2
  · rw [if_pos (.inr qb2)]
    have qb2' : 191 < (b2 : Int) := by omega
    go_enter Trym.func12, Trym.ntmps12
    go_wp2
    go_loop [10] (fun k => k = .int .i64 2) (fun _ => 0)
    case atStart => rfl
    case round =>
      subst hrel
      go_wp2
      go_ret
      exact ⟨rfl, rfl⟩
  rw [if_neg (by omega)]
  have rb2 : (128 : Int) ≤ (b2 : Int) := by omega
  have tb2 : (b2 : Int) ≤ 191 := by omega
  by_cases pb3 : b3 < 128
  · rw [if_pos (.inl pb3)]
    have pb3' : (b3 : Int) < 128 := by omega
    go_enter Trym.func12, Trym.ntmps12
    go_wp2
    go_loop [10] (fun k => k = .int .i64 2 ∨ k = .int .i64 3) (fun k => 3 - (intOf k).toNat)
    case atStart => exact .inl rfl
    case round =>
      rcases hrel with rfl | rfl
      · go_wp2
        go_round
        case rel => exact .inr (by go_num)
        case measure => simp [intOf]
      · go_wp2
        go_ret
        exact ⟨rfl, rfl⟩
  by_cases qb3 : 191 < b3
  · rw [if_pos (.inr qb3)]
    have qb3' : 191 < (b3 : Int) := by omega
    go_enter Trym.func12, Trym.ntmps12
    go_wp2
    go_loop [10] (fun k => k = .int .i64 2 ∨ k = .int .i64 3) (fun k => 3 - (intOf k).toNat)
    case atStart => exact .inl rfl
    case round =>
      rcases hrel with rfl | rfl
      · go_wp2
        go_round
        case rel => exact .inr (by go_num)
        case measure => simp [intOf]
      · go_wp2
        go_ret
        exact ⟨rfl, rfl⟩
  rw [if_neg (by omega)]
  have rb3 : (128 : Int) ≤ (b3 : Int) := by omega
  have tb3 : (b3 : Int) ≤ 191 := by omega
  go_enter Trym.func12, Trym.ntmps12
  go_wp2
  go_loop [10] (fun k => k = .int .i64 2 ∨ k = .int .i64 3 ∨ k = .int .i64 4) (fun k => 4 - (intOf k).toNat)
  case atStart => exact .inl rfl
  case round =>
    rcases hrel with rfl | rfl | rfl
    · go_wp2
      go_round
      case rel => exact .inr (.inl (by go_num))
      case measure => simp [intOf]
    · go_wp2
      go_round
      case rel => exact .inr (.inr (by go_num))
      case measure => simp [intOf]
    · go_wp2
      go_ret
      exact ⟨rfl, rfl⟩

set_option maxHeartbeats 1600000 in
set_option maxRecDepth 100000 in
theorem zw_f1 (w : World) (g len i b0 b1 b2 b3 : Nat) (h : Four w g len i b0 b1 b2 b3) (hb : 241 ≤ b0) (hb' : b0 ≤ 243) :
    Calls Trym.prog 12 #[.slice (some ⟨g, 0, none⟩) len len, .int .i64 i] w fun e w' => e = .returned (.int .i64 (zzW (len - i) b0 b1 b2 b3 : Nat)) ∧ w = w' := by
  obtain ⟨hlt, hm, c0, c1, c2, c3⟩ := h
  have hi : (i : Int) < (len : Int) := by omega
  have HZ : zzW (len - i) b0 b1 b2 b3 = (if len - i < 4 then 1 else if b1 < 128 ∨ 191 < b1 then 1 else if b2 < 128 ∨ 191 < b2 then 1 else if b3 < 128 ∨ 191 < b3 then 1 else 4) := by
    unfold zzW
    rw [if_neg (by omega), if_neg (by omega), if_neg (by omega), if_neg (by omega), if_neg (by omega), if_neg (by omega), if_neg (by omega), if_pos (by omega)]
  rw [HZ]
  clear HZ
  by_cases d1 : len - i < 4
  · rw [if_pos d1]
    clear c1 c2 c3
    have d1' : (len : Int) - (i : Int) < 4 := by omega
    go_enter Trym.func12, Trym.ntmps12
    go_wp2
    go_ret
    exact ⟨rfl, rfl⟩
  rw [if_neg d1]
  have d1' : ¬ ((len : Int) - (i : Int) < 4) := by omega
  have k1 := c1 (by omega)
  have j1 : (i : Int) + 1 < (len : Int) := by omega
  have k2 := c2 (by omega)
  have j2 : (i : Int) + 2 < (len : Int) := by omega
  have k3 := c3 (by omega)
  have j3 : (i : Int) + 3 < (len : Int) := by omega
  clear c1 c2 c3
  by_cases pb1 : b1 < 128
  · rw [if_pos (.inl pb1)]
    have pb1' : (b1 : Int) < 128 := by omega
    go_enter Trym.func12, Trym.ntmps12
    go_wp2
    go_ret
    exact ⟨rfl, rfl⟩
  by_cases qb1 : 191 < b1
  · rw [if_pos (.inr qb1)]
    have qb1' : 191 < (b1 : Int) := by omega
    go_enter Trym.func12, Trym.ntmps12
    go_wp2
    go_ret
    exact ⟨rfl, rfl⟩
  rw [if_neg (by omega)]
  have rb1 : (128 : Int) ≤ (b1 : Int) := by omega
  have tb1 : (b1 : Int) ≤ 191 := by omega
  by_cases pb2 : b2 < 128
  · rw [if_pos (.inl pb2)]
    have pb2' : (b2 : Int) < 128 := by omega
    go_enter Trym.func12, Trym.ntmps12
    go_wp2
    go_loop [10] (fun k => k = .int .i64 2) (fun _ => 0)
    case atStart => rfl
    case round =>
      subst hrel
      go_wp2
      go_ret
      exact ⟨rfl, rfl⟩
  by_cases qb2 : 191 < b2
  · rw [if_pos (.inr qb2)]
    have qb2' : 191 < (b2 : Int) := by omega
    go_enter Trym.func12, Trym.ntmps12
    go_wp2
    go_loop [10] (fun k => k = .int .i64 2) (fun _ => 0)
    case atStart => rfl
    case round =>
      subst hrel
      go_wp2
      go_ret
      exact ⟨rfl, rfl⟩
  rw [if_neg (by omega)]
  have rb2 : (128 : Int) ≤ (b2 : Int) := by omega
  have tb2 : (b2 : Int) ≤ 191 := by omega
  by_cases pb3 : b3 < 128
  · rw [if_pos (.inl pb3)]
    have pb3' : (b3 : Int) < 128 := by omega
    go_enter Trym.func12, Trym.ntmps12
    go_wp2
    go_loop [10] (fun k => k = .int .i64 2 ∨ k = .int .i64 3) (fun k => 3 - (intOf k).toNat)
    case atStart => exact .inl rfl
    case round =>
      rcases hrel with rfl | rfl
      · go_wp2
        go_round
        case rel => exact .inr (by go_num)
        case measure => simp [intOf]
      · go_wp2
        go_ret
        exact ⟨rfl, rfl⟩
  by_cases qb3 : 191 < b3
  · rw [if_pos (.inr qb3)]
    have qb3' : 191 < (b3 : Int) := by omega
    go_enter Trym.func12, Trym.ntmps12
    go_wp2
    go_loop [10] (fun k => k = .int .i64 2 ∨ k = .int .i64 3) (fun k => 3 - (intOf k).toNat)
    case atStart => exact .inl rfl
    case round =>
      rcases hrel with rfl | rfl
      · go_wp2
        go_round
        case rel => exact .inr (by go_num)
        case measure => simp [intOf]
      · go_wp2
        go_ret
        exact ⟨rfl, rfl⟩
  rw [if_neg (by omega)]
  have rb3 : (128 : Int) ≤ (b3 : Int) := by omega
  have tb3 : (b3 : Int) ≤ 191 := by omega
  go_enter Trym.func12, Trym.ntmps12
  go_wp2
  go_loop [10] (fun k => k = .int .i64 2 ∨ k = .int .i64 3 ∨ k = .int .i64 4) (fun k => 4 - (intOf k).toNat)
  case atStart => exact .inl rfl
  case round =>
    rcases hrel with rfl | rfl | rfl
    · go_wp2
      go_round
      case rel => exact .inr (.inl (by go_num))
      case measure => simp [intOf]
    · go_wp2
      go_round
      case rel => exact .inr (.inr (by go_num))
      case measure => simp [intOf]
    · go_wp2
      go_ret
      exact ⟨rfl, rfl⟩

set_option maxHeartbeats 1600000 in
set_option maxRecDepth 100000 in
theorem zw_f4 (w : World) (g len i b0 b1 b2 b3 : Nat) (h : Four w g len i b0 b1 b2 b3) (hb : b0 = 244) :
    Calls Trym.prog 12 #[.slice (some ⟨g, 0, none⟩) len len, .int .i64 i] w fun e w' => e = .returned (.int .i64 (zzW (len - i) b0 b1 b2 b3 : Nat)) ∧ w = w' := by
  obtain ⟨hlt, hm, c0, c1, c2, c3⟩ := h
  have hi : (i : Int) < (len : Int) := by omega
  have HZ : zzW (len - i) b0 b1 b2 b3 = (if len - i < 4 then 1 else if b1 < 128 ∨ 143 < b1 then 1 else if b2 < 128 ∨ 191 < b2 then 1 else if b3 < 128 ∨ 191 < b3 then 1 else 4) := by
    unfold zzW
    rw [if_neg (by omega), if_neg (by omega), if_neg (by omega), if_neg (by omega), if_neg (by omega), if_neg (by omega), if_neg (by omega), if_neg (by omega), if_pos (by omega)]
  rw [HZ]
  clear HZ
  subst hb
  by_cases d1 : len - i < 4
  · rw [if_pos d1]
    clear c1 c2 c3
    have d1' : (len : Int) - (i : Int) < 4 := by omega
    go_enter Trym.func12, Trym.ntmps12
    go_wp2
    go_ret
    exact ⟨rfl, rfl⟩
  rw [if_neg d1]
  have d1' : ¬ ((len : Int) - (i : Int) < 4) := by omega
  have k1 := c1 (by omega)
  have j1 : (i : Int) + 1 < (len : Int) := by omega
  have k2 := c2 (by omega)
  have j2 : (i : Int) + 2 < (len : Int) := by omega
  have k3 := c3 (by omega)
  have j3 : (i : Int) + 3 < (len : Int) := by omega
  clear c1 c2 c3
  by_cases pb1 : b1 < 128
  · rw [if_pos (.inl pb1)]
    have pb1' : (b1 : Int) < 128 := by omega
    go_enter Trym.func12, Trym.ntmps12
    go_wp2
    go_ret
    exact ⟨rfl, rfl⟩
  by_cases qb1 : 143 < b1
  · rw [if_pos (.inr qb1)]
    have qb1' : 143 < (b1 : Int) := by omega
    go_enter Trym.func12, Trym.ntmps12
    go_wp2
    go_ret
    exact ⟨rfl, rfl⟩
  rw [if_neg (by omega)]
  have rb1 : (128 : Int) ≤ (b1 : Int) := by omega
  have tb1 : (b1 : Int) ≤ 143 := by omega
  by_cases pb2 : b2 < 128
  · rw [if_pos (.inl pb2)]
    have pb2' : (b2 : Int) < 128 := by omega
    go_enter Trym.func12, Trym.ntmps12
    go_wp2
    go_loop [10] (fun k => k = .int .i64 2) (fun _ => 0)
    case atStart => rfl
    case round =>
      subst hrel
      go_wp2
      go_ret
      exact ⟨rfl, rfl⟩
  by_cases qb2 : 191 < b2
  · rw [if_pos (.inr qb2)]
    have qb2' : 191 < (b2 : Int) := by omega
    go_enter Trym.func12, Trym.ntmps12
    go_wp2
    go_loop [10] (fun k => k = .int .i64 2) (fun _ => 0)
    case atStart => rfl
    case round =>
      subst hrel
      go_wp2
      go_ret
      exact ⟨rfl, rfl⟩
  rw [if_neg (by omega)]
  have rb2 : (128 : Int) ≤ (b2 : Int) := by omega
  have tb2 : (b2 : Int) ≤ 191 := by omega
  by_cases pb3 : b3 < 128
  · rw [if_pos (.inl pb3)]
    have pb3' : (b3 : Int) < 128 := by omega
    go_enter Trym.func12, Trym.ntmps12
    go_wp2
    go_loop [10] (fun k => k = .int .i64 2 ∨ k = .int .i64 3) (fun k => 3 - (intOf k).toNat)
    case atStart => exact .inl rfl
    case round =>
      rcases hrel with rfl | rfl
      · go_wp2
        go_round
        case rel => exact .inr (by go_num)
        case measure => simp [intOf]
      · go_wp2
        go_ret
        exact ⟨rfl, rfl⟩
  by_cases qb3 : 191 < b3
  · rw [if_pos (.inr qb3)]
    have qb3' : 191 < (b3 : Int) := by omega
    go_enter Trym.func12, Trym.ntmps12
    go_wp2
    go_loop [10] (fun k => k = .int .i64 2 ∨ k = .int .i64 3) (fun k => 3 - (intOf k).toNat)
    case atStart => exact .inl rfl
    case round =>
      rcases hrel with rfl | rfl
      · go_wp2
        go_round
        case rel => exact .inr (by go_num)
        case measure => simp [intOf]
      · go_wp2
        go_ret
        exact ⟨rfl, rfl⟩
  rw [if_neg (by omega)]
  have rb3 : (128 : Int) ≤ (b3 : Int) := by omega
  have tb3 : (b3 : Int) ≤ 191 := by omega
  go_enter Trym.func12, Trym.ntmps12
  go_wp2
  go_loop [10] (fun k => k = .int .i64 2 ∨ k = .int .i64 3 ∨ k = .int .i64 4) (fun k => 4 - (intOf k).toNat)
  case atStart => exact .inl rfl
  case round =>
    rcases hrel with rfl | rfl | rfl
    · go_wp2
      go_round
      case rel => exact .inr (.inl (by go_num))
      case measure => simp [intOf]
    · go_wp2
      go_round
      case rel => exact .inr (.inr (by go_num))
      case measure => simp [intOf]
    · go_wp2
      go_ret
      exact ⟨rfl, rfl⟩
end Go.Proofs.Qxb6600571aMods
