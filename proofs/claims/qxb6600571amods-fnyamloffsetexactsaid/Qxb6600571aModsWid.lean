/-
  THE PLAIN LAWS of seat b6600571aM, the width of a character: the Unicode standard's table (as the law's own zzWidth has it) against the model's decoding; no Go in sight.
-/
import Derived.Test.Qxb6600571aModsPos
import Derived.Laws.BytesArg
namespace Go.Proofs.Qxb6600571aMods

/-- zzWidth, plainly: n bytes are left, b0 to b3 the first four of them. -/
def zzW (n b0 b1 b2 b3 : Nat) : Nat :=
  if b0 < 128 then 1
  else if 194 ≤ b0 ∧ b0 ≤ 223 then (if n < 2 then 1 else if b1 < 128 ∨ 191 < b1 then 1 else 2)
  else if b0 = 224 then (if n < 3 then 1 else if b1 < 160 ∨ 191 < b1 then 1 else if b2 < 128 ∨ 191 < b2 then 1 else 3)
  else if 225 ≤ b0 ∧ b0 ≤ 236 then (if n < 3 then 1 else if b1 < 128 ∨ 191 < b1 then 1 else if b2 < 128 ∨ 191 < b2 then 1 else 3)
  else if b0 = 237 then (if n < 3 then 1 else if b1 < 128 ∨ 159 < b1 then 1 else if b2 < 128 ∨ 191 < b2 then 1 else 3)
  else if 238 ≤ b0 ∧ b0 ≤ 239 then (if n < 3 then 1 else if b1 < 128 ∨ 191 < b1 then 1 else if b2 < 128 ∨ 191 < b2 then 1 else 3)
  else if b0 = 240 then (if n < 4 then 1 else if b1 < 144 ∨ 191 < b1 then 1 else if b2 < 128 ∨ 191 < b2 then 1 else if b3 < 128 ∨ 191 < b3 then 1 else 4)
  else if 241 ≤ b0 ∧ b0 ≤ 243 then (if n < 4 then 1 else if b1 < 128 ∨ 191 < b1 then 1 else if b2 < 128 ∨ 191 < b2 then 1 else if b3 < 128 ∨ 191 < b3 then 1 else 4)
  else if b0 = 244 then (if n < 4 then 1 else if b1 < 128 ∨ 143 < b1 then 1 else if b2 < 128 ∨ 191 < b2 then 1 else if b3 < 128 ∨ 191 < b3 then 1 else 4)
  else 1

/-- Byte k of s. -/
def by_ (s : ByteArray) (k : Nat) : Nat := (s.get! k).toNat
theorem by_lt (s : ByteArray) (k : Nat) : by_ s k < 256 := (s.get! k).toNat_lt

/-- The model's decoding, its width alone. -/
def decW (n b0 b1 b2 b3 : Nat) : Nat :=
  if b0 < 128 then 1
  else if b0 / 32 = 6 ∧ (1 < n ∧ b1 / 64 = 2) then (if 128 ≤ (b0 % 32) * 64 + b1 % 64 then 2 else 1)
  else if (b0 / 16 = 14 ∧ (1 < n ∧ b1 / 64 = 2)) ∧ (2 < n ∧ b2 / 64 = 2) then
    (if 2048 ≤ (b0 % 16) * 4096 + (b1 % 64) * 64 + b2 % 64 ∧ ((b0 % 16) * 4096 + (b1 % 64) * 64 + b2 % 64 < 55296 ∨ 57344 ≤ (b0 % 16) * 4096 + (b1 % 64) * 64 + b2 % 64) then 3 else 1)
  else if ((b0 / 8 = 30 ∧ (1 < n ∧ b1 / 64 = 2)) ∧ (2 < n ∧ b2 / 64 = 2)) ∧ (3 < n ∧ b3 / 64 = 2) then
    (if 65536 ≤ (b0 % 8) * 262144 + (b1 % 64) * 4096 + (b2 % 64) * 64 + b3 % 64 ∧ (b0 % 8) * 262144 + (b1 % 64) * 4096 + (b2 % 64) * 64 + b3 % 64 ≤ 1114111 then 4 else 1)
  else 1

theorem decW_zzW (n b0 b1 b2 b3 : Nat) (h0 : b0 < 256) (h1 : b1 < 256) (h2 : b2 < 256) (h3 : b3 < 256) : decW n b0 b1 b2 b3 = zzW n b0 b1 b2 b3 := by
  unfold decW zzW
  by_cases a1 : b0 < 128
  · rw [if_pos a1, if_pos a1]
  rw [if_neg a1, if_neg a1]
  by_cases a2 : b0 < 194
  · rw [if_neg (by omega : ¬ (194 ≤ b0 ∧ b0 ≤ 223)), if_neg (by omega : ¬ b0 = 224), if_neg (by omega : ¬ (225 ≤ b0 ∧ b0 ≤ 236)), if_neg (by omega : ¬ b0 = 237), if_neg (by omega : ¬ (238 ≤ b0 ∧ b0 ≤ 239)), if_neg (by omega : ¬ b0 = 240), if_neg (by omega : ¬ (241 ≤ b0 ∧ b0 ≤ 243)), if_neg (by omega : ¬ b0 = 244)]
    repeat' split
    all_goals omega
  by_cases a3 : b0 ≤ 223
  · rw [if_pos (by omega : 194 ≤ b0 ∧ b0 ≤ 223)]
    repeat' split
    all_goals omega
  rw [if_neg (by omega : ¬ (194 ≤ b0 ∧ b0 ≤ 223)), if_neg (by omega : ¬ (b0 / 32 = 6 ∧ (1 < n ∧ b1 / 64 = 2)))]
  by_cases a4 : b0 = 224
  · rw [if_pos a4]
    subst a4
    repeat' split
    all_goals omega
  rw [if_neg a4]
  by_cases a5 : b0 ≤ 236
  · rw [if_pos (by omega : 225 ≤ b0 ∧ b0 ≤ 236)]
    repeat' split
    all_goals omega
  rw [if_neg (by omega : ¬ (225 ≤ b0 ∧ b0 ≤ 236))]
  by_cases a6 : b0 = 237
  · rw [if_pos a6]
    subst a6
    repeat' split
    all_goals omega
  rw [if_neg a6]
  by_cases a7 : b0 ≤ 239
  · rw [if_pos (by omega : 238 ≤ b0 ∧ b0 ≤ 239)]
    repeat' split
    all_goals omega
  rw [if_neg (by omega : ¬ (238 ≤ b0 ∧ b0 ≤ 239)), if_neg (by omega : ¬ ((b0 / 16 = 14 ∧ (1 < n ∧ b1 / 64 = 2)) ∧ (2 < n ∧ b2 / 64 = 2)))]
  by_cases a8 : b0 = 240
  · rw [if_pos a8]
    subst a8
    repeat' split
    all_goals omega
  rw [if_neg a8]
  by_cases a9 : b0 ≤ 243
  · rw [if_pos (by omega : 241 ≤ b0 ∧ b0 ≤ 243)]
    repeat' split
    all_goals omega
  rw [if_neg (by omega : ¬ (241 ≤ b0 ∧ b0 ≤ 243))]
  by_cases a10 : b0 = 244
  · rw [if_pos a10]
    subst a10
    repeat' split
    all_goals omega
  rw [if_neg a10]
  repeat' split
  all_goals omega

theorem valid_iff (c : Nat) : (Utf8.valid (c : Int) = true) ↔ (c < 55296 ∨ (57344 ≤ c ∧ c ≤ 1114111)) := by
  unfold Utf8.valid
  simp only [Bool.or_eq_true, Bool.and_eq_true, decide_eq_true_eq]
  omega

theorem wd_decW (s : ByteArray) (p : Nat) : wd s p = decW (s.size - p) (by_ s p) (by_ s (p + 1)) (by_ s (p + 2)) (by_ s (p + 3)) := by
  have h0 := by_lt s p
  have h1 := by_lt s (p + 1)
  have h2 := by_lt s (p + 2)
  have h3 := by_lt s (p + 3)
  have e0 : (s.get! (p + 0)).toNat = by_ s p := rfl
  have e1 : (s.get! (p + 1)).toNat = by_ s (p + 1) := rfl
  have e2 : (s.get! (p + 2)).toNat = by_ s (p + 2) := rfl
  have e3 : (s.get! (p + 3)).toNat = by_ s (p + 3) := rfl
  unfold wd Utf8.decode decW
  simp only [e0, e1, e2, e3, Bool.and_eq_true, beq_iff_eq, decide_eq_true_eq, ge_iff_le, valid_iff]
  generalize by_ s p = b0 at *
  generalize by_ s (p + 1) = b1 at *
  generalize by_ s (p + 2) = b2 at *
  generalize by_ s (p + 3) = b3 at *
  repeat' split
  all_goals first | rfl | (exfalso; omega)

theorem wd_zzW (s : ByteArray) (p : Nat) : wd s p = zzW (s.size - p) (by_ s p) (by_ s (p + 1)) (by_ s (p + 2)) (by_ s (p + 3)) := by
  rw [wd_decW, decW_zzW _ _ _ _ _ (by_lt _ _) (by_lt _ _) (by_lt _ _) (by_lt _ _)]

/-- The bytes of a string made of numbers. -/
theorem by_nums (xs : List Int) (h : ∀ k, 0 ≤ xs.getD k 0 ∧ xs.getD k 0 ≤ 255) (k : Nat) : ((by_ (strOfNums xs) k : Nat) : Int) = xs.getD k 0 := by
  have hk := h k
  unfold by_
  by_cases hl : k < xs.length
  · have e : (strOfNums xs).get! k = UInt8.ofNat (xs.getD k 0).toNat := by
      show (strOfNums xs).data[k]! = _
      have h2 : k < (strOfNums xs).data.size := by simpa [strOfNums] using hl
      rw [getElem!_pos (strOfNums xs).data k h2]
      simp [strOfNums, List.getD, hl]
    rw [e]
    generalize xs.getD k 0 = v at hk ⊢
    obtain ⟨m, rfl⟩ := Int.eq_ofNat_of_zero_le hk.1
    have hm : m < 256 := by omega
    simp only [Int.toNat_natCast, UInt8.toNat_ofNat']
    omega
  · have e : (strOfNums xs).get! k = 0 := by
      show (strOfNums xs).data[k]! = _
      have h2 : ¬ k < (strOfNums xs).data.size := by simpa [strOfNums] using hl
      rw [getElem!_neg (strOfNums xs).data k h2]
      rfl
    rw [e, List.getD_eq_getElem?_getD, List.getElem?_eq_none (by omega)]
    rfl
end Go.Proofs.Qxb6600571aMods
