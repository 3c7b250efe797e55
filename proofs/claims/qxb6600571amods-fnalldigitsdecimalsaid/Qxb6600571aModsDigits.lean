import Derived.Test.Qxb6600571aModsRows
import Derived.WalkKit
import Derived.WalkSpells
import Derived.WalkLawsBesides
import Derived.Below
import Derived.Deep.OwnRows
import Derived.Lib.Strings
namespace Go.Proofs.Qxb6600571aMods
open Go.RowKit Go.Deep

theorem ret_bool {a b : Bool} (h : a = b) : Ending.returned (.bool a) = .returned (.bool b) := by rw [h]

theorem not_empty (s : ByteArray) (h : 0 < s.size) : s.toList.isEmpty = false := by
  rw [Lib.toList_data]
  cases hl : s.data.toList with
  | nil =>
    have : s.data.toList.length = 0 := by rw [hl]; rfl
    have : s.size = 0 := this
    omega
  | cons _ _ => rfl

/-- allDigits: yes. -/
theorem ad_true (s : ByteArray) (w : World) (hm : s.size ≤ 1000) (h0 : 0 < s.size) (hd : ∀ i, (h : i < s.size) → 48 ≤ (s[i]'h).toNat ∧ (s[i]'h).toNat ≤ 57) :
    Calls Trym.prog 16 #[.string s] w fun e w' => e = .returned (.bool true) ∧ w = w' := by
  have HD : Hid (∀ i, (h : i < s.size) → 48 ≤ (s[i]'h).toNat ∧ (s[i]'h).toNat ≤ 57) := hd
  have hne := not_empty s h0
  clear hd
  go_enter Trym.func16, Trym.ntmps16
  go_wp2
  go_loop [3] (fun i => ∃ k : Nat, k ≤ s.size ∧ i = .int .i64 k) (fun i => s.size - (intOf i).toNat)
  case atStart => exact ⟨0, Nat.zero_le _, rfl⟩
  case round =>
    obtain ⟨k, hk, rfl⟩ := hrel
    by_cases hlt : k < s.size
    · obtain ⟨d1, d2⟩ := HD.out k hlt
      have e1 : (48 : Int) ≤ ((s[k]'hlt).toNat : Int) := by omega
      have e2 : ((s[k]'hlt).toNat : Int) ≤ 57 := by omega
      go_wp2
      go_round
      case rel => exact ⟨k + 1, by omega, by go_num⟩
      case measure => simp [intOf]; omega
    · go_wp2
      go_ret
      exact ⟨rfl, rfl⟩

/-- allDigits: no: some byte is below '0'. -/
theorem ad_false (s : ByteArray) (w : World) (hm : s.size ≤ 1000) (j : Nat) (hj : j < s.size) (hd : (s[j]'hj).toNat < 48) :
    Calls Trym.prog 16 #[.string s] w fun e w' => e = .returned (.bool false) ∧ w = w' := by
  have HD : Hid ((s[j]'hj).toNat < 48) := hd
  clear hd
  go_enter Trym.func16, Trym.ntmps16
  go_wp2
  go_loop [3] (fun i => ∃ k : Nat, k ≤ j ∧ i = .int .i64 k) (fun i => s.size - (intOf i).toNat)
  case atStart => exact ⟨0, Nat.zero_le _, rfl⟩
  case round =>
    obtain ⟨k, hk, rfl⟩ := hrel
    have hlt : k < s.size := by omega
    have hkj : (48 ≤ ((s[k]'hlt).toNat : Int) ∧ ((s[k]'hlt).toNat : Int) ≤ 57) → k + 1 ≤ j := by
      rintro ⟨h1, h2⟩
      rcases Nat.lt_or_ge k j with h | h
      · exact h
      · obtain rfl : k = j := by omega
        have := HD.out
        omega
    by_cases c1 : ((s[k]'hlt).toNat : Int) < 48
    · clear hkj
      go_wp2
      go_ret
      exact ⟨rfl, rfl⟩
    · by_cases c2 : 57 < ((s[k]'hlt).toNat : Int)
      · clear hkj
        go_wp2
        go_ret
        exact ⟨rfl, rfl⟩
      · have hk1 : k + 1 ≤ j := hkj ⟨by omega, by omega⟩
        clear hkj
        go_wp2
        go_round
        case rel => exact ⟨k + 1, hk1, by go_num⟩
        case measure => simp [intOf]; omega

theorem zzad_true (s : ByteArray) (w : World) (hm : s.size ≤ 1000) (h0 : 0 < s.size) (hd : ∀ i, (h : i < s.size) → 48 ≤ (s[i]'h).toNat ∧ (s[i]'h).toNat ≤ 57) :
    Calls Trym.prog 9 #[.string s] w fun e w' => e = .returned (.bool true) ∧ w = w' := by
  have HD := ad_true s w hm h0 hd
  clear hd
  go_enter Trym.func9, Trym.ntmps9
  go_wp2_with (go_at_call 16; refine HD.mono ?_; rintro e w' ⟨rfl, rfl⟩)
  go_ret
  exact ⟨rfl, rfl⟩
theorem zzad_false (s : ByteArray) (w : World) (hm : s.size ≤ 1000) (j : Nat) (hj : j < s.size) (hd : (s[j]'hj).toNat < 48) :
    Calls Trym.prog 9 #[.string s] w fun e w' => e = .returned (.bool false) ∧ w = w' := by
  have HD := ad_false s w hm j hj hd
  clear hd
  go_enter Trym.func9, Trym.ntmps9
  go_wp2_with (go_at_call 16; refine HD.mono ?_; rintro e w' ⟨rfl, rfl⟩)
  go_ret
  exact ⟨rfl, rfl⟩

theorem made20 (w : World) : (w.alloc (Obj.cells #[Value.int IntKind.u8 0, Value.int IntKind.u8 0, Value.int IntKind.u8 0, Value.int IntKind.u8 0, Value.int IntKind.u8 0, Value.int IntKind.u8 0, Value.int IntKind.u8 0, Value.int IntKind.u8 0, Value.int IntKind.u8 0, Value.int IntKind.u8 0,
      Value.int IntKind.u8 0, Value.int IntKind.u8 0, Value.int IntKind.u8 0, Value.int IntKind.u8 0, Value.int IntKind.u8 0, Value.int IntKind.u8 0, Value.int IntKind.u8 0, Value.int IntKind.u8 0, Value.int IntKind.u8 0, Value.int IntKind.u8 0] 32)).rowIs w.heap.size 32 20 (fun _ => .int .u8 0) := by
  have h := World.rowIs_alloc w (Array.replicate 20 (Value.int IntKind.u8 0)) 32 (fun _ => .int .u8 0) (fun i hi => by
    rw [Array.getElem?_replicate]
    simp at hi
    simp [hi])
  exact h

theorem Hid.mk {p : Prop} (h : p) : Hid p := h
theorem val_int {k : IntKind} {a b : Int} (h : a = b) : Value.int k a = .int k b := by rw [h]
theorem ten_step {m k : Nat} (h : m < 10 ^ (k + 1 + 1)) : m / 10 < 10 ^ (k + 1) := by
  rw [Nat.pow_succ] at h
  omega
/-- d with one cell turned. -/
def put (d : Nat → Int) (k : Nat) (v : Int) (p : Nat) : Int := if p = k then v else d p
theorem put_val (d : Nat → Int) (k : Nat) (v : Int) (j : Nat) : (if j = k then Value.int .u8 v else .int .u8 (d j)) = .int .u8 (put d k v j) := by
  unfold put; split <;> rfl
theorem put_ok {d : Nat → Int} {k : Nat} {v : Int} (h : ∀ p, k + 1 ≤ p → p < 20 → 48 ≤ d p ∧ d p ≤ 57) (hv : 48 ≤ v ∧ v ≤ 57) : ∀ p, k ≤ p → p < 20 → 48 ≤ put d k v p ∧ put d k v p ≤ 57 := fun p h1 h2 => by
  unfold put
  split
  · exact hv
  · exact h p (by omega) h2
/-- The digits as a string. -/
theorem digits_str {w : World} {g : Nat} (d : Nat → Int) (k : Nat) (hk : k ≤ 20) (h : w.rowIs g 32 20 (fun p => .int .u8 (d p))) (hd : ∀ p, k ≤ p → p < 20 → 48 ≤ d p ∧ d p ≤ 57) :
    ∃ s : ByteArray, (convert 27 9 (.slice (some ⟨g, k, none⟩) (20 - k) (20 - k))).run Trym.prog w = .ok (.string s) w ∧ s.size = 20 - k ∧ ∀ i, (h : i < s.size) → 48 ≤ (s[i]'h).toNat ∧ (s[i]'h).toNat ≤ 57 := by
  have hx : ∀ i, i < 20 - k → ((List.range (20 - k)).map (fun i => d (k + i))).getD i 0 = d (k + i) := fun i hi => by simp [List.getD, hi]
  refine ⟨strOfNums ((List.range (20 - k)).map (fun i => d (k + i))), ?_, ?_, ?_⟩
  · refine run_convert_bytes_arg (P := Trym.prog) w 27 5 Trym.underlying27 Trym.underlying5 g k (20 - k) (20 - k) _ (by simp) (fun i hi => ?_) 9 Trym.underlying9
    rw [hx i hi]
    exact h.cell (by omega)
  · rw [strOfNums_size]; simp
  · intro i hi
    have hi' : i < 20 - k := by rw [strOfNums_size] at hi; simpa using hi
    obtain ⟨d1, d2⟩ := hd (k + i) (by omega) (by omega)
    have e : ((strOfNums ((List.range (20 - k)).map (fun i => d (k + i))))[i]'hi).toNat = (d (k + i)).toNat := by
      show (((List.range (20 - k)).map (fun i => d (k + i))).map (fun n => UInt8.ofNat n.toNat)).toArray[i].toNat = _
      simp
      omega
    rw [e]
    omega

/-- zzDecimal: a string of one to twenty digits. -/
theorem dec_any (n : Nat) (w : World) (hn : n < 18446744073709551616) :
    Calls Trym.prog 10 #[.int .u64 n] w fun e w' => ∃ s : ByteArray, e = .returned (.string s) ∧ 0 < s.size ∧ s.size ≤ 20 ∧ (∀ i, (h : i < s.size) → 48 ≤ (s[i]'h).toNat ∧ (s[i]'h).toNat ≤ 57) ∧ Grown w w' := by
  go_enter Trym.func10, Trym.ntmps10
  go_wp2
  go_loopw [0, 4] (fun p i wr => ∃ (m k : Nat) (d : Nat → Int), p = .int .u64 m ∧ i = .int .i64 (k + 1 : Nat) ∧ m < 18446744073709551616 ∧ Hid (m < 10 ^ (k + 1)) ∧ k < 20 ∧ Grown w wr ∧ wr.rowIs w.heap.size 32 20 (fun p => .int .u8 (d p)) ∧ Hid (∀ p, k + 1 ≤ p → p < 20 → 48 ≤ d p ∧ d p ≤ 57)) (fun _ i _ => (intOf i).toNat)
  case atStart => exact ⟨n, 19, fun _ => 0, rfl, rfl, hn, show n < 10 ^ 20 by omega, by omega, (Grown.refl _).alloc _ _, made20 w, fun p h1 h2 => by omega⟩
  case round =>
    obtain ⟨m, k, d, rfl, rfl, hm, HM, hk, hg, hrow, HD⟩ := hrel
    have c1 := hrow.cell (i := k) (by omega)
    have f1 := hrow.frozen k
    have hk' : (k : Int) < 20 := by omega
    have hk2 : (k : Int) ≤ 20 := by omega
    have hs : (w.heap.size ≤ (⟨w.heap.size, k, none⟩ : Addr).block) := Nat.le_refl _
    have hrow2 : (wr.setCell ⟨w.heap.size, k, none⟩ (.int .u8 (48 + (m : Int) % 10))).rowIs w.heap.size 32 20 (fun p => .int .u8 (put d k (48 + (m : Int) % 10) p)) := (hrow.set k _).congr (fun j _ => put_val d k _ j)
    have HD2 := Hid.mk (put_ok HD.out (show (48 : Int) ≤ 48 + (m : Int) % 10 ∧ 48 + (m : Int) % 10 ≤ 57 by omega))
    have hg2 : Grown w (wr.setCell ⟨w.heap.size, k, none⟩ (.int .u8 (48 + (m : Int) % 10))) := hg.setCell hs _
    clear hs
    by_cases h10 : m < 10
    · obtain ⟨s, hs1, hs2, hs3⟩ := digits_str (put d k (48 + (m : Int) % 10)) k (by omega) hrow2 HD2.out
      have HS3 := Hid.mk hs3
      clear hs3
      go_wp2
      go_ret
      exact ⟨s, rfl, by omega, by omega, HS3.out, hg2⟩
    · have hk0 : 0 < k := by
        rcases Nat.eq_zero_or_pos k with h | h
        · subst h
          have := HM.out
          simp at this
          omega
        · exact h
      obtain ⟨l, rfl⟩ : ∃ l, k = l + 1 := ⟨k - 1, by omega⟩
      go_wp2
      go_roundw
      case rel => exact ⟨m / 10, l, put d (l + 1) (48 + (m : Int) % 10), val_int (by simp), rfl, by omega, ten_step HM.out, by omega, hg2, hrow2, HD2⟩
      case measure => simp [intOf]; omega

theorem minus_at (s : ByteArray) : ∃ h : 0 < ((ByteArray.mk #[45]) ++ s).size, (((ByteArray.mk #[45]) ++ s)[0]'h).toNat < 48 := by
  have h : 0 < ((ByteArray.mk #[45]) ++ s).size := by rw [ByteArray.size_append]; show 0 < 1 + s.size; omega
  refine ⟨h, ?_⟩
  rw [ByteArray.getElem_append_left (show 0 < (ByteArray.mk #[45]).size by decide)]
  decide
theorem point_at (s : ByteArray) : ∃ h : s.size < (s ++ (ByteArray.mk #[46])).size, ((s ++ (ByteArray.mk #[46]))[s.size]'h).toNat < 48 := by
  have h : s.size < (s ++ (ByteArray.mk #[46])).size := by rw [ByteArray.size_append]; show s.size < s.size + 1; omega
  refine ⟨h, ?_⟩
  rw [ByteArray.getElem_append_right (Nat.le_refl _)]
  simp only [Nat.sub_self]
  show (46 : UInt8).toNat < 48
  decide

theorem dec_law (n : Nat) (w : World) (hn : n < 18446744073709551616) :
    Calls Trym.prog 4 #[.int .u64 n] w fun e w' => e = .returned (.bool true) ∧ Grown w w' := by
  go_enter Trym.func4, Trym.ntmps4
  go_wp2_with fail
  refine (dec_any n _ hn).mono ?_
  rintro e w1 ⟨s, rfl, h0, h20, hd, hg⟩
  have A1 := Hid.mk (fun w => zzad_true s w (by omega) h0 hd)
  obtain ⟨q1, q2⟩ := minus_at s
  obtain ⟨r1, r2⟩ := point_at s
  have A2 := Hid.mk (fun w => zzad_false _ w (by rw [ByteArray.size_append]; show 1 + s.size ≤ 1000; omega) 0 q1 q2)
  have A3 := Hid.mk (fun w => zzad_false _ w (by rw [ByteArray.size_append]; show s.size + 1 ≤ 1000; omega) s.size r1 r2)
  clear q1 q2 r1 r2 hd
  go_wp2_with fail
  refine (A1.out _).mono ?_
  rintro e w' ⟨rfl, rfl⟩
  go_wp2_with fail
  refine (A2.out _).mono ?_
  rintro e w' ⟨rfl, rfl⟩
  go_wp2_with fail
  refine (A3.out _).mono ?_
  rintro e w' ⟨rfl, rfl⟩
  go_wp2
  go_ret
  exact ⟨rfl, hg⟩
end Go.Proofs.Qxb6600571aMods
