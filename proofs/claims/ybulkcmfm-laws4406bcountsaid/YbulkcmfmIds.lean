/-
  The two byte tests of package ids by their contracts: 'IsRequestIDByte' (function 9) and the table's model (function 10), each answers membership in the list of the 65 allowed bytes.
-/
import Derived.Test.YbulkcmfmRows
import Derived.WalkKit
namespace Go.Proofs.Ybulkcmfm.Ids
open Go.RowKit

/-- The 65 allowed bytes, in the table's order. -/
def table : List UInt8 := [97, 98, 99, 100, 101, 102, 103, 104, 105, 106, 107, 108, 109, 110, 111, 112, 113, 114, 115, 116, 117, 118, 119, 120, 121, 122, 65, 66, 67, 68, 69, 70, 71, 72, 73, 74, 75, 76, 77, 78, 79, 80, 81, 82, 83, 84, 85, 86, 87, 88, 89, 90, 48, 49, 50, 51, 52, 53, 54, 55, 56, 57, 46, 95, 45]

/-- Is the number one of the allowed bytes? -/
def okB (c : Int) : Bool := (decide (97 ≤ c) && decide (c ≤ 122)) || (decide (65 ≤ c) && decide (c ≤ 90)) || (decide (48 ≤ c) && decide (c ≤ 57)) || c == 46 || c == 95 || c == 45

/-- Is it among the table's first k bytes? -/
def hitB (c : Int) (k : Nat) : Bool := (table.take k).any fun b => ((b.toNat : Nat) : Int) == c

theorem ret_bool {a b : Bool} (h : a = b) : Ending.returned (.bool a) = .returned (.bool b) := by rw [h]

set_option maxHeartbeats 1000000 in
theorem isreq (c : Int) (w : World) (h0 : 0 ≤ c) (h1 : c ≤ 255) :
    Calls Yba.prog 9 #[.int .u8 c] w fun e w' => e = .returned (.bool (okB c)) ∧ w' = w := by
  have hw : c < 45 ∨ c = 45 ∨ c = 46 ∨ c = 47 ∨ (48 ≤ c ∧ c ≤ 57) ∨ (58 ≤ c ∧ c ≤ 64) ∨ (65 ≤ c ∧ c ≤ 90) ∨ (91 ≤ c ∧ c ≤ 94) ∨ c = 95 ∨ c = 96 ∨ (97 ≤ c ∧ c ≤ 122) ∨ 123 ≤ c := by omega
  rcases hw with h | rfl | rfl | rfl | ⟨h, h'⟩ | ⟨h, h'⟩ | ⟨h, h'⟩ | ⟨h, h'⟩ | rfl | rfl | ⟨h, h'⟩ | h
  all_goals
    first
    | (rw [show okB _ = true by simp [okB]; try omega]
       go_enter Yba.func9, Yba.ntmps9
       go_wp2
       go_ret
       first | exact ⟨rfl, rfl⟩ | exact ⟨ret_bool (a := (c == 46 || c == 95 || c == 45)) (by simp; omega), rfl⟩)
    | (rw [show okB _ = false by simp [okB]; try omega]
       go_enter Yba.func9, Yba.ntmps9
       go_wp2
       go_ret
       first | exact ⟨rfl, rfl⟩ | exact ⟨ret_bool (a := (c == 46 || c == 95 || c == 45)) (by simp; omega), rfl⟩)

theorem hit_succ (c : Int) (k : Nat) (h : k < table.length) : hitB c (k + 1) = (hitB c k || (((table[k].toNat : Nat) : Int) == c)) := by
  unfold hitB
  rw [List.take_succ_eq_append_getElem h, List.any_append]
  simp

/-- The plain law: the two descriptions agree at every byte. -/
theorem agree_nat : ∀ n : Fin 256, hitB (n.val : Int) 65 = okB (n.val : Int) := by decide +kernel
theorem agree (c : Int) (h0 : 0 ≤ c) (h1 : c ≤ 255) : hitB c 65 = okB c := by
  obtain ⟨n, rfl⟩ := Int.eq_ofNat_of_zero_le h0
  exact agree_nat ⟨n, by omega⟩

theorem hit_mono (c : Int) (k n : Nat) (hk : k ≤ n) (h : hitB c k = true) : hitB c n = true := by
  unfold hitB at h ⊢
  rw [List.any_eq_true] at h ⊢
  obtain ⟨x, hx, hc⟩ := h
  exact ⟨x, (List.take_subset_take_left table hk) hx, hc⟩
/-- The table as the walk spells it. -/
theorem hit_here (c : Int) (k : Nat) (hk : k < 65) (hs : k < ({ data := #[97, 98, 99, 100, 101, 102, 103, 104, 105, 106, 107, 108, 109, 110, 111, 112, 113, 114, 115, 116, 117, 118, 119, 120, 121, 122, 65, 66, 67, 68, 69, 70, 71, 72, 73, 74, 75, 76, 77, 78, 79, 80, 81, 82, 83, 84, 85, 86, 87, 88, 89, 90, 48, 49, 50, 51, 52, 53, 54, 55, 56, 57, 46, 95, 45] } : ByteArray).size)
    (h : ((((({ data := #[97, 98, 99, 100, 101, 102, 103, 104, 105, 106, 107, 108, 109, 110, 111, 112, 113, 114, 115, 116, 117, 118, 119, 120, 121, 122, 65, 66, 67, 68, 69, 70, 71, 72, 73, 74, 75, 76, 77, 78, 79, 80, 81, 82, 83, 84, 85, 86, 87, 88, 89, 90, 48, 49, 50, 51, 52, 53, 54, 55, 56, 57, 46, 95, 45] } : ByteArray)[k]'hs).toNat : Nat) : Int) == c) = true) : hitB c 65 = true := by
  refine hit_mono c (k + 1) 65 (by omega) ?_
  rw [hit_succ c k (by simpa [table] using hk), Bool.or_eq_true]
  exact Or.inr h
theorem hit_not (c : Int) (k : Nat) (hk : k < 65) (hs : k < ({ data := #[97, 98, 99, 100, 101, 102, 103, 104, 105, 106, 107, 108, 109, 110, 111, 112, 113, 114, 115, 116, 117, 118, 119, 120, 121, 122, 65, 66, 67, 68, 69, 70, 71, 72, 73, 74, 75, 76, 77, 78, 79, 80, 81, 82, 83, 84, 85, 86, 87, 88, 89, 90, 48, 49, 50, 51, 52, 53, 54, 55, 56, 57, 46, 95, 45] } : ByteArray).size)
    (h0 : hitB c k = false) (h : ((((({ data := #[97, 98, 99, 100, 101, 102, 103, 104, 105, 106, 107, 108, 109, 110, 111, 112, 113, 114, 115, 116, 117, 118, 119, 120, 121, 122, 65, 66, 67, 68, 69, 70, 71, 72, 73, 74, 75, 76, 77, 78, 79, 80, 81, 82, 83, 84, 85, 86, 87, 88, 89, 90, 48, 49, 50, 51, 52, 53, 54, 55, 56, 57, 46, 95, 45] } : ByteArray)[k]'hs).toNat : Nat) : Int) == c) = false) : hitB c (k + 1) = false := by
  rw [hit_succ c k (by simpa [table] using hk), h0, Bool.false_or]
  exact h

set_option maxHeartbeats 400000 in
theorem model (c : Int) (w : World) :
    Calls Yba.prog 10 #[.int .u8 c] w fun e w' => e = .returned (.bool (hitB c 65)) ∧ w' = w := by
  go_enter Yba.func10, Yba.ntmps10
  go_wp2
  go_loop [3] (fun i => ∃ k : Nat, k ≤ 65 ∧ i = .int .i64 k ∧ hitB c k = false) (fun i => 65 - (intOf i).toNat)
  case atStart => exact ⟨0, by omega, rfl, rfl⟩
  case round =>
    obtain ⟨k, hk, rfl, hno⟩ := hrel
    by_cases hlt : k < 65
    · go_wp2
      · have hh := hit_here c k hlt (by exact hlt) (by assumption)
        go_ret
        exact ⟨ret_bool hh.symm, rfl⟩
      · have hh := hit_not c k hlt (by exact hlt) hno (by assumption)
        go_round
        case rel => exact ⟨k + 1, by omega, by go_num, hh⟩
        case measure => simp [intOf]; omega
    · have e : k = 65 := by omega
      subst e
      go_wp2
      go_ret
      exact ⟨rfl, rfl⟩
/-- The model, in the words of the test. -/
theorem model_ok (c : Int) (w : World) (h0 : 0 ≤ c) (h1 : c ≤ 255) :
    Calls Yba.prog 10 #[.int .u8 c] w fun e w' => e = .returned (.bool (okB c)) ∧ w' = w := by
  rw [← agree c h0 h1]
  exact model c w

/-- How many of the first k byte values are allowed. -/
def cnt : Nat → Nat
  | 0 => 0
  | k + 1 => cnt k + (if okB (k : Int) then 1 else 0)
theorem cnt_le (k : Nat) : cnt k ≤ k := by
  induction k with
  | zero => exact Nat.le_refl _
  | succ k ih => simp only [cnt]; split <;> omega
theorem cnt_all : cnt 256 = 65 := by decide +kernel

end Go.Proofs.Ybulkcmfm.Ids
