/-
  Contracts of 'indexBlank' (function 10), 'zzs4409cblank' (11), 'zzs4409cpick' (12).
-/
import Derived.Test.YbulkcmhcRows
import Derived.Test.YbulkcmhcFst
import Derived.WalkKit
namespace Go.Proofs.Ybulkcmhc.Blank
open Go.RowKit

theorem ret_bool {a b : Bool} (h : a = b) : Ending.returned (.bool a) = .returned (.bool b) := by rw [h]
theorem ret_int {k : IntKind} {a b : Int} (h : a = b) : Ending.returned (.int k a) = .returned (.int k b) := by rw [h]

theorem blank (c : Int) (w : World) : Calls Yba.prog 11 #[.int .u8 c] w fun e w' => e = .returned (.bool (blankB c)) ∧ w' = w := by
  by_cases h : c = 32
  · subst h
    go_enter Yba.func11, Yba.ntmps11
    go_wp2
    go_ret
    exact ⟨rfl, rfl⟩
  · have h1 : (c == 32) = false := by simpa using h
    go_enter Yba.func11, Yba.ntmps11
    go_wp2
    go_ret
    exact ⟨ret_bool (a := (c == 9)) (by unfold blankB; rw [h1]; rfl), rfl⟩

theorem pick_at (c n : Int) (h : c % 6 = n) : pickB c = if n = 0 then 32 else if n = 1 then 9 else if n = 2 then 97 else if n = 3 then 10 else if n = 4 then 49 else 255 := by
  unfold pickB; rw [h]

set_option maxHeartbeats 400000 in
theorem pick (c : Int) (w : World) (h0 : 0 ≤ c) (h1 : c ≤ 255) : Calls Yba.prog 12 #[.int .u8 c] w fun e w' => e = .returned (.int .u8 (pickB c)) ∧ w' = w := by
  have h6 : c % 6 = 0 ∨ c % 6 = 1 ∨ c % 6 = 2 ∨ c % 6 = 3 ∨ c % 6 = 4 ∨ c % 6 = 5 := by omega
  rcases h6 with h | h | h | h | h | h
  all_goals
    have e := pick_at c _ h
    simp only [reduceIte, Int.reduceEq] at e
    rw [e]
    clear e
    go_enter Yba.func12, Yba.ntmps12
    go_wp2
    go_ret
    exact ⟨rfl, rfl⟩

theorem blank_of {c : Int} (h : c = 32 ∨ c = 9) : blankB c = true := by unfold blankB; simpa using h
theorem not_blank {c : Int} (h : ¬ c = 32) (h' : ¬ c = 9) : blankB c = false := by unfold blankB; simp [h, h']

set_option maxHeartbeats 400000 in
theorem index (b off len cap : Nat) (f : Nat → Int) (w : World) (hl : len ≤ 9223372036854775807)
    (hc : ∀ i, i < len → w.cell? ⟨b, off + i, none⟩ = some (.int .u8 (f i))) :
    Calls Yba.prog 10 #[.slice (some ⟨b, off, none⟩) len cap] w fun e w' => ∃ r, e = .returned (.int .i64 r) ∧ Fst (fun i => blankB (f i)) len r ∧ w' = w := by
  go_enter Yba.func10, Yba.ntmps10
  go_wp2
  go_loop [6] (fun i => ∃ k : Nat, k ≤ len ∧ i = .int .i64 k ∧ ∀ j, j < k → blankB (f j) = false) (fun i => len - (intOf i).toNat)
  case atStart => exact ⟨0, Nat.zero_le _, rfl, fun j hj => absurd hj (Nat.not_lt_zero _)⟩
  case round =>
    obtain ⟨k, hk, rfl, hno⟩ := hrel
    by_cases hlt : k < len
    · have hcell := hc k hlt
      by_cases h1 : f k = 32
      · have hB := blank_of (Or.inl h1)
        go_wp2
        go_ret
        exact ⟨_, rfl, Fst.some hlt hB hno, rfl⟩
      · have h1' : (f k == 32) = false := by simpa using h1
        by_cases h2 : f k = 9
        · have hB := blank_of (Or.inr h2)
          go_wp2
          go_ret
          exact ⟨_, rfl, Fst.some hlt hB hno, rfl⟩
        · have h2' : (f k == 9) = false := by simpa using h2
          have hB := not_blank h1 h2
          have HS : Hid (∀ j, j < k + 1 → blankB (f j) = false) := none_succ (p := fun i => blankB (f i)) hno hB
          clear hB
          go_wp2
          go_round
          case rel => exact ⟨k + 1, by omega, by go_num, HS.out⟩
          case measure => simp [intOf]; omega
    · have e : k = len := by omega
      subst e
      go_wp2
      go_ret
      exact ⟨_, rfl, Fst.none hno, rfl⟩

theorem index_empty (a : Option Addr) (cap : Nat) (w : World) :
    Calls Yba.prog 10 #[.slice a 0 cap] w fun e w' => e = .returned (.int .i64 (-1)) ∧ w' = w := by
  go_enter Yba.func10, Yba.ntmps10
  go_wp2
  refine wp_loop_rounds 1 ?_
  rw [rounds_succ]
  go_wp2
  go_ret
  exact ⟨rfl, rfl⟩
end Go.Proofs.Ybulkcmhc.Blank
