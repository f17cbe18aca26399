/-
  The walk of LawS4409CBuilt.
-/
import Derived.Test.YbulkcmhcRows
import Derived.Test.YbulkcmhcFst
import Derived.Test.YbulkcmhcBlank
import Derived.WalkKit
import Derived.WalkSpells
import Derived.WalkSmall
namespace Go.Proofs.Ybulkcmhc.Built
open Go.RowKit

theorem info5 : (Yba.prog.info? 5).map (fun i => (i.zero, i.size, i.bytes)) = some (some (.int .u8 0), 1, 1) := by kernel_rfl

/-- The line in the making: the first k bytes are picked, the rest are as 'make' laid them; nothing below block g has turned. -/
structure Line (w wr : World) (f : Nat → Int) (len k : Nat) : Prop where
  done : ∀ i, i < k → wr.cell? ⟨w.heap.size, i, none⟩ = some (.int .u8 (pickB (f i)))
  rest : ∀ i, k ≤ i → i < len → wr.cell? ⟨w.heap.size, i, none⟩ = some (.int .u8 0)
  free : ∀ i, wr.frozen? ⟨w.heap.size, i, none⟩ = false
  below : Below w.heap.size w wr

theorem Line.made {w w1 : World} {f : Nat → Int} {len : Nat}
    (hown : w1.ownsRow w.heap.size 5 1 (.slice (some ⟨w.heap.size, 0, none⟩) len len) len (madeCells (Value.int .u8 0).cells (len * 1)).toList) (hgrow : w.grownBy w1 none) : Line w w1 f len 0 := by
  refine ⟨fun i hi => absurd hi (Nat.not_lt_zero _), fun i _ hi => ?_, fun i => hown.frozenAt i, (Below.refl _ _).grown hgrow (Nat.le_refl _) (by intro k hk; cases hk)⟩
  rw [hown.cellAt i (by omega), Nat.mul_one]
  show (madeCells #[Value.int .u8 0] len).toList[i]? = _
  rw [toList_madeCells_one]
  simp [hi]

theorem Line.step {w wr : World} {f : Nat → Int} {len k : Nat} (h : Line w wr f len k) (hk : k < len) : Line w (wr.setCell ⟨w.heap.size, k, none⟩ (.int .u8 (pickB (f k)))) f len (k + 1) := by
  refine ⟨fun i hi => ?_, fun i h1 h2 => ?_, fun i => ?_, ?_⟩
  · by_cases e : i = k
    · subst e
      exact World.cell?_setCell_same' _ _ _ (by rw [h.rest i (Nat.le_refl _) hk]; rfl)
    · rw [World.cell?_setCell_other (a := ⟨w.heap.size, k, none⟩) (b := ⟨w.heap.size, i, none⟩) (h := fun hh => by rw [Addr.mk.injEq] at hh; omega)]
      exact h.done i (by omega)
  · rw [World.cell?_setCell_other (a := ⟨w.heap.size, k, none⟩) (b := ⟨w.heap.size, i, none⟩) (h := fun hh => by rw [Addr.mk.injEq] at hh; omega)]
    exact h.rest i (by omega) h2
  · rw [World.frozen?_setCell]; exact h.free i
  · exact h.below.setCell (p := ⟨w.heap.size, k, none⟩) (Nat.le_refl _) _

set_option maxHeartbeats 1000000 in
theorem walk_some (b off len cap : Nat) (f : Nat → Int) (w : World) (h1 : 1 ≤ len) (h2 : len ≤ 4096) (hb : b < w.heap.size) (hf : ∀ i, i < len → 0 ≤ f i ∧ f i ≤ 255)
    (hc : ∀ i, i < len → w.cell? ⟨b, off + i, none⟩ = some (.int .u8 (f i))) :
    Calls Yba.prog 6 #[.slice (some ⟨b, off, none⟩) len cap] w fun e w' => e = .returned (.bool true) ∧ Below w.heap.size w w' := by
  obtain ⟨i0, hi, hz0, hz1, hz2⟩ := info_parts info5
  have hd : decide (4096 < (len : Int)) = false := by simp; omega
  go_enter Yba.func6, Yba.ntmps6
  go_wp2_with (at_make; refine wpList_make_full _ rfl (.tmp 12) (.tmp 12) 23 rfl w.heap.size 5 i0 (.int .u8 0) 1 Yba.underlying23 hi hz0 hz1 .i64 .i64 _ _ len rfl rfl (by omega) (by omega) (by rw [hz2]; omega) (by unfold maxLen; omega) (Nat.le_refl _) ?_; intro w1 hown1 hgrow1; have hL1 : Line w w1 f len 0 := Line.made hown1 hgrow1; clear hown1 hgrow1)
  go_loopw [4] (fun i wr => ∃ k : Nat, k ≤ len ∧ i = .int .i64 k ∧ Line w wr f len k) (fun i _ => len - (intOf i).toNat)
  case atStart => exact ⟨0, Nat.zero_le _, rfl, hL1⟩
  case round =>
    obtain ⟨k, hk, rfl, hL⟩ := hrel
    clear hL1
    by_cases hlt : k < len
    · have c1 : wr.cell? ⟨b, off + k, none⟩ = some (.int .u8 (f k)) := (hL.below.cell hb).trans (hc k hlt)
      have c2 := hL.rest k (Nat.le_refl _) hlt
      have c3 := hL.free k
      have hf0 := (hf k hlt).1
      have hf1 := (hf k hlt).2
      go_wp2_with (go_at_call 12; refine (Blank.pick _ _ hf0 hf1).mono ?_; rintro e w' ⟨rfl, rfl⟩)
      go_roundw
      case rel => exact ⟨k + 1, by omega, by go_num, hL.step hlt⟩
      case measure => simp [intOf]; omega
    · have e : k = len := by omega
      subst e
      have hl := hL.done
      have hB := hL.below
      clear hL hc hf
      go_wp2_with fail
      refine (Blank.index w.heap.size 0 k k (fun i => pickB (f i)) wr (by omega) (by simpa using hl)).mono ?_
      rintro e w' ⟨r, rfl, hfst, rfl⟩
      rcases hfst with ⟨rfl, hno⟩ | ⟨m, hm, rfl, hyes, hno⟩
      · go_wp2
        go_loop [6] (fun i => ∃ j : Nat, j ≤ k ∧ i = .int .i64 j) (fun i => k - (intOf i).toNat)
        case atStart => exact ⟨0, Nat.zero_le _, rfl⟩
        case round =>
          obtain ⟨j, hj, rfl⟩ := hrel
          by_cases hjl : j < k
          · have c1 := hl j hjl
            have hn := hno j hjl
            go_wp2_with (go_at_call 11; refine (Blank.blank _ _).mono ?_; rintro e w' ⟨rfl, rfl⟩)
            go_round
            case rel => exact ⟨j + 1, by omega, by go_num⟩
            case measure => simp [intOf]; omega
          · go_wp2
            go_ret
            exact ⟨rfl, hB⟩
      · have c0 := hl m hm
        go_wp2_with (go_at_call 11; refine (Blank.blank _ _).mono ?_; rintro e w' ⟨rfl, rfl⟩)
        go_loop [7] (fun i => ∃ j : Nat, j ≤ m ∧ i = .int .i64 j) (fun i => m - (intOf i).toNat)
        case atStart => exact ⟨0, Nat.zero_le _, rfl⟩
        case round =>
          obtain ⟨j, hj, rfl⟩ := hrel
          by_cases hjl : j < m
          · have c1 := hl j (by omega)
            have hn := hno j hjl
            go_wp2_with (go_at_call 11; refine (Blank.blank _ _).mono ?_; rintro e w' ⟨rfl, rfl⟩)
            go_round
            case rel => exact ⟨j + 1, by omega, by go_num⟩
            case measure => simp [intOf]; omega
          · go_wp2
            go_ret
            exact ⟨rfl, hB⟩

theorem walk_big (a : Option Addr) (len cap : Nat) (w : World) (h : 4096 < len) :
    Calls Yba.prog 6 #[.slice a len cap] w fun e w' => e = .returned (.bool true) ∧ Below w.heap.size w w' := by
  have hd : (4096 : Int) < (len : Int) := by omega
  go_enter Yba.func6, Yba.ntmps6
  go_wp2
  go_ret
  exact ⟨rfl, Below.refl _ _⟩

set_option maxHeartbeats 400000 in
theorem walk_empty (a : Option Addr) (cap : Nat) (w : World) :
    Calls Yba.prog 6 #[.slice a 0 cap] w fun e w' => e = .returned (.bool true) ∧ Below w.heap.size w w' := by
  obtain ⟨i0, hi, hz0, hz1, hz2⟩ := info_parts info5
  go_enter Yba.func6, Yba.ntmps6
  go_wp2_with (at_make; refine wpList_make_full _ rfl (.tmp 12) (.tmp 12) 23 rfl w.heap.size 5 i0 (.int .u8 0) 1 Yba.underlying23 hi hz0 hz1 .i64 .i64 _ _ 0 rfl rfl rfl rfl (by omega) (by decide) (Nat.le_refl _) ?_; intro w1 hown1 hgrow1; have hB1 : Below w.heap.size w w1 := (Below.refl _ _).grown hgrow1 (Nat.le_refl _) (by intro k hk; cases hk); clear hown1 hgrow1)
  refine wp_loop_rounds 1 ?_
  rw [rounds_succ]
  go_wp2_with (go_at_call 10; refine (Blank.index_empty _ _ _).mono ?_; rintro e w' ⟨rfl, rfl⟩)
  refine wp_loop_rounds 1 ?_
  rw [rounds_succ]
  go_wp2
  go_ret
  exact ⟨rfl, by assumption⟩
end Go.Proofs.Ybulkcmhc.Built
