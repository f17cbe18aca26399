/-
  The walk of LawS4409CModel, at a slice that has an element.
-/
import Derived.Test.YbulkcmhcRows
import Derived.Test.YbulkcmhcFst
import Derived.Test.YbulkcmhcBlank
import Derived.WalkKit
import Derived.WalkSpells
import Derived.Laws.CopyOwn
import Derived.Deep.QuietTactic
import Derived.BigQuiet
import Derived.WalkSmall
namespace Go.Proofs.Ybulkcmhc.Model
open Go.RowKit

theorem info5 : (Yba.prog.info? 5).map (fun i => (i.zero, i.size, i.bytes)) = some (some (.int .u8 0), 1, 1) := by kernel_rfl
theorem size5 : (Yba.prog.info? 5).map (·.size) = some 1 := by kernel_rfl

/-- The bytes f 0, .., f (len - 1), as cells. A name of its own: the walk leaves it standing. -/
def rowOf (f : Nat → Int) (len : Nat) : List Value := (List.range len).map fun i => .int .u8 (f i)
theorem rowOf_len (f : Nat → Int) (len : Nat) : (rowOf f len).length = len := by simp [rowOf]
theorem rowOf_at (f : Nat → Int) (len i : Nat) (h : i < len) : (rowOf f len)[i]? = some (.int .u8 (f i)) := by simp [rowOf, h]
theorem rowOf_one (f : Nat → Int) (len : Nat) : ∀ v ∈ rowOf f len, v.oneCell' = true := by
  intro v hv
  simp only [rowOf, List.mem_map] at hv
  obtain ⟨i, _, rfl⟩ := hv
  rfl
/-- The row of zeros that 'make' lays. -/
def zerosOf (len : Nat) : List Value := (madeCells (Value.int .u8 0).cells (len * 1)).toList
theorem zerosOf_len (len : Nat) : (zerosOf len).length = len := by
  unfold zerosOf
  rw [Nat.mul_one]
  show (madeCells #[Value.int .u8 0] len).toList.length = len
  rw [toList_madeCells_one]
  simp
theorem splice_all (f : Nat → Int) (len : Nat) : splice (zerosOf len) 0 (rowOf f len) = rowOf f len := by
  unfold splice
  rw [List.drop_eq_nil_of_le (by rw [zerosOf_len, rowOf_len]; omega)]
  simp

/-- From place m on: the first index that p picks, or -1. -/
def From (p : Nat → Bool) (m n : Nat) (r : Int) : Prop :=
  (r = -1 ∧ ∀ i, m ≤ i → i < n → p i = false) ∨ ∃ k : Nat, m ≤ k ∧ k < n ∧ r = (k : Int) ∧ p k = true ∧ ∀ i, m ≤ i → i < k → p i = false
theorem From.end_ (p : Nat → Bool) (n : Nat) : From p n n (-1) := Or.inl ⟨rfl, fun i h1 h2 => by omega⟩
theorem From.fst {p : Nat → Bool} {n : Nat} {r : Int} (h : From p 0 n r) : Fst p n r := by
  rcases h with ⟨rfl, h⟩ | ⟨k, _, hk, rfl, h1, h2⟩
  · exact Fst.none fun i hi => h i (Nat.zero_le _) hi
  · exact Fst.some hk h1 fun i hi => h2 i (Nat.zero_le _) hi
theorem From.hit {p : Nat → Bool} {m n : Nat} (h : m < n) (hp : p m = true) : From p m n (m : Int) := Or.inr ⟨m, Nat.le_refl _, h, rfl, hp, fun i h1 h2 => by omega⟩
theorem From.miss {p : Nat → Bool} {m n : Nat} {r : Int} (h : From p (m + 1) n r) (hp : p m = false) : From p m n r := by
  rcases h with ⟨rfl, h⟩ | ⟨k, hk0, hk, rfl, h1, h2⟩
  · refine Or.inl ⟨rfl, fun i hi hn => ?_⟩
    rcases Nat.eq_or_lt_of_le hi with rfl | hlt
    · exact hp
    · exact h i hlt hn
  · refine Or.inr ⟨k, by omega, hk, rfl, h1, fun i hi hn => ?_⟩
    rcases Nat.eq_or_lt_of_le hi with rfl | hlt
    · exact hp
    · exact h2 i hlt hn

/-- A slice as long as its capacity owns its whole block. -/
theorem row_full {w : World} {base : Nat} {e : TypeId} {size g n : Nat} {xs : List Value} (h : w.ownsRow base e size (.slice (some ⟨g, 0, none⟩) n n) n xs) : w.heap[g]? = some (.cells xs.toArray e (0, 0)) := by
  rcases h.2 with ⟨h0, _⟩ | ⟨g', cap, cur, hv, _, hg, _, _, hs, ht⟩
  · cases h0
  · simp only [Value.slice.injEq, Option.some.injEq, Addr.mk.injEq, and_true, true_and] at hv
    obtain ⟨rfl, rfl⟩ := hv
    rw [hg, ← ht, List.take_of_length_le (by simp [hs])]

theorem cell_row {w : World} {g : Nat} {f : Nat → Int} {len : Nat} (h : w.heap[g]? = some (.cells (rowOf f len).toArray 5 (0, 0))) (i : Nat) (hi : i < len) : w.cell? ⟨g, i, none⟩ = some (.int .u8 (f i)) := by
  rw [cell_of_row w g i _ 5 (0, 0) h]
  simpa using rowOf_at f len i hi

theorem add_off (b off j : Nat) : (⟨b, off, none⟩ : Addr).add j = ⟨b, off + j, none⟩ := by unfold Addr.add; split <;> simp_all

/-- 'copy(c, s)', c the new row as long as s. -/
theorem copied {w w1 : World} {b off len cap : Nat} {f : Nat → Int} (hb : b < w.heap.size) (hc : ∀ i, i < len → w.cell? ⟨b, off + i, none⟩ = some (.int .u8 (f i)))
    (hg1 : w1.heap[w.heap.size]? = some (.cells (zerosOf len).toArray 5 (0, 0))) (hB1 : Below w.heap.size w w1) :
    ∃ w2, (Builtin.copy_ #[23, 23] 3 #[.slice (some ⟨w.heap.size, 0, none⟩) len len, .slice (some ⟨b, off, none⟩) len cap]).run Yba.prog w1 = .ok (.int .i64 len) w2 ∧
      w2.heap[w.heap.size]? = some (.cells (rowOf f len).toArray 5 (0, 0)) ∧ Below w.heap.size w w2 := by
  have hrun := run_copy_row (P := Yba.prog) w1 23 23 3 5 w.heap.size 0 len len ⟨b, off, none⟩ len cap (zerosOf len).toArray 5 (rowOf f len) Yba.underlying23 size5 hg1
    (by rw [rowOf_len]; exact (Nat.min_self _).symm) ?_ (by simp [rowOf_len, zerosOf_len]) (rowOf_one f len)
  · have e := splice_all f len
    unfold splice at e
    rw [List.append_assoc, List.toList_toArray, e, rowOf_len] at hrun
    exact ⟨w1.setRow w.heap.size (rowOf f len).toArray, hrun, setRow_heap w1 _ _ _ 5 _ hg1, below_setRow hB1 (Nat.le_refl _) _⟩
  · intro j v hj
    have hlt : j < len := by have := (List.getElem?_eq_some_iff.1 hj).1; rwa [rowOf_len] at this
    rw [rowOf_at f len j hlt] at hj
    rw [add_off, hB1.cell hb, hc j hlt]
    exact hj

set_option maxHeartbeats 1000000 in
theorem walk_some (b off len cap : Nat) (f : Nat → Int) (w : World) (h1 : 1 ≤ len) (h2 : len ≤ 4096) (hb : b < w.heap.size)
    (hc : ∀ i, i < len → w.cell? ⟨b, off + i, none⟩ = some (.int .u8 (f i))) :
    Calls Yba.prog 5 #[.slice (some ⟨b, off, none⟩) len cap] w fun e w' => e = .returned (.bool true) ∧ Below w.heap.size w w' := by
  obtain ⟨i0, hi, hz0, hz1, hz2⟩ := info_parts info5
  have q23 := fun (w : World) (a : Option Addr) (n c n' c' : Nat) => run_neq_slice_nil_any (P := Yba.prog) w 23 5 a n c n' c' Yba.underlying23
  have hd : decide (4096 < (len : Int)) = false := by simp; omega
  go_enter Yba.func5, Yba.ntmps5
  go_wp2_with (at_make; refine wpList_make_full _ rfl (.tmp 14) (.tmp 14) 23 rfl w.heap.size 5 i0 (.int .u8 0) 1 Yba.underlying23 hi hz0 hz1 .i64 .i64 _ _ len rfl rfl (by omega) (by omega) (by rw [hz2]; omega) (by unfold maxLen; omega) (Nat.le_refl _) ?_; intro w1 hown1 hgrow1; have hg1 : w1.heap[w.heap.size]? = some (.cells (zerosOf len).toArray 5 (0, 0)) := row_full hown1; have hB1 : Below w.heap.size w w1 := (Below.refl _ _).grown hgrow1 (Nat.le_refl _) (by intro k hk; cases hk); clear hown1 hgrow1; obtain ⟨w2, hrun, hg2, hB2⟩ := copied (cap := cap) hb hc hg1 hB1; clear hg1 hB1)
  have hn : ∀ i, i < len → w2.cell? ⟨w.heap.size, i, none⟩ = some (.int .u8 (f i)) := cell_row hg2
  have ho : ∀ i, i < len → w2.cell? ⟨b, off + i, none⟩ = some (.int .u8 (f i)) := fun i hi => (hB2.cell hb).trans (hc i hi)
  clear hg2 hc hrun
  refine (Blank.index w.heap.size 0 len len f w2 (by omega) (by simpa using hn)).mono ?_
  rintro e w' ⟨r, rfl, hfst, rfl⟩
  have HF : Hid (Fst (fun i => blankB (f i)) len r) := hfst
  clear hfst
  go_wp2
  go_loop [5, 6] (fun v j => ∃ (m : Nat) (q : Int), m ≤ len ∧ j = .int .i64 ((m : Int) - 1) ∧ v = .int .i64 q ∧ From (fun i => blankB (f i)) m len q) (fun _ j => (intOf j + 1).toNat)
  case atStart => exact ⟨len, -1, Nat.le_refl _, rfl, rfl, From.end_ _ _⟩
  case round =>
    obtain ⟨m, q, hm, rfl, rfl, hF⟩ := hrel
    by_cases h0 : m = 0
    · subst h0
      have e : q = r := (From.fst hF).unique HF.out
      subst e
      clear hF HF
      go_wp2
      go_loopw [7] (fun i wr => ∃ k : Nat, k ≤ len ∧ i = .int .i64 k ∧ (∀ i, i < len → wr.cell? ⟨w.heap.size, i, none⟩ = some (.int .u8 (f i))) ∧ (∀ i, i < len → wr.cell? ⟨b, off + i, none⟩ = some (.int .u8 (f i))) ∧ Below w.heap.size w wr) (fun i _ => len - (intOf i).toNat)
      case atStart => exact ⟨0, Nat.zero_le _, rfl, hn, ho, hB2⟩
      case round =>
        obtain ⟨k, hk, rfl, hn', ho', hB'⟩ := hrel
        clear hn ho hB2
        by_cases hlt : k < len
        · have c1 := hn' k hlt
          have c2 := ho' k hlt
          have hlt' : (k : Int) < (len : Int) := by omega
          go_wp2
          go_quiet (fail)
          go_wp2
          go_roundw
          case rel => exact ⟨k + 1, by omega, by go_num, hn', ho', below_drewN hB' _⟩
          case measure => simp [intOf]; omega
        · go_wp2
          go_ret
          exact ⟨rfl, hB'⟩
    · obtain ⟨m', rfl⟩ : ∃ m', m = m' + 1 := ⟨m - 1, by omega⟩
      rw [show ((m' + 1 : Nat) : Int) - 1 = (m' : Int) by omega]
      have c1 := ho m' (by omega)
      cases hbl : blankB (f m') with
      | true =>
        go_wp2_with (go_at_call 11; refine (Blank.blank _ _).mono ?_; rintro e w' ⟨rfl, rfl⟩)
        go_round
        case rel => exact ⟨m', (m' : Int), by omega, rfl, rfl, From.hit (by omega) hbl⟩
        case measure => simp [intOf]
      | false =>
        go_wp2_with (go_at_call 11; refine (Blank.blank _ _).mono ?_; rintro e w' ⟨rfl, rfl⟩)
        go_round
        case rel => exact ⟨m', q, by omega, rfl, rfl, From.miss hF hbl⟩
        case measure => simp [intOf]

theorem walk_big (a : Option Addr) (len cap : Nat) (w : World) (h : 4096 < len) :
    Calls Yba.prog 5 #[.slice a len cap] w fun e w' => e = .returned (.bool true) ∧ Below w.heap.size w w' := by
  have hd : (4096 : Int) < (len : Int) := by omega
  go_enter Yba.func5, Yba.ntmps5
  go_wp2
  go_ret
  exact ⟨rfl, Below.refl _ _⟩

set_option maxHeartbeats 400000 in
theorem walk_nil (cap : Nat) (w : World) :
    Calls Yba.prog 5 #[.slice none 0 cap] w fun e w' => e = .returned (.bool true) ∧ Below w.heap.size w w' := by
  have q23 := fun (w : World) (a : Option Addr) (n c n' c' : Nat) => run_neq_slice_nil_any (P := Yba.prog) w 23 5 a n c n' c' Yba.underlying23
  go_enter Yba.func5, Yba.ntmps5
  go_wp2_with (go_at_call 10; refine (Blank.index_empty _ _ _).mono ?_; rintro e w' ⟨rfl, rfl⟩)
  refine wp_loop_rounds 1 ?_
  rw [rounds_succ]
  go_wp2
  refine wp_loop_rounds 1 ?_
  rw [rounds_succ]
  go_wp2
  go_ret
  exact ⟨rfl, Below.refl _ _⟩

set_option maxHeartbeats 400000 in
theorem walk_empty (x : Addr) (cap : Nat) (w : World) :
    Calls Yba.prog 5 #[.slice (some x) 0 cap] w fun e w' => e = .returned (.bool true) ∧ Below w.heap.size w w' := by
  obtain ⟨i0, hi, hz0, hz1, hz2⟩ := info_parts info5
  have q23 := fun (w : World) (a : Option Addr) (n c n' c' : Nat) => run_neq_slice_nil_any (P := Yba.prog) w 23 5 a n c n' c' Yba.underlying23
  have hcp := fun (w1 : World) (d : Option Addr) => run_copy_none (P := Yba.prog) w1 23 23 3 5 d (some x) 0 0 0 cap Yba.underlying23 size5 rfl
  go_enter Yba.func5, Yba.ntmps5
  go_wp2_with (first | (at_make; refine wpList_make_full _ rfl (.tmp 14) (.tmp 14) 23 rfl w.heap.size 5 i0 (.int .u8 0) 1 Yba.underlying23 hi hz0 hz1 .i64 .i64 _ _ 0 rfl rfl rfl rfl (by omega) (by decide) (Nat.le_refl _) ?_; intro w1 hown1 hgrow1; have hB1 : Below w.heap.size w w1 := (Below.refl _ _).grown hgrow1 (Nat.le_refl _) (by intro k hk; cases hk); clear hown1 hgrow1) | (go_at_call 10; refine (Blank.index_empty _ _ _).mono ?_; rintro e w' ⟨rfl, rfl⟩))
  refine wp_loop_rounds 1 ?_
  rw [rounds_succ]
  go_wp2
  refine wp_loop_rounds 1 ?_
  rw [rounds_succ]
  go_wp2
  go_ret
  exact ⟨rfl, by assumption⟩
end Go.Proofs.Ybulkcmhc.Model
