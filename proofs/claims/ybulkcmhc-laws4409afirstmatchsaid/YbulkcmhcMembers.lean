/-
  Contracts of 'memberIndex' (function 8), 'zzs4409afirst' (9), 'zzs4409abuild' (7).
-/
import Derived.Test.YbulkcmhcRows
import Derived.Test.YbulkcmhcFst
import Derived.WalkKit
import Derived.WalkSpells
import Derived.WalkSmall
import Derived.Deep.QuietTactic
import Derived.BigQuiet
import Derived.Laws.BytesArg
namespace Go.Proofs.Ybulkcmhc.Members
open Go.RowKit

theorem ret_int {k : IntKind} {a b : Int} (h : a = b) : Ending.returned (.int k a) = .returned (.int k b) := by rw [h]

/-- Two strings are the same, as the walk asks it. A name of its own. -/
def eqB (a b : ByteArray) : Bool := a.toList == b.toList

set_option maxHeartbeats 400000 in
theorem first (b off len cap : Nat) (ns : Nat → ByteArray) (q : ByteArray) (w : World) (hl : len ≤ 1024)
    (hc : ∀ i, i < len → w.cell? ⟨b, off + i, none⟩ = some (.string (ns i))) :
    Calls Yba.prog 9 #[.slice (some ⟨b, off, none⟩) len cap, .string q] w fun e w' => ∃ r, e = .returned (.int .i64 r) ∧ Fst (fun i => eqB (ns i) q) len r ∧ w' = w := by
  go_enter Yba.func9, Yba.ntmps9
  go_wp2
  go_loop [5] (fun i => ∃ k : Nat, k ≤ len ∧ i = .int .i64 k ∧ ∀ j, j < k → eqB (ns j) q = false) (fun i => len - (intOf i).toNat)
  case atStart => exact ⟨0, Nat.zero_le _, rfl, fun j hj => absurd hj (Nat.not_lt_zero _)⟩
  case round =>
    obtain ⟨k, hk, rfl, hno⟩ := hrel
    by_cases hlt : k < len
    · have hcell := hc k hlt
      cases hb : ((ns k).toList == q.toList) with
      | true =>
        go_wp2
        go_ret
        exact ⟨_, rfl, Fst.some hlt (show eqB (ns k) q = true from hb) hno, rfl⟩
      | false =>
        have HN : Hid (∀ j, j < k + 1 → eqB (ns j) q = false) := none_succ (p := fun i => eqB (ns i) q) hno (show eqB (ns k) q = false from hb)
        go_wp2
        go_round
        case rel => exact ⟨k + 1, by omega, by go_num, HN.out⟩
        case measure => simp [intOf]; omega
    · have e : k = len := by omega
      subst e
      go_wp2
      go_ret
      exact ⟨_, rfl, Fst.none hno, rfl⟩

theorem first_empty (a : Option Addr) (cap : Nat) (q : ByteArray) (w : World) :
    Calls Yba.prog 9 #[.slice a 0 cap, .string q] w fun e w' => e = .returned (.int .i64 (-1)) ∧ w' = w := by
  go_enter Yba.func9, Yba.ntmps9
  go_wp2
  refine wp_loop_rounds 1 ?_
  rw [rounds_succ]
  go_wp2
  go_ret
  exact ⟨rfl, rfl⟩

theorem index_empty (a : Option Addr) (cap : Nat) (v : Value) (w : World) :
    Calls Yba.prog 8 #[.slice a 0 cap, v] w fun e w' => e = .returned (.int .i64 (-1)) ∧ w' = w := by
  go_enter Yba.func8, Yba.ntmps8
  go_wp2
  refine wp_loop_rounds 1 ?_
  rw [rounds_succ]
  go_wp2
  go_ret
  exact ⟨rfl, rfl⟩

set_option maxHeartbeats 400000 in
theorem index (g len cap : Nat) (na : Option Addr) (nl nc : Nat) (ns : Nat → ByteArray) (q : ByteArray) (w : World) (hl : len ≤ 1024)
    (hc : ∀ i, i < len → w.cell? ⟨g, i * 2, none⟩ = some (.string (ns i)))
    (hcv : ∀ n, (convert 23 9 (.slice na nl nc)).run Yba.prog (w.drewN n) = .ok (.string q) (w.drewN n)) :
    Calls Yba.prog 8 #[.slice (some ⟨g, 0, none⟩) len cap, .slice na nl nc] w fun e w' => ∃ r, e = .returned (.int .i64 r) ∧ Fst (fun i => eqB (ns i) q) len r ∧ ∃ n, w' = w.drewN n := by
  go_enter Yba.func8, Yba.ntmps8
  go_wp2
  go_loopw [8] (fun i wr => ∃ k n : Nat, k ≤ len ∧ i = .int .i64 k ∧ wr = w.drewN n ∧ ∀ j, j < k → eqB (ns j) q = false) (fun i _ => len - (intOf i).toNat)
  case atStart => exact ⟨0, 0, Nat.zero_le _, rfl, rfl, fun j hj => absurd hj (Nat.not_lt_zero _)⟩
  case round =>
    obtain ⟨k, n, hk, rfl, rfl, hno⟩ := hrel
    by_cases hlt : k < len
    · have hcell := hc k hlt
      have hlt' : (k : Int) < (len : Int) := by omega
      cases hb : ((ns k).toList == q.toList) with
      | true =>
        go_wp2
        go_quiet (fail)
        go_wp2
        go_ret
        exact ⟨_, rfl, Fst.some hlt (show eqB (ns k) q = true from hb) hno, n + nq, by simp⟩
      | false =>
        have HN : Hid (∀ j, j < k + 1 → eqB (ns j) q = false) := none_succ (p := fun i => eqB (ns i) q) hno (show eqB (ns k) q = false from hb)
        go_wp2
        go_quiet (fail)
        go_wp2
        go_roundw
        case rel => exact ⟨k + 1, n + nq, by omega, by go_num, by simp, HN.out⟩
        case measure => simp [intOf]; omega
    · have e : k = len := by omega
      subst e
      go_wp2
      go_ret
      exact ⟨_, rfl, Fst.none hno, _, rfl⟩

theorem info30 : (Yba.prog.info? 30).map (fun i => (i.zero, i.size, i.bytes)) = some (some (.agg #[.string ByteArray.empty, .int .u8 0]), 2, 24) := by kernel_rfl

/-- The members in the making: the first k bear their names; every cell of the row is there; nothing below the new block has turned. -/
structure Mem (w wr : World) (ns : Nat → ByteArray) (len k : Nat) : Prop where
  done : ∀ i, i < k → wr.cell? ⟨w.heap.size, i * 2, none⟩ = some (.string (ns i))
  full : ∀ j, j < len * 2 → ∃ v, wr.cell? ⟨w.heap.size, j, none⟩ = some v
  free : ∀ j, wr.frozen? ⟨w.heap.size, j, none⟩ = false
  below : Below w.heap.size w wr

theorem size_made (z : Array Value) (n : Nat) : (madeCells z n).toList.length = n := by
  unfold madeCells; simp

theorem Mem.made {w w1 : World} {ns : Nat → ByteArray} {len : Nat}
    (hown : w1.ownsRow w.heap.size 30 2 (.slice (some ⟨w.heap.size, 0, none⟩) len len) len (madeCells (Value.agg #[.string ByteArray.empty, .int .u8 0]).cells (len * 2)).toList) (hgrow : w.grownBy w1 none) : Mem w w1 ns len 0 := by
  refine ⟨fun i hi => absurd hi (Nat.not_lt_zero _), fun j hj => ?_, fun i => hown.frozenAt i, (Below.refl _ _).grown hgrow (Nat.le_refl _) (by intro k hk; cases hk)⟩
  rw [hown.cellAt j hj]
  exact ⟨_, List.getElem?_eq_getElem (by rw [size_made]; exact hj)⟩

theorem Mem.step {w wr : World} {ns : Nat → ByteArray} {len k : Nat} (h : Mem w wr ns len k) (hk : k < len) (x : Value) :
    Mem w ((wr.setCell ⟨w.heap.size, k * 2, none⟩ (.string (ns k))).setCell ⟨w.heap.size, k * 2 + 1, none⟩ x) ns len (k + 1) := by
  have ne : ∀ {i j : Nat}, i ≠ j → (⟨w.heap.size, i, none⟩ : Addr) ≠ ⟨w.heap.size, j, none⟩ := fun hij hh => by rw [Addr.mk.injEq] at hh; exact hij hh.2.1
  obtain ⟨v0, e0⟩ := h.full (k * 2) (by omega)
  obtain ⟨v1, e1⟩ := h.full (k * 2 + 1) (by omega)
  refine ⟨fun i hi => ?_, fun j hj => ?_, fun i => ?_, ?_⟩
  · rw [World.cell?_setCell_other (h := ne (by omega))]
    by_cases e : i = k
    · subst e
      exact World.cell?_setCell_same' _ _ _ (by rw [e0]; rfl)
    · rw [World.cell?_setCell_other (h := ne (by omega))]
      exact h.done i (by omega)
  · by_cases ej : j = k * 2 + 1
    · subst ej
      exact ⟨x, World.cell?_setCell_same' _ _ _ (by rw [World.cell?_setCell_other (h := ne (by omega)), e1]; rfl)⟩
    · rw [World.cell?_setCell_other (h := ne (by omega))]
      by_cases ek : j = k * 2
      · subst ek
        exact ⟨_, World.cell?_setCell_same' _ _ _ (by rw [e0]; rfl)⟩
      · rw [World.cell?_setCell_other (h := ne (by omega))]
        exact h.full j hj
  · rw [World.frozen?_setCell, World.frozen?_setCell]; exact h.free i
  · exact (h.below.setCell (p := ⟨w.heap.size, k * 2, none⟩) (Nat.le_refl _) _).setCell (p := ⟨w.heap.size, k * 2 + 1, none⟩) (Nat.le_refl _) _

set_option maxHeartbeats 1000000 in
theorem build_none (b off len cap : Nat) (ns : Nat → ByteArray) (ka : Option Addr) (kc : Nat) (w : World) (h1 : 1 ≤ len) (hl : len ≤ 1024) (hb : b < w.heap.size)
    (hc : ∀ i, i < len → w.cell? ⟨b, off + i, none⟩ = some (.string (ns i))) :
    Calls Yba.prog 7 #[.slice (some ⟨b, off, none⟩) len cap, .slice ka 0 kc] w fun e w' => e = .returned (.slice (some ⟨w.heap.size, 0, none⟩) len len) ∧ Mem w w' ns len len := by
  obtain ⟨i0, hi, hz0, hz1, hz2⟩ := info_parts info30
  go_enter Yba.func7, Yba.ntmps7
  go_wp2_with (at_make; refine wpList_make_full _ rfl (.tmp 9) (.tmp 9) 24 rfl w.heap.size 30 i0 (.agg #[.string ByteArray.empty, .int .u8 0]) 2 Yba.underlying24 hi hz0 hz1 .i64 .i64 _ _ len rfl rfl (by omega) (by omega) (by rw [hz2]; omega) (by unfold maxLen; omega) (Nat.le_refl _) ?_; intro w1 hown1 hgrow1; have hL1 : Mem w w1 ns len 0 := Mem.made hown1 hgrow1; clear hown1 hgrow1)
  go_loopw [6] (fun i wr => ∃ k : Nat, k ≤ len ∧ i = .int .i64 k ∧ Mem w wr ns len k) (fun i _ => len - (intOf i).toNat)
  case atStart => exact ⟨0, Nat.zero_le _, rfl, hL1⟩
  case round =>
    obtain ⟨k, hk, rfl, hL⟩ := hrel
    clear hL1
    by_cases hlt : k < len
    · have c1 : wr.cell? ⟨b, off + k, none⟩ = some (.string (ns k)) := (hL.below.cell hb).trans (hc k hlt)
      obtain ⟨v0, c2⟩ := hL.full (k * 2) (by omega)
      obtain ⟨v1, c3⟩ := hL.full (k * 2 + 1) (by omega)
      have f2 := hL.free (k * 2)
      have f3 := hL.free (k * 2 + 1)
      go_wp2
      go_roundw
      case rel => exact ⟨k + 1, by omega, by go_num, hL.step hlt _⟩
      case measure => simp [intOf]; omega
    · have e : k = len := by omega
      subst e
      go_wp2
      go_ret
      exact ⟨rfl, hL⟩

set_option maxHeartbeats 1000000 in
theorem build_some (b off len cap : Nat) (ns : Nat → ByteArray) (kb koff klen kc : Nat) (kf : Nat → Int) (w : World) (h1 : 1 ≤ len) (hl : len ≤ 1024) (hb : b < w.heap.size) (hk1 : 1 ≤ klen) (hkl : klen ≤ 1024) (hkb : kb < w.heap.size)
    (hkc : ∀ i, i < klen → w.cell? ⟨kb, koff + i, none⟩ = some (.int .u8 (kf i)))
    (hc : ∀ i, i < len → w.cell? ⟨b, off + i, none⟩ = some (.string (ns i))) :
    Calls Yba.prog 7 #[.slice (some ⟨b, off, none⟩) len cap, .slice (some ⟨kb, koff, none⟩) klen kc] w fun e w' => e = .returned (.slice (some ⟨w.heap.size, 0, none⟩) len len) ∧ Mem w w' ns len len := by
  obtain ⟨i0, hi, hz0, hz1, hz2⟩ := info_parts info30
  go_enter Yba.func7, Yba.ntmps7
  go_wp2_with (at_make; refine wpList_make_full _ rfl (.tmp 9) (.tmp 9) 24 rfl w.heap.size 30 i0 (.agg #[.string ByteArray.empty, .int .u8 0]) 2 Yba.underlying24 hi hz0 hz1 .i64 .i64 _ _ len rfl rfl (by omega) (by omega) (by rw [hz2]; omega) (by unfold maxLen; omega) (Nat.le_refl _) ?_; intro w1 hown1 hgrow1; have hL1 : Mem w w1 ns len 0 := Mem.made hown1 hgrow1; clear hown1 hgrow1)
  go_loopw [6] (fun i wr => ∃ k : Nat, k ≤ len ∧ i = .int .i64 k ∧ Mem w wr ns len k) (fun i _ => len - (intOf i).toNat)
  case atStart => exact ⟨0, Nat.zero_le _, rfl, hL1⟩
  case round =>
    obtain ⟨k, hk, rfl, hL⟩ := hrel
    clear hL1
    by_cases hlt : k < len
    · have c1 : wr.cell? ⟨b, off + k, none⟩ = some (.string (ns k)) := (hL.below.cell hb).trans (hc k hlt)
      have hmod : k % klen < klen := Nat.mod_lt _ (by omega)
      have c4 : wr.cell? ⟨kb, koff + k % klen, none⟩ = some (.int .u8 (kf (k % klen))) := (hL.below.cell hkb).trans (hkc _ hmod)
      obtain ⟨v0, c2⟩ := hL.full (k * 2) (by omega)
      obtain ⟨v1, c3⟩ := hL.full (k * 2 + 1) (by omega)
      have f2 := hL.free (k * 2)
      have f3 := hL.free (k * 2 + 1)
      go_wp2
      go_roundw
      case rel => exact ⟨k + 1, by omega, by go_num, hL.step hlt _⟩
      case measure => simp [intOf]; omega
    · have e : k = len := by omega
      subst e
      go_wp2
      go_ret
      exact ⟨rfl, hL⟩

theorem build_empty (a : Option Addr) (cap : Nat) (ns : Nat → ByteArray) (v : Value) (w : World) :
    Calls Yba.prog 7 #[.slice a 0 cap, v] w fun e w' => e = .returned (.slice (some ⟨w.heap.size, 0, none⟩) 0 0) ∧ Mem w w' ns 0 0 := by
  obtain ⟨i0, hi, hz0, hz1, hz2⟩ := info_parts info30
  go_enter Yba.func7, Yba.ntmps7
  go_wp2_with (at_make; refine wpList_make_full _ rfl (.tmp 9) (.tmp 9) 24 rfl w.heap.size 30 i0 (.agg #[.string ByteArray.empty, .int .u8 0]) 2 Yba.underlying24 hi hz0 hz1 .i64 .i64 _ _ 0 rfl rfl rfl rfl (by omega) (by decide) (Nat.le_refl _) ?_; intro w1 hown1 hgrow1; have hL1 : Mem w w1 ns 0 0 := Mem.made hown1 hgrow1; clear hown1 hgrow1)
  refine wp_loop_rounds 1 ?_
  rw [rounds_succ]
  go_wp2
  go_ret
  exact ⟨rfl, by assumption⟩
end Go.Proofs.Ybulkcmhc.Members
