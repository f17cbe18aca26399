/-
  The walk of LawS4409AFirstMatch.
-/
import Derived.Test.YbulkcmhcConv
namespace Go.Proofs.Ybulkcmhc.First
open Go.RowKit Go.Proofs.Ybulkcmhc.Members

theorem walk_big (a : Option Addr) (len cap : Nat) (a1 : Option Addr) (len1 cap1 : Nat) (a2 : ByteArray) (a3 : Int) (a4 : Bool) (w : World) (h : 1024 < len) :
    Calls Yba.prog 3 #[.slice a len cap, .slice a1 len1 cap1, .string a2, .int .u8 a3, .bool a4] w fun e w' => e = .returned (.bool true) ∧ Below w.heap.size w w' := by
  have hd : (1024 : Int) < (len : Int) := by omega
  go_enter Yba.func3, Yba.ntmps3
  go_wp2
  go_ret
  exact ⟨rfl, Below.refl _ _⟩

theorem walk_big1 (a : Option Addr) (len cap : Nat) (a1 : Option Addr) (len1 cap1 : Nat) (a2 : ByteArray) (a3 : Int) (a4 : Bool) (w : World) (h : len ≤ 1024) (h1 : 1024 < len1) :
    Calls Yba.prog 3 #[.slice a len cap, .slice a1 len1 cap1, .string a2, .int .u8 a3, .bool a4] w fun e w' => e = .returned (.bool true) ∧ Below w.heap.size w w' := by
  have hd : decide (1024 < (len : Int)) = false := by simp; omega
  have hd1 : decide (1024 < (len1 : Int)) = true := by simp; omega
  go_enter Yba.func3, Yba.ntmps3
  go_wp2
  go_ret
  exact ⟨rfl, Below.refl _ _⟩

set_option maxHeartbeats 400000 in
theorem walk_empty (a : Option Addr) (cap : Nat) (a1 : Option Addr) (len1 cap1 : Nat) (a2 : ByteArray) (a3 : Int) (a4 : Bool) (w : World) (h1 : len1 ≤ 1024) :
    Calls Yba.prog 3 #[.slice a 0 cap, .slice a1 len1 cap1, .string a2, .int .u8 a3, .bool a4] w fun e w' => e = .returned (.bool true) ∧ Below w.heap.size w w' := by
  have hd1 : decide (1024 < (len1 : Int)) = false := by simp; omega
  cases a4
  all_goals
    go_enter Yba.func3, Yba.ntmps3
    go_wp2_with fail
    refine (build_empty a cap (fun _ => ByteArray.empty) (.slice a1 len1 cap1) w).mono ?_
    rintro e w1 ⟨rfl, hM⟩
    obtain ⟨cap2, w2, hrun, hB2, hcv⟩ := conv a2 w1
    have hB : Below w.heap.size w w2 := hM.below.trans (hB2.mono hM.below.size)
    clear hM hB2 hcv
    go_wp2_with fail
    refine (index_empty _ _ _ _).mono ?_
    rintro e w3 ⟨rfl, rfl⟩
    go_wp2_with fail
    refine (first_empty _ _ _ _).mono ?_
    rintro e w4 ⟨rfl, rfl⟩
    go_wp2
    refine wp_loop_rounds 1 ?_
    rw [rounds_succ]
    go_wp2
    go_ret
    exact ⟨rfl, hB⟩

set_option maxHeartbeats 1000000 in
theorem walk_own (b off len cap : Nat) (ns : Nat → ByteArray) (a1 : Option Addr) (len1 cap1 : Nat) (q : ByteArray) (a3 : Int) (w : World) (h1 : 1 ≤ len) (hl : len ≤ 1024) (hb : b < w.heap.size) (hl1 : len1 ≤ 1024) (hk : KindsOk w a1 len1)
    (hc : ∀ i, i < len → w.cell? ⟨b, off + i, none⟩ = some (.string (ns i))) :
    Calls Yba.prog 3 #[.slice (some ⟨b, off, none⟩) len cap, .slice a1 len1 cap1, .string q, .int .u8 a3, .bool true] w fun e w' => e = .returned (.bool true) ∧ Below w.heap.size w w' := by
  have hd : decide (1024 < (len : Int)) = false := by simp; omega
  have hd1 : decide (1024 < (len1 : Int)) = false := by simp; omega
  go_enter Yba.func3, Yba.ntmps3
  go_wp2_with fail
  refine (build b off len cap ns a1 len1 cap1 w h1 hl hb hl1 hk hc).mono ?_
  rintro e w1 ⟨rfl, hM⟩
  obtain ⟨cap2, w2, hrun, hB2, hcv⟩ := conv q w1
  have hsz : w.heap.size < w1.heap.size := World.block_lt_of_cell? w1 _ (hM.done 0 (by omega))
  have hms : ∀ i, i < len → w2.cell? ⟨w.heap.size, i * 2, none⟩ = some (.string (ns i)) := fun i hi => (hB2.cell hsz).trans (hM.done i hi)
  have hns : ∀ i, i < len → w2.cell? ⟨b, off + i, none⟩ = some (.string (ns i)) := fun i hi => ((hB2.cell (by show b < w1.heap.size; omega)).trans (hM.below.cell hb)).trans (hc i hi)
  have hB : Below w.heap.size w w2 := hM.below.trans (hB2.mono (by omega))
  clear hM hB2 hk hc
  go_wp2_with fail
  refine (index w.heap.size len len (some ⟨w1.heap.size, 0, none⟩) _ cap2 ns q w2 hl hms hcv).mono ?_
  rintro e w3 ⟨r, rfl, hfst, n, rfl⟩
  have HF : Hid (Fst (fun i => eqB (ns i) q) len r) := hfst
  clear hfst hcv hrun
  go_wp2_with fail
  refine (first b off len cap ns q (w2.drewN n) hl hns).mono ?_
  rintro e w4 ⟨s, rfl, hfst, rfl⟩
  have e : s = r := hfst.unique HF.out
  subst e
  clear hfst HF
  go_wp2
  go_loopw [14] (fun i wr => ∃ k : Nat, k ≤ len ∧ i = .int .i64 k ∧ (∀ i, i < len → wr.cell? ⟨w.heap.size, i * 2, none⟩ = some (.string (ns i))) ∧ (∀ i, i < len → wr.cell? ⟨b, off + i, none⟩ = some (.string (ns i))) ∧ Below w.heap.size w wr) (fun i _ => len - (intOf i).toNat)
  case atStart => exact ⟨0, Nat.zero_le _, rfl, hms, hns, below_drewN hB _⟩
  case round =>
    obtain ⟨k, hk, rfl, hms', hns', hB'⟩ := hrel
    clear hms hns hB
    by_cases hlt : k < len
    · have c1 := hms' k hlt
      have c2 := hns' k hlt
      have hlt' : (k : Int) < (len : Int) := by omega
      go_wp2
      go_quiet (fail)
      go_wp2
      go_roundw
      case rel => exact ⟨k + 1, by omega, by go_num, hms', hns', below_drewN hB' _⟩
      case measure => simp [intOf]; omega
    · go_wp2
      go_ret
      exact ⟨rfl, hB'⟩
set_option maxHeartbeats 1000000 in
theorem walk_pick (b off len cap : Nat) (ns : Nat → ByteArray) (a1 : Option Addr) (len1 cap1 : Nat) (a2 : ByteArray) (m : Nat) (w : World) (h1 : 1 ≤ len) (hl : len ≤ 1024) (hm : m ≤ 255) (hb : b < w.heap.size) (hl1 : len1 ≤ 1024) (hk : KindsOk w a1 len1)
    (hc : ∀ i, i < len → w.cell? ⟨b, off + i, none⟩ = some (.string (ns i))) :
    Calls Yba.prog 3 #[.slice (some ⟨b, off, none⟩) len cap, .slice a1 len1 cap1, .string a2, .int .u8 (m : Int), .bool false] w fun e w' => e = .returned (.bool true) ∧ Below w.heap.size w w' := by
  have hd : decide (1024 < (len : Int)) = false := by simp; omega
  have hd1 : decide (1024 < (len1 : Int)) = false := by simp; omega
  have hpos : decide (0 < (len : Int)) = true := by simp; omega
  have hmod : m % len < len := Nat.mod_lt _ (by omega)
  have c0 := hc (m % len) hmod
  go_enter Yba.func3, Yba.ntmps3
  go_wp2_with fail
  refine (build b off len cap ns a1 len1 cap1 w h1 hl hb hl1 hk hc).mono ?_
  rintro e w1 ⟨rfl, hM⟩
  obtain ⟨cap2, w2, hrun, hB2, hcv⟩ := conv (ns (m % len)) w1
  have hsz : w.heap.size < w1.heap.size := World.block_lt_of_cell? w1 _ (hM.done 0 (by omega))
  have hms : ∀ i, i < len → w2.cell? ⟨w.heap.size, i * 2, none⟩ = some (.string (ns i)) := fun i hi => (hB2.cell hsz).trans (hM.done i hi)
  have hns : ∀ i, i < len → w2.cell? ⟨b, off + i, none⟩ = some (.string (ns i)) := fun i hi => ((hB2.cell (by show b < w1.heap.size; omega)).trans (hM.below.cell hb)).trans (hc i hi)
  have hB : Below w.heap.size w w2 := hM.below.trans (hB2.mono (by omega))
  clear hM hB2 hk hc
  go_wp2_with fail
  refine (index w.heap.size len len (some ⟨w1.heap.size, 0, none⟩) _ cap2 ns (ns (m % len)) w2 hl hms hcv).mono ?_
  rintro e w3 ⟨r, rfl, hfst, n, rfl⟩
  have HF : Hid (Fst (fun i => eqB (ns i) (ns (m % len))) len r) := hfst
  clear hfst hcv hrun
  go_wp2_with fail
  refine (first b off len cap ns (ns (m % len)) (w2.drewN n) hl hns).mono ?_
  rintro e w4 ⟨s, rfl, hfst, rfl⟩
  have e : s = r := hfst.unique HF.out
  subst e
  clear hfst HF
  go_wp2
  go_loopw [14] (fun i wr => ∃ k : Nat, k ≤ len ∧ i = .int .i64 k ∧ (∀ i, i < len → wr.cell? ⟨w.heap.size, i * 2, none⟩ = some (.string (ns i))) ∧ (∀ i, i < len → wr.cell? ⟨b, off + i, none⟩ = some (.string (ns i))) ∧ Below w.heap.size w wr) (fun i _ => len - (intOf i).toNat)
  case atStart => exact ⟨0, Nat.zero_le _, rfl, hms, hns, below_drewN hB _⟩
  case round =>
    obtain ⟨k, hk, rfl, hms', hns', hB'⟩ := hrel
    clear hms hns hB
    by_cases hlt : k < len
    · have c1 := hms' k hlt
      have c2 := hns' k hlt
      have hlt' : (k : Int) < (len : Int) := by omega
      go_wp2
      go_quiet (fail)
      go_wp2
      go_roundw
      case rel => exact ⟨k + 1, by omega, by go_num, hms', hns', below_drewN hB' _⟩
      case measure => simp [intOf]; omega
    · go_wp2
      go_ret
      exact ⟨rfl, hB'⟩
end Go.Proofs.Ybulkcmhc.First
