/-
  The walk of LawS4409APicked.
-/
import Derived.Test.YbulkcmhcConv
namespace Go.Proofs.Ybulkcmhc.Picked
open Go.RowKit Go.Proofs.Ybulkcmhc.Members

theorem walk_big (a : Option Addr) (len cap : Nat) (a1 : Int) (a2 : Bool) (w : World) (h : 1024 < len) :
    Calls Yba.prog 4 #[.slice a len cap, .int .u8 a1, .bool a2] w fun e w' => e = .returned (.bool true) ∧ Below w.heap.size w w' := by
  have hd : (1024 : Int) < (len : Int) := by omega
  go_enter Yba.func4, Yba.ntmps4
  go_wp2
  go_ret
  exact ⟨rfl, Below.refl _ _⟩

set_option maxHeartbeats 400000 in
theorem walk_empty (a : Option Addr) (cap : Nat) (a1 : Int) (a2 : Bool) (w : World) :
    Calls Yba.prog 4 #[.slice a 0 cap, .int .u8 a1, .bool a2] w fun e w' => e = .returned (.bool true) ∧ Below w.heap.size w w' := by
  cases a2
  all_goals
    go_enter Yba.func4, Yba.ntmps4
    go_wp2_with fail
    refine (build_empty a cap (fun _ => ByteArray.empty) (.slice none 0 0) w).mono ?_
    rintro e w1 ⟨rfl, hM⟩
    have hB := hM.below
    clear hM
    go_wp2_with fail
    refine (index_empty _ _ _ _).mono ?_
    rintro e w2 ⟨rfl, rfl⟩
    go_wp2
    go_ret
    first | exact ⟨rfl, hB⟩ | exact ⟨rfl, hB.alloc hB.size _⟩

/-- A name taken from place p is found, no later than p. -/
theorem found {ns : Nat → ByteArray} {p len : Nat} {r : Int} (h : Fst (fun i => eqB (ns i) (ns p)) len r) (hp : p < len) :
    ∃ k : Nat, k ≤ p ∧ k < len ∧ r = (k : Int) ∧ ((ns k).toList == (ns p).toList) = true := by
  have hs : (fun i => eqB (ns i) (ns p)) p = true := eqB_self _
  rcases h with ⟨rfl, hno⟩ | ⟨k, hk, rfl, hyes, hno⟩
  · have h := hno p hp
    rw [hs] at h
    cases h
  · refine ⟨k, ?_, hk, rfl, hyes⟩
    rcases Nat.lt_or_ge p k with h | h
    · have h' := hno p h
      rw [hs] at h'
      cases h'
    · exact h

set_option maxHeartbeats 1000000 in
theorem walk_some (b off len cap : Nat) (ns : Nat → ByteArray) (m : Nat) (a2 : Bool) (w : World) (h1 : 1 ≤ len) (hl : len ≤ 1024) (hm : m ≤ 255) (hb : b < w.heap.size)
    (hc : ∀ i, i < len → w.cell? ⟨b, off + i, none⟩ = some (.string (ns i))) :
    Calls Yba.prog 4 #[.slice (some ⟨b, off, none⟩) len cap, .int .u8 (m : Int), .bool a2] w fun e w' => e = .returned (.bool true) ∧ Below w.heap.size w w' := by
  have hd : decide (1024 < (len : Int)) = false := by simp; omega
  have hne : ((len : Int) == 0) = false := by simp; omega
  have hmod : m % len < len := Nat.mod_lt _ (by omega)
  go_enter Yba.func4, Yba.ntmps4
  go_wp2_with fail
  refine (build b off len cap ns none 0 0 w h1 hl hb (by omega) (Or.inl rfl) hc).mono ?_
  rintro e w1 ⟨rfl, hM⟩
  have c1 : w1.cell? ⟨b, off + m % len, none⟩ = some (.string (ns (m % len))) := (hM.below.cell hb).trans (hc _ hmod)
  obtain ⟨cap2, w2, hrun, hB2, hcv⟩ := conv (ns (m % len)) w1
  have hsz : w.heap.size < w1.heap.size := by
    have := World.block_lt_of_cell? w1 _ (hM.done 0 (by omega)); exact this
  have hms : ∀ i, i < len → w2.cell? ⟨w.heap.size, i * 2, none⟩ = some (.string (ns i)) := fun i hi => (hB2.cell hsz).trans (hM.done i hi)
  have hns : ∀ i, i < len → w2.cell? ⟨b, off + i, none⟩ = some (.string (ns i)) := fun i hi => ((hB2.cell (by show b < w1.heap.size; omega)).trans (hM.below.cell hb)).trans (hc i hi)
  have hB : Below w.heap.size w w2 := hM.below.trans (hB2.mono (by omega))
  clear hM hB2
  go_wp2_with fail
  refine (index w.heap.size len len (some ⟨w1.heap.size, 0, none⟩) _ cap2 ns (ns (m % len)) w2 hl hms hcv).mono ?_
  rintro e w3 ⟨r, rfl, hfst, n, rfl⟩
  obtain ⟨k, hkm, hk, rfl, hst⟩ := found hfst hmod
  clear hfst
  have hki : (k : Int) ≤ (m : Int) % (len : Int) := by rw [← Int.natCast_emod]; omega
  have hmi : (m : Int) % (len : Int) < (len : Int) := by rw [← Int.natCast_emod]; omega
  have hd2 : decide ((m : Int) % (len : Int) < (k : Int)) = false := by simp; omega
  have c2 := hms k hk
  have c3 := hns (m % len) hmod
  clear hcv hrun hc
  go_wp2
  go_quiet (fail)
  go_wp2
  go_ret
  exact ⟨rfl, below_drewN (below_drewN hB _) _⟩
end Go.Proofs.Ybulkcmhc.Picked
