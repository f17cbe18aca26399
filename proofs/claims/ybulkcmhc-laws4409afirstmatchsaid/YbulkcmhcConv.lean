/-
  '[]byte(s)' and back, in the world that the first leaves; what the members' contracts ask of their slices; one contract of the building for all kinds.
-/
import Derived.Test.YbulkcmhcMembers
namespace Go.Proofs.Ybulkcmhc.Members
open Go.RowKit

/-- '[]byte(s)' lays one new block; 'string(..)' of it is s again, however many draws later. -/
theorem conv (s : ByteArray) (w : World) :
    ∃ cap w2, (convert 9 23 (.string s)).run Yba.prog w = .ok (.slice (some ⟨w.heap.size, 0, none⟩) s.size cap) w2 ∧ Below w.heap.size w w2 ∧
      ∀ n, (convert 23 9 (.slice (some ⟨w.heap.size, 0, none⟩) s.size cap)).run Yba.prog (w2.drewN n) = .ok (.string s) (w2.drewN n) := by
  refine ⟨_, _, run_bytes_of_string w 9 23 5 s Yba.underlying9 Yba.underlying23 Yba.underlying5, ?_, fun n => ?_⟩
  · exact (Below.refl _ _).drew.alloc (Nat.le_refl _) _
  · have hl : s.data.toList.length = s.size := by simp
    have h := run_convert_bytes_back (P := Yba.prog) ((w.drew.alloc (.cells (bytesRow s (grownCap w s.size 0 5)) 5 ((bytesRow s (grownCap w s.size 0 5)).size, (bytesRow s (grownCap w s.size 0 5)).size + 1))).drewN n) 23 9 5 ⟨w.heap.size, 0, none⟩ (grownCap w s.size 0 5) s.data.toList Yba.underlying23 Yba.underlying5 Yba.underlying9 (fun j hj => ?_)
    · rw [hl] at h
      exact h
    · have e : (⟨w.heap.size, 0, none⟩ : Addr).add j = ⟨w.heap.size, j, none⟩ := by unfold Addr.add; split <;> simp_all
      rw [e]
      have hj' : j < s.data.size := by simpa using hj
      refine (World.cell?_alloc_mark w.drew _ 5 _ j).trans ?_
      unfold bytesRow
      rw [Array.getElem?_append_left (by simpa using hj')]
      simp
      exact ⟨s.data[j], Array.getElem?_eq_getElem hj', rfl⟩

/-- One contract of the building, kinds empty or not. -/
def KindsOk (w : World) (ka : Option Addr) (klen : Nat) : Prop :=
  klen = 0 ∨ ∃ (kb koff : Nat) (kf : Nat → Int), ka = some ⟨kb, koff, none⟩ ∧ 1 ≤ klen ∧ kb < w.heap.size ∧ ∀ i, i < klen → w.cell? ⟨kb, koff + i, none⟩ = some (.int .u8 (kf i))

theorem build (b off len cap : Nat) (ns : Nat → ByteArray) (ka : Option Addr) (klen kc : Nat) (w : World) (h1 : 1 ≤ len) (hl : len ≤ 1024) (hb : b < w.heap.size) (hkl : klen ≤ 1024) (hk : KindsOk w ka klen)
    (hc : ∀ i, i < len → w.cell? ⟨b, off + i, none⟩ = some (.string (ns i))) :
    Calls Yba.prog 7 #[.slice (some ⟨b, off, none⟩) len cap, .slice ka klen kc] w fun e w' => e = .returned (.slice (some ⟨w.heap.size, 0, none⟩) len len) ∧ Mem w w' ns len len := by
  rcases hk with rfl | ⟨kb, koff, kf, rfl, hk1, hkb, hkc⟩
  · exact build_none b off len cap ns ka kc w h1 hl hb hc
  · exact build_some b off len cap ns kb koff klen kc kf w h1 hl hb hk1 hkl hkb hkc hc

theorem eqB_self (a : ByteArray) : eqB a a = true := by unfold eqB; simp

/-- What is said of a slice of strings that came in. -/
def IsStrs (w : World) (a : Option Addr) (len cap : Nat) (ss : List ByteArray) : Prop :=
  (a = none ∧ len = 0 ∧ cap = 0 ∧ ss = []) ∨
  ∃ x, a = some x ∧ len ≤ cap ∧ cap ≤ maxLen ∧ ss.length = cap ∧ (∀ i, i < ss.length → w.cell? (x.add i) = some (.string (ss.getD i ByteArray.empty))) ∧ ∀ s ∈ ss, s.size ≤ maxLen

/-- A slice that has an element lies at a plain address. -/
theorem IsStrs.lies {w : World} {a : Option Addr} {len cap : Nat} {ss : List ByteArray} (h : IsStrs w a len cap ss) (h0 : 1 ≤ len) :
    ∃ b off, a = some ⟨b, off, none⟩ ∧ b < w.heap.size ∧ ∀ i, i < len → w.cell? ⟨b, off + i, none⟩ = some (.string (ss.getD i ByteArray.empty)) := by
  rcases h with ⟨rfl, rfl, rfl, rfl⟩ | ⟨x, rfl, hl, hm, hz, hcell, _⟩
  · omega
  · obtain ⟨b, off, spot⟩ := x
    have hc := hcell 0 (by omega)
    have hspot : spot = none := by simpa [Addr.add] using World.cell?_spot hc
    subst hspot
    refine ⟨b, off, rfl, World.block_lt_of_cell? w ⟨b, off, none⟩ (u := .string (ss.getD 0 ByteArray.empty)) (by simpa [Addr.add] using hc), fun i hi => ?_⟩
    have := hcell i (by omega)
    have e : (⟨b, off, none⟩ : Addr).add i = ⟨b, off + i, none⟩ := by unfold Addr.add; split <;> simp_all
    rwa [e] at this
end Go.Proofs.Ybulkcmhc.Members
