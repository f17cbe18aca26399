/-
  Contracts of the methods on the road: the parent's Value (function 26), the context's Value (7), correlationFrom (8); '==' at the type 'any'.
-/
import Derived.Test.YbulkcmfmRows
import Derived.WalkKit
import Derived.WalkSpells
import Derived.LaidEql
namespace Go.Proofs.Ybulkcmfm.Par
open Go.RowKit

theorem info20 : (Yba.prog.info? 20).map (fun i => (i.zero, i.size, i.bytes)) = some (some .nilIface, 1, 16) := by kernel_rfl

/-- What the parent's Value leaves: one new row of one key, its slice stored in the field 'keys'. -/
def Asked (w w' : World) (B : Nat) (key : Value) : Prop :=
  ∃ g cap w1, w1.ownsRow w.heap.size 20 1 (.slice (some ⟨g, 0, none⟩) 1 cap) 1 [key] ∧ Below w.heap.size w w1 ∧
    w' = w1.setCell ⟨B, 1, none⟩ (.slice (some ⟨g, 0, none⟩) 1 cap)

theorem slice_of_owns {w : World} {base : Nat} {v : Value} {x : Value} (h : w.ownsRow base 20 1 v 1 [x]) : ∃ g cap, v = .slice (some ⟨g, 0, none⟩) 1 cap := by
  rcases h.2 with ⟨_, h0⟩ | ⟨g, cap, cur, hv, _⟩
  · exact absurd h0 (by decide)
  · exact ⟨g, cap, hv⟩

set_option maxHeartbeats 400000 in
theorem pval (B : Nat) (key ans : Value) (hk : key = .nilIface ∨ ∃ t v, key = .iface t v) (w : World) (hB : B < w.heap.size)
    (h1 : w.cell? ⟨B, 1, none⟩ = some (.slice none 0 0)) (h2 : w.cell? ⟨B, 2, none⟩ = some ans) (f1 : w.frozen? ⟨B, 1, none⟩ = false) :
    Calls Yba.prog 26 #[.pointer (some ⟨B, 0, none⟩), key] w fun e w' => e = .returned ans ∧ Asked w w' B key := by
  obtain ⟨i0, hi, hz0, hz1, hz2⟩ := info_parts info20
  have hk1 : key.oneCell' = true := by rcases hk with rfl | ⟨t, v, rfl⟩ <;> rfl
  rcases hk with rfl | ⟨t, v, rfl⟩
  all_goals
    go_enter Yba.func26, Yba.ntmps26
    go_wp2_with (at_builtin; refine wpList_append_own _ rfl (.tmp 9) (.tmp 11) 25 rfl w.heap.size 20 i0 .nilIface 1 16 Yba.underlying25 hi hz0 hz1 hz2 rfl (by decide) _ 0 [] rfl (World.ownsRow_nil _ _ _ _) ⟨w.heap.size, 0, none⟩ 1 1 [_] rfl rfl (cell_one_new _ _ _) ?c2 ?c3 ?c4 ?c5 ?_)
    case c2 => intro u hu; simp at hu; subst hu; exact hk1
    case c3 => decide
    case c4 => decide
    case c5 => simp
    intro v' w1 hown hgrow _
    have hbel : Below w.heap.size w w1 := ((Below.refl _ _).alloc (Nat.le_refl _) _).grown hgrow (by simp) (by intro k hk; simp [Value.ownBlock] at hk)
    have hex := slice_of_owns hown
    obtain ⟨g, cap, hv⟩ := hex
    rw [hv] at hown ⊢
    clear hv
    have c1 : w1.cell? ⟨B, 1, none⟩ = some (.slice none 0 0) := (hbel.cell hB).trans h1
    have c2 : w1.cell? ⟨B, 2, none⟩ = some ans := (hbel.cell hB).trans h2
    have c3 : w1.frozen? ⟨B, 1, none⟩ = false := (hbel.frozen hB).trans f1
    go_wp2
    go_ret
    exact ⟨rfl, g, cap, w1, hown, hbel, rfl⟩


theorem method_value (a : Addr) (w : World) : (method 190 22 (.pointer (some a)) "Value").run Yba.prog w = .ok (26, .pointer (some a)) w := by kernel_rfl

set_option maxHeartbeats 400000 in
theorem ctxval (B C : Nat) (key ans : Value) (hk : key = .nilIface ∨ ∃ t v, key = .iface t v) (w : World) (hB : B < w.heap.size)
    (hq : ∀ w : World, (binOp .eql 20 key (.iface 37 (.agg #[]))).run Yba.prog w = .ok (.bool false) w)
    (hc : w.cell? ⟨C, 0, none⟩ = some (.iface 22 (.pointer (some ⟨B, 0, none⟩))))
    (h1 : w.cell? ⟨B, 1, none⟩ = some (.slice none 0 0)) (h2 : w.cell? ⟨B, 2, none⟩ = some ans) (f1 : w.frozen? ⟨B, 1, none⟩ = false) :
    Calls Yba.prog 7 #[.pointer (some ⟨C, 0, none⟩), key] w fun e w' => e = .returned ans ∧ Asked w w' B key := by
  have hm := method_value ⟨B, 0, none⟩
  rcases hk with rfl | ⟨t, v, rfl⟩
  all_goals
    go_enter Yba.func7, Yba.ntmps7
    go_wp2_with fail
    refine (pval B _ ans (by simp) w hB h1 h2 f1).mono ?_
    rintro e w' ⟨rfl, hask⟩
    go_wp2
    go_ret
    exact ⟨rfl, hask⟩

/-! ### '==' and '!=' at the type 'any' -/
theorem eq_nil_key (w : World) : (binOp .eql 20 .nilIface (.iface 37 (.agg #[]))).run Yba.prog w = .ok (.bool false) w := by kernel_rfl
theorem eq_str_key (s : ByteArray) (w : World) : (binOp .eql 20 (.iface 9 (.string s)) (.iface 37 (.agg #[]))).run Yba.prog w = .ok (.bool false) w := by kernel_rfl
theorem eq_int_key (n : Int) (w : World) : (binOp .eql 20 (.iface 3 (.int .i64 n)) (.iface 37 (.agg #[]))).run Yba.prog w = .ok (.bool false) w := by kernel_rfl
theorem eq_other_key (w : World) : (binOp .eql 20 (.iface 42 (.agg #[])) (.iface 37 (.agg #[]))).run Yba.prog w = .ok (.bool false) w := by kernel_rfl

theorem ne_nil (w : World) : (binOp .neq 20 .nilIface .nilIface).run Yba.prog w = .ok (.bool false) w := by kernel_rfl
theorem ne_other (w : World) : (binOp .neq 20 (.iface 42 (.agg #[])) (.iface 42 (.agg #[]))).run Yba.prog w = .ok (.bool false) w := by kernel_rfl
theorem ne_str0 (s : ByteArray) (w : World) : (binOp .neq 20 (.iface 9 (.string s)) (.iface 9 (.string s))).run Yba.prog w = .ok (.bool (!(s == s))) w := by kernel_rfl
theorem ne_int0 (n : Int) (w : World) : (binOp .neq 20 (.iface 3 (.int .i64 n)) (.iface 3 (.int .i64 n))).run Yba.prog w = .ok (.bool (!(n == n))) w := by kernel_rfl
theorem bytes_refl (s : ByteArray) : (s == s) = true := by
  cases s with | mk d => exact (by show (d == d) = true; simp)
theorem ne_str (s : ByteArray) (w : World) : (binOp .neq 20 (.iface 9 (.string s)) (.iface 9 (.string s))).run Yba.prog w = .ok (.bool false) w := by
  rw [ne_str0, bytes_refl s]; rfl
theorem ne_int (n : Int) (w : World) : (binOp .neq 20 (.iface 3 (.int .i64 n)) (.iface 3 (.int .i64 n))).run Yba.prog w = .ok (.bool false) w := by
  rw [ne_int0, show (n == n) = true by simp]; rfl

theorem method_ctx (a : Addr) (w : World) : (method 190 28 (.pointer (some a)) "Value").run Yba.prog w = .ok (7, .pointer (some a)) w := by kernel_rfl
theorem eq_own_key (w : World) : (binOp .eql 20 (.iface 37 (.agg #[])) (.iface 37 (.agg #[]))).run Yba.prog w = .ok (.bool true) w := by kernel_rfl

theorem ctxown (C : Nat) (w : World) :
    Calls Yba.prog 7 #[.pointer (some ⟨C, 0, none⟩), .iface 37 (.agg #[])] w fun e w' => e = .returned (.iface 38 (.pointer (some ⟨C, 1, none⟩))) ∧ w' = w := by
  have hq := eq_own_key
  go_enter Yba.func7, Yba.ntmps7
  go_wp2
  go_ret
  exact ⟨rfl, rfl⟩

theorem assert_corr (a : Addr) (w : World) : (Instr.typeAssert (.iface 38 (.pointer (some a))) 20 38 true).run Yba.prog w = .ok (.tuple #[.pointer (some a), .bool true]) w := by kernel_rfl

theorem corrfrom (C : Nat) (w : World) :
    Calls Yba.prog 8 #[.iface 28 (.pointer (some ⟨C, 0, none⟩))] w fun e w' => e = .returned (.pointer (some ⟨C, 1, none⟩)) ∧ w' = w := by
  have hm := method_ctx ⟨C, 0, none⟩
  have ha := assert_corr ⟨C, 1, none⟩
  go_enter Yba.func8, Yba.ntmps8
  go_wp2_with (go_at_call 7; refine (ctxown C _).mono ?_; rintro e w' ⟨rfl, rfl⟩)
  go_ret
  exact ⟨rfl, rfl⟩

/-- What stands behind the parent's answer: cells, marks and sizes of the new world. -/
theorem asked_facts {w w' : World} {B : Nat} {key : Value} (h : Asked w w' B key) (hB : B < w.heap.size) (f1 : w.cell? ⟨B, 1, none⟩ = some (.slice none 0 0)) :
    ∃ g cap, w'.cell? ⟨B, 1, none⟩ = some (.slice (some ⟨g, 0, none⟩) 1 cap) ∧ w'.cell? ⟨g, 0, none⟩ = some key ∧
      (∀ b o, b < w.heap.size → b ≠ B → w'.cell? ⟨b, o, none⟩ = w.cell? ⟨b, o, none⟩) ∧ Below B w w' := by
  obtain ⟨g, cap, w1, hown, hbel, rfl⟩ := h
  have hg : w.heap.size ≤ g := (hown.lt g rfl).1
  have hcell : w1.cell? ⟨g, 0, none⟩ = some key := by rw [hown.cellAt 0 (by decide)]; rfl
  refine ⟨g, cap, ?_, ?_, ?_, ?_⟩
  · exact World.cell?_setCell_same' _ _ _ (by rw [hbel.cell hB, f1]; rfl)
  · rw [World.cell?_of_block (w := w1) (by exact Below.heap_setCell _ _ _ _ (by simp; omega))]; exact hcell
  · intro b o hb hne
    rw [World.cell?_of_block (w := w1) (by exact Below.heap_setCell _ _ _ _ (by simpa using hne))]
    exact hbel.cell hb
  · exact (hbel.mono (Nat.le_of_lt hB)).setCell (p := ⟨B, 1, none⟩) (Nat.le_refl _) _

end Go.Proofs.Ybulkcmfm.Par
