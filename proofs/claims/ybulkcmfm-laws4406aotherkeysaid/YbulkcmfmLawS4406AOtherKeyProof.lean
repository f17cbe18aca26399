/-
  THE PROOF OF 'Rows.LawS4406AOtherKeySaid'. The walk is our own, the law's callees by their contracts (YbulkcmfmPar). The frame is the guide's shell, its end by 'Below' in the place of 'Grown'.
-/
import Derived.Test.YbulkcmfmRows
import Derived.Test.YbulkcmfmPar
import Derived.LaidEql
import Derived.WalkKit
import Derived.ProofKit
import Derived.OpenShut
import Derived.ShutString
namespace Go.Proofs.Ybulkcmfm.lawS4406AOtherKey
open Go.ChangeShapes Go.WideShapes Go.ChangeAt Go.RowKit
open Go.ChangeMaps (open_string shut_string)
set_option linter.unusedVariables false      -- a walk need not use every 'w<i>' (that an integer argument fits its kind)

theorem own : ownKnob Yba.prog.godebug = none := by kernel_rfl

/-- The law's own two blocks: the parent, and the context round it. -/
def laid (w : World) (ans : Value) (a4 : ByteArray) : World :=
  (w.alloc (.cells #[.nilIface, .slice none 0 0, ans] 27)).alloc
    (.cells #[.iface 22 (.pointer (some ⟨w.heap.size, 0, none⟩)), .string a4, .string { data := #[] }, .string { data := #[] }, .bool false, .string { data := #[] }, .string { data := #[] }, .string { data := #[] }, .string { data := #[] }] 34)

theorem laid_size (w : World) (ans : Value) (a4 : ByteArray) : (laid w ans a4).heap.size = w.heap.size + 2 := by simp [laid]
theorem laid_keys (w : World) (ans : Value) (a4 : ByteArray) : (laid w ans a4).cell? ⟨w.heap.size, 1, none⟩ = some (.slice none 0 0) := by simp [laid, go_sem]
theorem laid_ans (w : World) (ans : Value) (a4 : ByteArray) : (laid w ans a4).cell? ⟨w.heap.size, 2, none⟩ = some ans := by simp [laid, go_sem]
theorem laid_free (w : World) (ans : Value) (a4 : ByteArray) : (laid w ans a4).frozen? ⟨w.heap.size, 1, none⟩ = false := by simp [laid, go_sem]
theorem laid_ctx (w : World) (ans : Value) (a4 : ByteArray) : (laid w ans a4).cell? ⟨w.heap.size + 1, 0, none⟩ = some (.iface 22 (.pointer (some ⟨w.heap.size, 0, none⟩))) := by simp [laid, go_sem]
theorem laid_req (w : World) (ans : Value) (a4 : ByteArray) : (laid w ans a4).cell? ⟨w.heap.size + 1, 1, none⟩ = some (.string a4) := by simp [laid, go_sem]
theorem laid_below (w : World) (ans : Value) (a4 : ByteArray) : Below w.heap.size w (laid w ans a4) := ((Below.refl _ _).alloc (Nat.le_refl _) _).alloc (by simp) _

/-- Behind the parent's answer: the law's own two blocks and the row of keys in the new world. -/
theorem behind {w w' : World} {key ans : Value} {a4 : ByteArray} (h : Par.Asked (laid w ans a4) w' w.heap.size key) :
    ∃ g cap, w'.cell? ⟨w.heap.size, 1, none⟩ = some (.slice (some ⟨g, 0, none⟩) 1 cap) ∧ w'.cell? ⟨g, 0, none⟩ = some key ∧
      w'.cell? ⟨w.heap.size + 1, 0, none⟩ = some (.iface 22 (.pointer (some ⟨w.heap.size, 0, none⟩))) ∧ w'.cell? ⟨w.heap.size + 1, 1, none⟩ = some (.string a4) ∧ Below w.heap.size w w' := by
  obtain ⟨g, cap, h1, h2, h3, h4⟩ := Par.asked_facts h (by rw [laid_size]; omega) (laid_keys _ _ _)
  refine ⟨g, cap, h1, h2, ?_, ?_, (laid_below _ _ _).trans h4⟩
  · rw [h3 _ _ (by rw [laid_size]; omega) (by omega)]; exact laid_ctx _ _ _
  · rw [h3 _ _ (by rw [laid_size]; omega) (by omega)]; exact laid_req _ _ _

theorem info22 : (Yba.prog.info? 22).map (fun i => i.comparable) = some true := by kernel_rfl
theorem same_parent (a : Addr) (w : World) : (binOp .eql 24 (.iface 22 (.pointer (some a))) (.iface 22 (.pointer (some a)))).run Yba.prog w = .ok (.bool true) w := by
  obtain ⟨ms, hms⟩ : ∃ ms, Yba.prog.underlying 24 = some (.interface ms) := ⟨_, Yba.underlying24⟩
  cases hi : Yba.prog.info? 22 with
  | none => have := info22; rw [hi] at this; cases this
  | some i =>
    have hc : i.comparable = true := by have := info22; rw [hi] at this; simpa using this
    cases hj : Yba.prog.info? 27 with
    | none => have h27 : (Yba.prog.info? 27).isSome = true := by kernel_rfl
              rw [hj] at h27; cases h27
    | some j => exact run_eql_iface_ptr_same w a hms Yba.underlying22 hi hc hj

theorem guard_nil (w : World) : (eqGuard .neq 20 (.tmp 55) (.tmp 56) .nilIface .nilIface).run Yba.prog w = .ok () w := by kernel_rfl

/-! ### STEP 1: THE WALK -/
set_option maxHeartbeats 1000000 in
theorem walk (a0 : Int) (a1 : ByteArray) (a2 : Int) (a3 : ByteArray) (a4 : ByteArray) (w0 : (Lit.int .u8 a0).wf = true) (w1 : a1.size ≤ maxLen) (w2 : (Lit.int .i64 a2).wf = true) (w3 : a3.size ≤ maxLen) (w4 : a4.size ≤ maxLen) (w : World) :
    Calls Yba.prog 4 #[.int .u8 a0, .string a1, .int .i64 a2, .string a3, .string a4] w fun e w' => e = .returned (.bool true) ∧ Below w.heap.size w w' := by
  have hb := bounds_u8 w0
  obtain ⟨hb0, hb1⟩ := hb
  have h4 : a0 % 4 = 0 ∨ a0 % 4 = 1 ∨ a0 % 4 = 2 ∨ a0 % 4 = 3 := by omega
  have hsame := same_parent ⟨w.heap.size, 0, none⟩
  have hne := Par.ne_str a3
  have hst := Par.bytes_refl a4
  rcases h4 with h4 | h4 | h4 | h4
  · have hnk := Par.ne_str a1
    go_enter Yba.func4, Yba.ntmps4
    go_wp2_with fail
    refine (Par.ctxval w.heap.size (w.heap.size + 1) (.iface 9 (.string a1)) (.iface 9 (.string a3)) (Or.inr ⟨_, _, rfl⟩) (laid w (.iface 9 (.string a3)) a4) (by rw [laid_size]; omega) (Par.eq_str_key a1) (laid_ctx _ _ _) (laid_keys _ _ _) (laid_ans _ _ _) (laid_free _ _ _)).mono ?_
    rintro e w' ⟨rfl, hask⟩
    obtain ⟨g, cap, c1, c2, c3, c4, hbel⟩ := behind hask
    clear hask
    go_wp2
    go_ret
    exact ⟨rfl, hbel⟩
  · have hnk := Par.ne_int a2
    go_enter Yba.func4, Yba.ntmps4
    go_wp2_with fail
    refine (Par.ctxval w.heap.size (w.heap.size + 1) (.iface 3 (.int .i64 a2)) (.iface 9 (.string a3)) (Or.inr ⟨_, _, rfl⟩) (laid w (.iface 9 (.string a3)) a4) (by rw [laid_size]; omega) (Par.eq_int_key a2) (laid_ctx _ _ _) (laid_keys _ _ _) (laid_ans _ _ _) (laid_free _ _ _)).mono ?_
    rintro e w' ⟨rfl, hask⟩
    obtain ⟨g, cap, c1, c2, c3, c4, hbel⟩ := behind hask
    clear hask
    go_wp2
    go_ret
    exact ⟨rfl, hbel⟩
  · have hnk := Par.ne_other
    go_enter Yba.func4, Yba.ntmps4
    go_wp2_with fail
    refine (Par.ctxval w.heap.size (w.heap.size + 1) (.iface 42 (.agg #[])) (.iface 9 (.string a3)) (Or.inr ⟨_, _, rfl⟩) (laid w (.iface 9 (.string a3)) a4) (by rw [laid_size]; omega) Par.eq_other_key (laid_ctx _ _ _) (laid_keys _ _ _) (laid_ans _ _ _) (laid_free _ _ _)).mono ?_
    rintro e w' ⟨rfl, hask⟩
    obtain ⟨g, cap, c1, c2, c3, c4, hbel⟩ := behind hask
    clear hask
    go_wp2
    go_ret
    exact ⟨rfl, hbel⟩
  · have hnk := Par.ne_nil
    have hgd := guard_nil
    go_enter Yba.func4, Yba.ntmps4
    go_wp2_with fail
    refine (Par.ctxval w.heap.size (w.heap.size + 1) .nilIface (.iface 9 (.string a3)) (Or.inl rfl) (laid w (.iface 9 (.string a3)) a4) (by rw [laid_size]; omega) Par.eq_nil_key (laid_ctx _ _ _) (laid_keys _ _ _) (laid_ans _ _ _) (laid_free _ _ _)).mono ?_
    rintro e w' ⟨rfl, hask⟩
    obtain ⟨g, cap, c1, c2, c3, c4, hbel⟩ := behind hask
    clear hask
    go_wp2
    go_ret
    exact ⟨rfl, hbel⟩

/-! ### THE ROW's STEP: WRITTEN OUT: LEAVE IT -/
set_option maxRecDepth 100000 in
theorem lifted (os : Os) (started : os.Started) (H : Type) (enc : TypeId × Value → H) :
    ReturnsInHanded {} Yba.checked os 4 .any (Rows.lawS4406AOtherKeySpec.pre6 enc Yba.prog Yba.f4 Rows.lawS4406AOtherKeyRow.domain false) (Rows.lawS4406AOtherKeySpec.post enc Yba.prog Yba.f4 false true false false) := by
  refine returnsInHanded_of_change (C := Yba.checked) own started (by kernel_rfl) Yba.func4
    (ChangeSpec.witness6 (enc := enc) (C := Yba.checked) false ⟨#[], #[.int .u8 0, .string ByteArray.empty, .int .i64 0, .string ByteArray.empty, .string ByteArray.empty], []⟩ 8 (by kernel_rfl) (by kernel_rfl) (by kernel_rfl) (by kernel_rfl)) ?_
  intro W base args ds gs before hval0 hW hcnd _
  have hval : ∀ (j : Nat) t v, Yba.f4.params[j]? = some t → args[j]? = some v → Value.okWide Yba.prog W .any base t v := hval0
  have hW' := hW
  obtain ⟨p, q, hA0, hV, rfl, hfz, hnd⟩ := hW
  have hA : DataW.TrodAll enc Yba.prog W 0 (fun _ => true) true Yba.f4.params.toList args.toList ds p := hA0
  rw [Yba.params4] at hA hval
  obtain ⟨v0, vs0, d0, ds0, p0, q0, hargs, rfl, rfl, h0, r0⟩ := trodAll_cons hA
  obtain ⟨v1, vs1, d1, ds1, p1, q1, rfl, rfl, rfl, h1, r1⟩ := trodAll_cons r0
  obtain ⟨v2, vs2, d2, ds2, p2, q2, rfl, rfl, rfl, h2, r2⟩ := trodAll_cons r1
  obtain ⟨v3, vs3, d3, ds3, p3, q3, rfl, rfl, rfl, h3, r3⟩ := trodAll_cons r2
  obtain ⟨v4, vs4, d4, ds4, p4, q4, rfl, rfl, rfl, h4, r4⟩ := trodAll_cons r3
  obtain ⟨rfl, rfl, rfl⟩ := trodAll_nil r4
  obtain rfl : args = #[v0, v1, v2, v3, v4] := by cases args; simp_all
  obtain ⟨rfl, rfl⟩ := trodVars_none hV
  obtain ⟨a0, rfl, rfl, rfl, w0⟩ := open_int Yba.underlying5 (hval 0 5 v0 rfl rfl) h0
  obtain ⟨a1, rfl, rfl, rfl, w1⟩ := open_string Yba.underlying9 (hval 1 9 v1 rfl rfl) h1
  obtain ⟨a2, rfl, rfl, rfl, w2⟩ := open_int Yba.underlying3 (hval 2 3 v2 rfl rfl) h2
  obtain ⟨a3, rfl, rfl, rfl, w3⟩ := open_string Yba.underlying9 (hval 3 9 v3 rfl rfl) h3
  obtain ⟨a4, rfl, rfl, rfl, w4⟩ := open_string Yba.underlying9 (hval 4 9 v4 rfl rfl) h4
  clear hA0 hval0
  simp only [List.append_nil] at hW'
  refine (walk a0 a1 a2 a3 a4 w0 w1 w2 w3 w4 W).mono fun e W' ⟨he, bel⟩ => ?_
  subst he
  exact ⟨_, rfl, _, _, _, [], _, [], hW', trodAll_mk1 (shut_bool Yba.underlying4 _), (trodAll_cons_mk (shut_int Yba.underlying5 w0) (trodAll_cons_mk (shut_string Yba.underlying9 w1) (trodAll_cons_mk (shut_int Yba.underlying3 w2) (trodAll_cons_mk (shut_string Yba.underlying9 w3) (trodAll_cons_mk (shut_string Yba.underlying9 w4) trodAll_mk0))))), rfl, bel.frame _, fun h => by cases h⟩

theorem over : Rows.lawS4406AOtherKeyRow.holds Yba.pinned (OpenSpec.ofChange Rows.lawS4406AOtherKeySpec) :=
  OpenClaim.holds_of_wide 4 Yba.f4 rfl rfl rfl rfl rfl rfl rfl ⟨rfl, rfl, rfl, rfl, rfl⟩ rfl rfl rfl rfl rfl (by kernel_rfl) Yba.func4 (by kernel_rfl)
    (of_decide_eq_true (by kernel_rfl)) (by unfold Func.isWrapper; first | (rw [if_pos (by decide +kernel)]; kernel_rfl) | (rw [if_neg (by decide +kernel)]; exact ⟨rfl, rfl⟩))
    (fun os started H enc _ => lifted os started H enc)

/-- ████ THE STATEMENT ████ -/
theorem proved : Rows.LawS4406AOtherKeySaid :=
  over
end Go.Proofs.Ybulkcmfm.lawS4406AOtherKey
