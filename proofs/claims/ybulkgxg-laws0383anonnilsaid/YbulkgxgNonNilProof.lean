/-
  OWN TEXT, on the shell that the kit's tool wrote for this statement: 'Rows.LawS0383ANonNilSaid'.
-/
import Derived.Test.YbulkgxgItemsAt
import Derived.Laws.StructEq
import Derived.ProofKit
import Derived.OpenShut
import Derived.ShutString
import Derived.ChangeOld
import Derived.Below
namespace Go.Proofs.Ybulkgxg.lawS0383ANonNil
open Go.ChangeShapes Go.WideShapes Go.ChangeAt Go.RowKit
open Go.ChangeMaps (open_string shut_string)

theorem own : ownKnob Yba.prog.godebug = none := by kernel_rfl

theorem mk1 (w : World) : (Instr.makeSlice 22 (.int .i64 0) (.int .i64 1)).run Yba.prog w = .ok (.slice (some ⟨w.heap.size, 0, none⟩) 0 1) (w.alloc (.cells #[.string ByteArray.empty, .string ByteArray.empty] 26)) := by kernel_rfl
theorem mk2 (w : World) : (Instr.makeSlice 22 (.int .i64 0) (.int .i64 2)).run Yba.prog w = .ok (.slice (some ⟨w.heap.size, 0, none⟩) 0 2) (w.alloc (.cells #[.string ByteArray.empty, .string ByteArray.empty, .string ByteArray.empty, .string ByteArray.empty] 26)) := by kernel_rfl
theorem eq26 (a b : ByteArray) (d : Nat) (w : World) : (Op.equalIn (d + 2) 26 (.agg #[.string a, .string b]) (.agg #[.string a, .string b])).run Yba.prog w = .ok true w := by
  have u9 := Yba.underlying9
  have a9 := Yba.isAgg9
  have z9 := Yba.sizeOf9
  have hp : Yba.prog.stoodInHeld 26 = false := by kernel_rfl
  rw [run_equalIn_agg w (d + 1) 26 _ _ (by kernel_rfl) hp]
  simp only [Program.fieldsOf, Yba.underlying26]
  go_simp
theorem neq28 (a b : ByteArray) (w : World) : (binOp .neq 28 (.agg #[.string ByteArray.empty, .string a, .string b]) (.agg #[.string ByteArray.empty, .string a, .string b])).run Yba.prog w = .ok (.bool false) w := by
  have u9 := Yba.underlying9
  have a9 := Yba.isAgg9
  have z9 := Yba.sizeOf9
  have a26 := Yba.isAgg26
  have z26 := Yba.sizeOf26
  have e26 := eq26 a b 9997
  have hp : Yba.prog.stoodInHeld 28 = false := by kernel_rfl
  rw [run_neq_struct, show (10000 : Nat) = 9999 + 1 from rfl, run_equalIn_agg w 9999 28 _ _ (by kernel_rfl) hp]
  simp only [Program.fieldsOf, Yba.underlying28]
  go_simp

set_option maxHeartbeats 1000000 in
theorem walk (a0 : Int) (a1 : ByteArray) (a2 : ByteArray) (w0 : (Lit.int .u8 a0).wf = true) (w : World) :
    Calls Yba.prog 4 #[.int .u8 a0, .string a1, .string a2] w fun e w' => e = .returned (.bool true) ∧ Below w.heap.size w w' := by
  obtain ⟨h0, h1⟩ := bounds_u8 w0
  have m1 := mk1
  have m2 := mk2
  have n28 := neq28 a1 a2
  rcases (show a0 % 3 = 0 ∨ a0 % 3 = 1 ∨ a0 % 3 = 2 by omega) with hr | hr | hr
  · go_enter Yba.func4, Yba.ntmps4
    go_wp2_with fail
    refine (items_any none 0 0 (fun _ => a1) (fun _ => a2) _ (by omega) (.inl rfl)).mono ?_
    rintro e w1 ⟨rfl, hI, hbel⟩
    have hnil := fun (wx : World) => Lib.run_eql_slice_nil (P := Yba.prog) wx 23 28 (some ⟨w.heap.size, 0, none⟩) 0 0
    go_wp2
    refine wp_loop_rounds 1 ?_
    rw [rounds_succ]
    go_wp2
    go_ret
    exact ⟨rfl, hbel⟩
  · go_enter Yba.func4, Yba.ntmps4
    go_wp2_with fail
    refine wp_loop_rounds 1 ?_
    rw [rounds_succ]
    go_wp2_with fail
    refine (items_any (some ⟨w.heap.size, 0, none⟩) 0 1 (fun _ => a1) (fun _ => a2) _ (by omega) (.inl rfl)).mono ?_
    rintro e w1 ⟨rfl, hI, hbel⟩
    have hnil := fun (wx : World) => Lib.run_eql_slice_nil (P := Yba.prog) wx 23 28 (some ⟨w.heap.size + 1, 0, none⟩) 0 0
    go_wp2
    refine wp_loop_rounds 1 ?_
    rw [rounds_succ]
    go_wp2
    go_ret
    exact ⟨rfl, ((Below.refl _ _).alloc (Nat.le_refl _) _).trans (hbel.mono (by simp))⟩
  · go_enter Yba.func4, Yba.ntmps4
    go_wp2_with fail
    refine wp_loop_rounds 2 ?_
    rw [rounds_succ]
    go_wp2_with fail
    rw [rounds_succ]
    go_wp2_with fail
    refine (items_any (some ⟨w.heap.size, 0, none⟩) 1 2 (fun _ => a1) (fun _ => a2) _ (by omega) (.inr ⟨w.heap.size, 0, rfl, by simp; omega, fun i hi => ?_⟩)).mono ?_
    · obtain rfl : i = 0 := by omega
      exact ⟨by go_simp, by go_simp⟩
    rintro e w1 ⟨rfl, hI, hbel⟩
    have hnil := fun (wx : World) => Lib.run_eql_slice_nil (P := Yba.prog) wx 23 28 (some ⟨w.heap.size + 1 + 1, 0, none⟩) 1 1
    have z : w.heap.size + 1 + 1 < w1.heap.size := by have := hI.1; simp at this; omega
    have hI0 := hI.2 0 (by omega)
    simp at hI0
    obtain ⟨c0, c1, c2, _, _, _⟩ := hI0
    have hb : Below w.heap.size w w1 := (((Below.refl _ _).alloc (Nat.le_refl _) _).alloc (by simp) _).trans (hbel.mono (by simp; omega))
    clear hI hbel
    go_wp2
    refine wp_loop_rounds 2 ?_
    rw [rounds_succ]
    go_wp2
    rw [rounds_succ]
    go_wp2
    go_ret
    exact ⟨rfl, hb⟩

/-! ### THE ROW's STEP: WRITTEN OUT: LEAVE IT -/
set_option maxRecDepth 100000 in
theorem lifted (os : Os) (started : os.Started) (H : Type) (enc : TypeId × Value → H) :
    ReturnsInHanded {} Yba.checked os 4 .any (Rows.lawS0383ANonNilSpec.pre6 enc Yba.prog Yba.f4 Rows.lawS0383ANonNilRow.domain false) (Rows.lawS0383ANonNilSpec.post enc Yba.prog Yba.f4 false true false false) := by
  refine returnsInHanded_of_change (C := Yba.checked) own started (by kernel_rfl) Yba.func4
    (ChangeSpec.witness6 (enc := enc) (C := Yba.checked) false ⟨#[], #[.int .u8 0, .string ByteArray.empty, .string ByteArray.empty], []⟩ 8 (by kernel_rfl) (by kernel_rfl) (by kernel_rfl) (by kernel_rfl)) ?_
  intro W base args ds gs before hval0 hW hcnd _
  have hval : ∀ (j : Nat) t v, Yba.f4.params[j]? = some t → args[j]? = some v → Value.okWide Yba.prog W .any base t v := hval0
  have hW' := hW
  obtain ⟨p, q, hA0, hV, rfl, hfz, hnd⟩ := hW
  have hA : DataW.TrodAll enc Yba.prog W 0 (fun _ => true) true Yba.f4.params.toList args.toList ds p := hA0
  rw [Yba.params4] at hA hval
  obtain ⟨v0, vs0, d0, ds0, p0, q0, hargs, rfl, rfl, h0, r0⟩ := trodAll_cons hA
  obtain ⟨v1, vs1, d1, ds1, p1, q1, rfl, rfl, rfl, h1, r1⟩ := trodAll_cons r0
  obtain ⟨v2, vs2, d2, ds2, p2, q2, rfl, rfl, rfl, h2, r2⟩ := trodAll_cons r1
  obtain ⟨rfl, rfl, rfl⟩ := trodAll_nil r2
  obtain rfl : args = #[v0, v1, v2] := by cases args; simp_all
  obtain ⟨rfl, rfl⟩ := trodVars_none hV
  obtain ⟨a0, rfl, rfl, rfl, w0⟩ := open_int Yba.underlying5 (hval 0 5 v0 rfl rfl) h0
  obtain ⟨a1, rfl, rfl, rfl, w1⟩ := open_string Yba.underlying9 (hval 1 9 v1 rfl rfl) h1
  obtain ⟨a2, rfl, rfl, rfl, w2⟩ := open_string Yba.underlying9 (hval 2 9 v2 rfl rfl) h2
  clear hA0 hval0
  refine (walk a0 a1 a2 w0 W).mono fun e W' ⟨he, bel⟩ => ?_
  subst he
  exact ⟨_, rfl, _, _, _, [], _, [], hW', trodAll_mk1 (shut_bool Yba.underlying4 _), (trodAll_cons_mk (shut_int Yba.underlying5 w0) (trodAll_cons_mk (shut_string Yba.underlying9 w1) (trodAll_cons_mk (shut_string Yba.underlying9 w2) trodAll_mk0))), rfl, bel.frame _, fun h => by cases h⟩

theorem over : Rows.lawS0383ANonNilRow.holds Yba.pinned (OpenSpec.ofChange Rows.lawS0383ANonNilSpec) :=
  OpenClaim.holds_of_wide 4 Yba.f4 rfl rfl rfl rfl rfl rfl rfl ⟨rfl, rfl, rfl, rfl, rfl⟩ rfl rfl rfl rfl rfl (by kernel_rfl) Yba.func4 (by kernel_rfl)
    (of_decide_eq_true (by kernel_rfl)) (by unfold Func.isWrapper; first | (rw [if_pos (by decide +kernel)]; kernel_rfl) | (rw [if_neg (by decide +kernel)]; exact ⟨rfl, rfl⟩))
    (fun os started H enc _ => lifted os started H enc)

/-- ████ THE STATEMENT ████ -/
theorem proved : Rows.LawS0383ANonNilSaid :=
  over
#print axioms proved
end Go.Proofs.Ybulkgxg.lawS0383ANonNil
