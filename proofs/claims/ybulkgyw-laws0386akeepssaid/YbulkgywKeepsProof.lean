/-
  OWN TEXT. 'Rows.LawS0386AKeepsSaid': the walk and the row.
-/
import Derived.Test.YbulkgywRecost
import Derived.Laws.Pointers
import Derived.LaidEqlPtr
import Derived.Deep.QuietTactic
import Derived.BigQuiet
import Derived.ProofKit
import Derived.OpenShut
import Derived.ShutString
import Derived.ChangeOld
import Derived.Below
namespace Go.Proofs.Ybulkgyw.lawS0386AKeeps
open Go.ChangeShapes Go.WideShapes Go.ChangeAt Go.RowKit

theorem own : ownKnob Yba.prog.godebug = none := by kernel_rfl

theorem run_neq_ptr_same {P : Program} (w : World) {tp te : TypeId} {j : TypeInfo} (a : Addr) (hp : P.underlying tp = some (.pointer te)) (hte : P.info? te = some j) :
    (binOp .neq tp (.pointer (some a)) (.pointer (some a))).run P w = .ok (.bool false) w := by
  have h : ∀ d : Nat, (Op.equalIn (d + 1) tp (.pointer (some a)) (.pointer (some a))).run P w = .ok true w := fun d => by
    simp [Op.equalIn, run_underlying hp, sizeOf, typeInfo, hte, run_sameAddr_same]
  simp only [binOp]
  simp [Op.equal, Op.maxDepth, h 9999]

theorem info40 : ∃ j, Yba.prog.info? 40 = some j := Option.isSome_iff_exists.1 (by kernel_rfl)

set_option maxHeartbeats 2000000 in
theorem walk (a0 a1 a2 a3 a4 a5 a6 : Nat) (a7 : Int) (a8 a9 a10 : Bool) (w : World) :
    Calls Yba.prog 4 #[.float .f64 a0, .float .f64 a1, .float .f64 a2, .float .f64 a3, .float .f64 a4, .float .f64 a5, .float .f64 a6, .int .i64 a7, .bool a8, .bool a9, .bool a10] w fun e w' => e = .returned (.bool true) ∧ Below w.heap.size w w' := by
  obtain ⟨j, hj⟩ := info40
  have hptr := fun (wx : World) (a : Addr) => run_neq_ptr_same (P := Yba.prog) wx a Yba.underlying23 hj
  clear hj
  go_enter Yba.func4, Yba.ntmps4
  go_wp2_with fail
  refine (recost_any w.heap.size (w.heap.size + 1) a0 a0 a1 a2 _ (by omega) ?h1 ?h2 ?h3 ?h4 ?h5 ?h6).mono ?_
  case h1 => go_simp
  case h2 => go_simp
  case h3 => go_simp
  case h4 => go_simp
  case h5 => go_simp
  case h6 => go_simp
  rintro _ w1 ⟨rfl, d, e, T, I, q, hd, he, hT, hI, hw1⟩
  have k1 : w1.cell? ⟨w.heap.size, 1, none⟩ = some (.int .i64 3) := by rw [hw1]; unfold After; go_simp
  have k7 : w1.cell? ⟨w.heap.size, 7, none⟩ = some (.float .f64 a3) := by rw [hw1]; unfold After; go_simp
  have k8 : w1.cell? ⟨w.heap.size, 8, none⟩ = some (.float .f64 a4) := by rw [hw1]; unfold After; go_simp
  have k9 : w1.cell? ⟨w.heap.size, 9, none⟩ = some (.float .f64 a5) := by rw [hw1]; unfold After; go_simp
  have k13 : w1.cell? ⟨w.heap.size, 13, none⟩ = some (.float .f64 a6) := by rw [hw1]; unfold After; go_simp
  have k14 : w1.cell? ⟨w.heap.size, 14, none⟩ = some (.bool a10) := by rw [hw1]; unfold After; go_simp
  have k19 : w1.cell? ⟨w.heap.size, 19, none⟩ = some (.float .f64 T) := by rw [hw1]; unfold After; go_simp
  have k20 : w1.cell? ⟨w.heap.size, 20, none⟩ = some (.int .i64 a7) := by rw [hw1]; unfold After; go_simp
  have k21 : w1.cell? ⟨w.heap.size, 21, none⟩ = some (.float .f64 I) := by rw [hw1]; unfold After; go_simp
  have p0 : w1.cell? ⟨w.heap.size + 1, 0, none⟩ = some (.pointer (some ⟨w.heap.size, 0, none⟩)) := by rw [hw1]; unfold After; go_simp
  have p1 : w1.cell? ⟨w.heap.size + 1, 1, none⟩ = some (.float .f64 a2) := by rw [hw1]; unfold After; go_simp
  have p2 : w1.cell? ⟨w.heap.size + 1, 2, none⟩ = some (.bool a8) := by rw [hw1]; unfold After; go_simp
  have p3 : w1.cell? ⟨w.heap.size + 1, 3, none⟩ = some (.bool a9) := by rw [hw1]; unfold After; go_simp
  have hb : Below w.heap.size w w1 := by
    rw [hw1]; unfold After
    exact below_drewN ((((((Below.refl _ _).alloc (Nat.le_refl _) _).alloc (by simp) _).setCell (Nat.le_refl _) _).setCell (Nat.le_refl _) _).setCell (by simp) _) _
  clear hw1
  have S1 : Alik T I := sums_alike hd he hT hI
  clear hd he hT hI
  go_wp2_with (go_at_call 6; refine (same_any _ _ (.inr rfl) _).mono ?_; rintro _ _ ⟨rfl, rfl⟩)
  go_quiet ((go_at_call 6; exact Calls.quiet_of_same (same_any _ _ S1 _)))
  go_wp2_with (go_at_call 6; refine (same_any _ _ (.inr rfl) _).mono ?_; rintro _ _ ⟨rfl, rfl⟩)
  go_ret
  exact ⟨rfl, below_drewN hb _⟩


set_option maxRecDepth 100000 in
theorem lifted (os : Os) (started : os.Started) (H : Type) (enc : TypeId × Value → H) :
    ReturnsInHanded {} Yba.checked os 4 .any (Rows.lawS0386AKeepsSpec.pre6 enc Yba.prog Yba.f4 Rows.lawS0386AKeepsRow.domain false) (Rows.lawS0386AKeepsSpec.post enc Yba.prog Yba.f4 false true false false) := by
  refine returnsInHanded_of_change (C := Yba.checked) own started (by kernel_rfl) Yba.func4
    (ChangeSpec.witness6 (enc := enc) (C := Yba.checked) false ⟨#[], #[.float .f64 0, .float .f64 0, .float .f64 0, .float .f64 0, .float .f64 0, .float .f64 0, .float .f64 0, .int .i64 0, .bool false, .bool false, .bool false], []⟩ 8 (by kernel_rfl) (by kernel_rfl) (by kernel_rfl) (by kernel_rfl)) ?_
  intro W base args ds gs before hval0 hW hcnd _
  have hval : ∀ (j : Nat) t v, Yba.f4.params[j]? = some t → args[j]? = some v → Value.okWide Yba.prog W .any base t v := hval0
  have hW' := hW
  obtain ⟨p, q, hA0, hV, rfl, hfz, hnd⟩ := hW
  have hA : DataW.TrodAll enc Yba.prog W 0 (fun _ => true) true Yba.f4.params.toList args.toList ds p := hA0
  rw [Yba.params4] at hA hval
  obtain ⟨v0, vs0, d0, ds0, p0, q0, hargs, rfl, rfl, h0, r0⟩ := trodAll_cons hA
  obtain ⟨v1, vs1, d1, ds1, p1, q1, rfl, rfl, rfl, h1, r1⟩ := trodAll_cons r0
  obtain ⟨v2, vs2, d2, ds2, p2, q2, rfl, rfl, rfl, h2, r2⟩ := trodAll_cons r1
  obtain ⟨v3, vs3, d3, ds3, p3, q3, rfl, rfl, rfl, h3, r3⟩ := trodAll_cons r2
  obtain ⟨v4, vs4, d4, ds4, p4, q4, rfl, rfl, rfl, h4, r4⟩ := trodAll_cons r3
  obtain ⟨v5, vs5, d5, ds5, p5, q5, rfl, rfl, rfl, h5, r5⟩ := trodAll_cons r4
  obtain ⟨v6, vs6, d6, ds6, p6, q6, rfl, rfl, rfl, h6, r6⟩ := trodAll_cons r5
  obtain ⟨v7, vs7, d7, ds7, p7, q7, rfl, rfl, rfl, h7, r7⟩ := trodAll_cons r6
  obtain ⟨v8, vs8, d8, ds8, p8, q8, rfl, rfl, rfl, h8, r8⟩ := trodAll_cons r7
  obtain ⟨v9, vs9, d9, ds9, p9, q9, rfl, rfl, rfl, h9, r9⟩ := trodAll_cons r8
  obtain ⟨v10, vs10, d10, ds10, p10, q10, rfl, rfl, rfl, h10, r10⟩ := trodAll_cons r9
  obtain ⟨rfl, rfl, rfl⟩ := trodAll_nil r10
  obtain rfl : args = #[v0, v1, v2, v3, v4, v5, v6, v7, v8, v9, v10] := by cases args; simp_all
  obtain ⟨rfl, rfl⟩ := trodVars_none hV
  obtain ⟨a0, rfl, rfl, rfl, w0⟩ := open_float Yba.underlying22 (hval 0 22 v0 rfl rfl) h0
  obtain ⟨a1, rfl, rfl, rfl, w1⟩ := open_float Yba.underlying22 (hval 1 22 v1 rfl rfl) h1
  obtain ⟨a2, rfl, rfl, rfl, w2⟩ := open_float Yba.underlying22 (hval 2 22 v2 rfl rfl) h2
  obtain ⟨a3, rfl, rfl, rfl, w3⟩ := open_float Yba.underlying22 (hval 3 22 v3 rfl rfl) h3
  obtain ⟨a4, rfl, rfl, rfl, w4⟩ := open_float Yba.underlying22 (hval 4 22 v4 rfl rfl) h4
  obtain ⟨a5, rfl, rfl, rfl, w5⟩ := open_float Yba.underlying22 (hval 5 22 v5 rfl rfl) h5
  obtain ⟨a6, rfl, rfl, rfl, w6⟩ := open_float Yba.underlying22 (hval 6 22 v6 rfl rfl) h6
  obtain ⟨a7, rfl, rfl, rfl, w7⟩ := open_int Yba.underlying3 (hval 7 3 v7 rfl rfl) h7
  obtain ⟨a8, rfl, rfl, rfl⟩ := open_bool Yba.underlying4 (hval 8 4 v8 rfl rfl) h8
  obtain ⟨a9, rfl, rfl, rfl⟩ := open_bool Yba.underlying4 (hval 9 4 v9 rfl rfl) h9
  obtain ⟨a10, rfl, rfl, rfl⟩ := open_bool Yba.underlying4 (hval 10 4 v10 rfl rfl) h10
  clear hA0 hval0
  refine (walk a0 a1 a2 a3 a4 a5 a6 a7 a8 a9 a10 W).mono fun e W' ⟨he, bel⟩ => ?_
  subst he
  exact ⟨_, rfl, _, _, _, [], _, [], hW', trodAll_mk1 (shut_bool Yba.underlying4 _), (trodAll_cons_mk (shut_float Yba.underlying22 w0) (trodAll_cons_mk (shut_float Yba.underlying22 w1) (trodAll_cons_mk (shut_float Yba.underlying22 w2) (trodAll_cons_mk (shut_float Yba.underlying22 w3) (trodAll_cons_mk (shut_float Yba.underlying22 w4) (trodAll_cons_mk (shut_float Yba.underlying22 w5) (trodAll_cons_mk (shut_float Yba.underlying22 w6) (trodAll_cons_mk (shut_int Yba.underlying3 w7) (trodAll_cons_mk (shut_bool Yba.underlying4 a8) (trodAll_cons_mk (shut_bool Yba.underlying4 a9) (trodAll_cons_mk (shut_bool Yba.underlying4 a10) trodAll_mk0))))))))))), rfl, bel.frame _, fun h => by cases h⟩

theorem over : Rows.lawS0386AKeepsRow.holds Yba.pinned (OpenSpec.ofChange Rows.lawS0386AKeepsSpec) :=
  OpenClaim.holds_of_wide 4 Yba.f4 rfl rfl rfl rfl rfl rfl rfl ⟨rfl, rfl, rfl, rfl, rfl⟩ rfl rfl rfl rfl rfl (by kernel_rfl) Yba.func4 (by kernel_rfl)
    (of_decide_eq_true (by kernel_rfl)) (by unfold Func.isWrapper; first | (rw [if_pos (by decide +kernel)]; kernel_rfl) | (rw [if_neg (by decide +kernel)]; exact ⟨rfl, rfl⟩))
    (fun os started H enc _ => lifted os started H enc)

/-- THE STATEMENT -/
theorem proved : Rows.LawS0386AKeepsSaid := over
#print axioms proved
end Go.Proofs.Ybulkgyw.lawS0386AKeeps
