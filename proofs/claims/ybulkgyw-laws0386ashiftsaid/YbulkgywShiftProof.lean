/-
  OWN TEXT. 'Rows.LawS0386AShiftSaid': the walk and the row.
-/
import Derived.Test.YbulkgywRecost
import Derived.ProofKit
import Derived.OpenShut
import Derived.ShutString
import Derived.ChangeOld
import Derived.Below
namespace Go.Proofs.Ybulkgyw.lawS0386AShift
open Go.ChangeShapes Go.WideShapes Go.ChangeAt Go.RowKit

theorem own : ownKnob Yba.prog.godebug = none := by kernel_rfl

/-- What '+' or '-' gives in the world w, and how often it asks the tape. -/
def flv (op : BinOp) (x y : Nat) (w : World) : Nat := match floatBits op .f64 x y with | some r => r | none => nanAt x y w
def fln (op : BinOp) (x y : Nat) : Nat := match floatBits op .f64 x y with | some _ => 0 | none => 1
theorem gives_flv (op : BinOp) (x y : Nat) (w : World) : Gives op x y (flv op x y w) := by
  unfold Gives flv
  cases h : floatBits op .f64 x y with
  | some r => exact .inl rfl
  | none => exact .inr ⟨rfl, nanR_at x y w⟩
theorem run_add (P : Program) (w : World) (t : TypeId) (x y : Nat) : (binOp .add t (.float .f64 x) (.float .f64 y)).run P w = .ok (.float .f64 (flv .add x y w)) (w.drewN (fln .add x y)) := by
  unfold flv fln
  cases h : floatBits .add .f64 x y with
  | some r => exact run_float_arith w .add t .f64 x y r h
  | none => exact run_add_nan w t x y h
theorem run_sub (P : Program) (w : World) (t : TypeId) (x y : Nat) : (binOp .sub t (.float .f64 x) (.float .f64 y)).run P w = .ok (.float .f64 (flv .sub x y w)) (w.drewN (fln .sub x y)) := by
  unfold flv fln
  cases h : floatBits .sub .f64 x y with
  | some r => exact run_float_arith w .sub t .f64 x y r h
  | none => exact run_sub_nan w t x y h

set_option maxHeartbeats 1000000 in
theorem walk (a0 a1 a2 a3 : Nat) (w : World) :
    Calls Yba.prog 3 #[.float .f64 a0, .float .f64 a1, .float .f64 a2, .float .f64 a3] w fun e w' => e = .returned (.bool true) ∧ Below w.heap.size w w' := by
  have ra := fun (wx : World) (x y : Nat) => run_add Yba.prog wx 22 x y
  have rs := fun (wx : World) (x y : Nat) => run_sub Yba.prog wx 22 x y
  go_enter Yba.func3, Yba.ntmps3
  go_wp2_with fail
  refine (recost_any w.heap.size (w.heap.size + 1) a0 a1 a2 a3 _ (by omega) ?h1 ?h2 ?h3 ?h4 ?h5 ?h6).mono ?_
  case h1 => go_simp
  case h2 => go_simp
  case h3 => go_simp
  case h4 => go_simp
  case h5 => go_simp
  case h6 => go_simp
  rintro _ w1 ⟨rfl, d, e, T, I, q, hd, he, hT, hI, hw1⟩
  have k19 : w1.cell? ⟨w.heap.size, 19, none⟩ = some (.float .f64 T) := by rw [hw1]; unfold After; go_simp
  have k21 : w1.cell? ⟨w.heap.size, 21, none⟩ = some (.float .f64 I) := by rw [hw1]; unfold After; go_simp
  have k1 : w1.cell? ⟨w.heap.size + 1, 1, none⟩ = some (.float .f64 a3) := by rw [hw1]; unfold After; go_simp
  have hb : Below w.heap.size w w1 := by
    rw [hw1]; unfold After
    exact below_drewN ((((((Below.refl _ _).alloc (Nat.le_refl _) _).alloc (by simp) _).setCell (Nat.le_refl _) _).setCell (Nat.le_refl _) _).setCell (by simp) _) _
  clear hw1
  have S1 : ∀ wx wy, Alik T (flv .add a0 (flv .sub a3 a2 wx) wy) := fun wx wy => sums_alike hd (gives_flv _ _ _ _) hT (gives_flv _ _ _ _)
  have S2 : ∀ wx wy, Alik I (flv .add a1 (flv .sub a3 a2 wx) wy) := fun wx wy => sums_alike he (gives_flv _ _ _ _) hI (gives_flv _ _ _ _)
  clear hd he hT hI
  go_wp2_with fail
  refine (same_any _ _ (S1 _ _) _).mono ?_
  rintro _ _ ⟨rfl, rfl⟩
  go_wp2_with fail
  refine (same_any _ _ (S2 _ _) _).mono ?_
  rintro _ _ ⟨rfl, rfl⟩
  go_wp2_with fail
  refine (same_any _ _ (.inr rfl) _).mono ?_
  rintro _ _ ⟨rfl, rfl⟩
  go_wp2
  go_ret
  exact ⟨rfl, below_drewN hb _⟩

set_option maxRecDepth 100000 in
theorem lifted (os : Os) (started : os.Started) (H : Type) (enc : TypeId × Value → H) :
    ReturnsInHanded {} Yba.checked os 3 .any (Rows.lawS0386AShiftSpec.pre6 enc Yba.prog Yba.f3 Rows.lawS0386AShiftRow.domain false) (Rows.lawS0386AShiftSpec.post enc Yba.prog Yba.f3 false true false false) := by
  refine returnsInHanded_of_change (C := Yba.checked) own started (by kernel_rfl) Yba.func3
    (ChangeSpec.witness6 (enc := enc) (C := Yba.checked) false ⟨#[], #[.float .f64 0, .float .f64 0, .float .f64 0, .float .f64 0], []⟩ 8 (by kernel_rfl) (by kernel_rfl) (by kernel_rfl) (by kernel_rfl)) ?_
  intro W base args ds gs before hval0 hW hcnd _
  have hval : ∀ (j : Nat) t v, Yba.f3.params[j]? = some t → args[j]? = some v → Value.okWide Yba.prog W .any base t v := hval0
  have hW' := hW
  obtain ⟨p, q, hA0, hV, rfl, hfz, hnd⟩ := hW
  have hA : DataW.TrodAll enc Yba.prog W 0 (fun _ => true) true Yba.f3.params.toList args.toList ds p := hA0
  rw [Yba.params3] at hA hval
  obtain ⟨v0, vs0, d0, ds0, p0, q0, hargs, rfl, rfl, h0, r0⟩ := trodAll_cons hA
  obtain ⟨v1, vs1, d1, ds1, p1, q1, rfl, rfl, rfl, h1, r1⟩ := trodAll_cons r0
  obtain ⟨v2, vs2, d2, ds2, p2, q2, rfl, rfl, rfl, h2, r2⟩ := trodAll_cons r1
  obtain ⟨v3, vs3, d3, ds3, p3, q3, rfl, rfl, rfl, h3, r3⟩ := trodAll_cons r2
  obtain ⟨rfl, rfl, rfl⟩ := trodAll_nil r3
  obtain rfl : args = #[v0, v1, v2, v3] := by cases args; simp_all
  obtain ⟨rfl, rfl⟩ := trodVars_none hV
  obtain ⟨a0, rfl, rfl, rfl, w0⟩ := open_float Yba.underlying22 (hval 0 22 v0 rfl rfl) h0
  obtain ⟨a1, rfl, rfl, rfl, w1⟩ := open_float Yba.underlying22 (hval 1 22 v1 rfl rfl) h1
  obtain ⟨a2, rfl, rfl, rfl, w2⟩ := open_float Yba.underlying22 (hval 2 22 v2 rfl rfl) h2
  obtain ⟨a3, rfl, rfl, rfl, w3⟩ := open_float Yba.underlying22 (hval 3 22 v3 rfl rfl) h3
  clear hA0 hval0
  refine (walk a0 a1 a2 a3 W).mono fun e W' ⟨he, bel⟩ => ?_
  subst he
  exact ⟨_, rfl, _, _, _, [], _, [], hW', trodAll_mk1 (shut_bool Yba.underlying4 _), (trodAll_cons_mk (shut_float Yba.underlying22 w0) (trodAll_cons_mk (shut_float Yba.underlying22 w1) (trodAll_cons_mk (shut_float Yba.underlying22 w2) (trodAll_cons_mk (shut_float Yba.underlying22 w3) trodAll_mk0)))), rfl, bel.frame _, fun h => by cases h⟩

theorem over : Rows.lawS0386AShiftRow.holds Yba.pinned (OpenSpec.ofChange Rows.lawS0386AShiftSpec) :=
  OpenClaim.holds_of_wide 3 Yba.f3 rfl rfl rfl rfl rfl rfl rfl ⟨rfl, rfl, rfl, rfl, rfl⟩ rfl rfl rfl rfl rfl (by kernel_rfl) Yba.func3 (by kernel_rfl)
    (of_decide_eq_true (by kernel_rfl)) (by unfold Func.isWrapper; first | (rw [if_pos (by decide +kernel)]; kernel_rfl) | (rw [if_neg (by decide +kernel)]; exact ⟨rfl, rfl⟩))
    (fun os started H enc _ => lifted os started H enc)

/-- THE STATEMENT -/
theorem proved : Rows.LawS0386AShiftSaid := over
#print axioms proved
end Go.Proofs.Ybulkgyw.lawS0386AShift
