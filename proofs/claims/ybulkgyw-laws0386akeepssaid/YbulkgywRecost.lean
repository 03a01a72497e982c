/-
  OWN TEXT. '(*Governor).recost' by its contract.
-/
import Derived.Test.YbulkgywFloat
import Derived.RegionTactic
import Derived.ChangeAlike
import Derived.BigRegion
namespace Go.Proofs.Ybulkgyw
open Go.RowKit

theorem run_store_float (P : Program) (w : World) (a : Addr) (m : Mode) (k : FloatKind) (n : Nat) : (store a (.float k n) m).run P w = stored P w a (.float k n) m := run_store P w a _ m rfl
attribute [local go_sem] run_store_float

/-- The governor at block gb, the permit at block pb, as 'recost' leaves them. -/
def After (gb pb T I cost : Nat) (w : World) : World :=
  ((w.setCell ⟨gb, 19, none⟩ (.float .f64 T)).setCell ⟨gb, 21, none⟩ (.float .f64 I)).setCell ⟨pb, 1, none⟩ (.float .f64 cost)

set_option maxHeartbeats 2000000 in
theorem recost_any (gb pb T0 I0 old cost : Nat) (w : World) (hne : gb ≠ pb)
    (c19 : w.cell? ⟨gb, 19, none⟩ = some (.float .f64 T0)) (c21 : w.cell? ⟨gb, 21, none⟩ = some (.float .f64 I0)) (c1 : w.cell? ⟨pb, 1, none⟩ = some (.float .f64 old))
    (f19 : w.frozen? ⟨gb, 19, none⟩ = false) (f21 : w.frozen? ⟨gb, 21, none⟩ = false) (f1 : w.frozen? ⟨pb, 1, none⟩ = false) :
    Calls Yba.prog 5 #[.pointer (some ⟨gb, 0, none⟩), .pointer (some ⟨pb, 0, none⟩), .float .f64 cost] w fun e w' => e = .returned (.tuple #[]) ∧
      ∃ d e T I q, Gives .sub cost old d ∧ Gives .sub cost old e ∧ Gives .add T0 d T ∧ Gives .add I0 e I ∧ w' = (After gb pb T I cost w).drewN q := by
  have hne' : pb ≠ gb := fun e => hne e.symm
  rcases hd : floatBits .sub .f64 cost old with _ | d
  · have HD : Hid (floatBits .sub .f64 cost old = none) := hd
    have r1 := fun wx : World => run_sub_nan (P := Yba.prog) wx 22 cost old hd
    have r2 := fun wx wy : World => run_add_nan (P := Yba.prog) wx 22 T0 (nanAt cost old wy) (add_nan (nanR_at _ _ _))
    have r3 := fun wx wy : World => run_add_nan (P := Yba.prog) wx 22 I0 (nanAt cost old wy) (add_nan (nanR_at _ _ _))
    clear hd
    go_enter Yba.func5, Yba.ntmps5
    go_wp2
    go_region
    go_wp2
    go_region
    go_wp2
    go_end0
    exact ⟨rfl, nanAt cost old w, nanAt cost old w, _, _, 6, .inr ⟨HD.out, nanR_at _ _ _⟩, .inr ⟨HD.out, nanR_at _ _ _⟩, .inr ⟨add_nan (nanR_at _ _ _), nanR_at _ _ _⟩, .inr ⟨add_nan (nanR_at _ _ _), nanR_at _ _ _⟩, rfl⟩
  · have HD : Hid (floatBits .sub .f64 cost old = some d) := hd
    have r1 := fun wx : World => run_float_arith (P := Yba.prog) wx .sub 22 .f64 cost old d hd
    clear hd
    rcases hT : floatBits .add .f64 T0 d with _ | T
    · have HT : Hid (floatBits .add .f64 T0 d = none) := hT
      have r2 := fun wx : World => run_add_nan (P := Yba.prog) wx 22 T0 d hT
      clear hT
      rcases hI : floatBits .add .f64 I0 d with _ | I
      · have HI : Hid (floatBits .add .f64 I0 d = none) := hI
        have r3 := fun wx : World => run_add_nan (P := Yba.prog) wx 22 I0 d hI
        clear hI
        go_enter Yba.func5, Yba.ntmps5
        go_wp2
        go_region
        go_wp2
        go_region
        go_wp2
        go_end0
        exact ⟨rfl, d, d, _, _, 4, .inl HD.out, .inl HD.out, .inr ⟨HT.out, nanR_at _ _ _⟩, .inr ⟨HI.out, nanR_at _ _ _⟩, rfl⟩
      · have HI : Hid (floatBits .add .f64 I0 d = some I) := hI
        have r3 := fun wx : World => run_float_arith (P := Yba.prog) wx .add 22 .f64 I0 d I hI
        clear hI
        go_enter Yba.func5, Yba.ntmps5
        go_wp2
        go_region
        go_wp2
        go_region
        go_wp2
        go_end0
        exact ⟨rfl, d, d, _, _, 3, .inl HD.out, .inl HD.out, .inr ⟨HT.out, nanR_at _ _ _⟩, .inl HI.out, rfl⟩
    · have HT : Hid (floatBits .add .f64 T0 d = some T) := hT
      have r2 := fun wx : World => run_float_arith (P := Yba.prog) wx .add 22 .f64 T0 d T hT
      clear hT
      rcases hI : floatBits .add .f64 I0 d with _ | I
      · have HI : Hid (floatBits .add .f64 I0 d = none) := hI
        have r3 := fun wx : World => run_add_nan (P := Yba.prog) wx 22 I0 d hI
        clear hI
        go_enter Yba.func5, Yba.ntmps5
        go_wp2
        go_region
        go_wp2
        go_region
        go_wp2
        go_end0
        exact ⟨rfl, d, d, _, _, 3, .inl HD.out, .inl HD.out, .inl HT.out, .inr ⟨HI.out, nanR_at _ _ _⟩, rfl⟩
      · have HI : Hid (floatBits .add .f64 I0 d = some I) := hI
        have r3 := fun wx : World => run_float_arith (P := Yba.prog) wx .add 22 .f64 I0 d I hI
        clear hI
        go_enter Yba.func5, Yba.ntmps5
        go_wp2
        go_region
        go_wp2
        go_region
        go_wp2
        go_end0
        exact ⟨rfl, d, d, _, _, 2, .inl HD.out, .inl HD.out, .inl HT.out, .inl HI.out, rfl⟩
end Go.Proofs.Ybulkgyw
