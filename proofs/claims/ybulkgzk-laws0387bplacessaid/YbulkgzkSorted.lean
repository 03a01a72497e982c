/-
  OWN TEXT. 'slices.SortFunc' at places by its contract: of no element (a nil slice too), and of a row that is held.
-/
import Derived.Test.YbulkgzkCmp
import Derived.Test.YbulkgzkSort
namespace Go.Proofs.Ybulkgzk
open Go.RowKit
open Go.Sort (SWO PermIn SortedIn HoldsK)

set_option maxHeartbeats 400000 in
theorem insertion_none (p : Option Addr) (cap : Nat) (fv : Value) (w : World) :
    Calls Yba.prog 39 #[.slice p 0 cap, .int .i64 0, .int .i64 0, fv] w fun e w' => e = .returned (.tuple #[]) ∧ w' = w := by
  go_enter Yba.func39, Yba.ntmps39
  go_wp2
  refine wp_loop_rounds 1 ?_
  rw [rounds_succ]
  go_wp2
  go_end0
  exact ⟨rfl, rfl⟩

set_option maxHeartbeats 1000000 in
theorem pdq_none (p : Option Addr) (cap : Nat) (lim : Int) (fv : Value) (w : World) :
    Calls Yba.prog 29 #[.slice p 0 cap, .int .i64 0, .int .i64 0, .int .i64 lim, fv] w fun e w' => e = .returned (.tuple #[]) ∧ w' = w := by
  go_enter Yba.func29, Yba.ntmps29
  go_wp2_with fail
  refine wp_loop_rounds 1 ?_
  rw [rounds_succ]
  go_wp2_with (go_at_call 39; refine (insertion_none _ _ _ _).mono ?_; rintro e w' ⟨rfl, rfl⟩)
  refine bodyPost_ret (results_none rfl _ _ _) rfl ?_
  exact ⟨rfl, rfl⟩

theorem len_any (n : Int) (w : World) (h0 : 0 ≤ n) (h1 : n ≤ 18446744073709551615) : Calls Yba.prog 30 #[.int .u64 n] w fun e w' => e = .returned (.int .i64 (Lib.bitLen n.toNat : Nat)) ∧ w' = w :=
  Any.bits_Len (SlLaysF0.n15.bits (P := Yba.prog) (ρ := Yba.sortPl_ren) { Yba.sortPl with }) n w h0 h1

set_option maxHeartbeats 1000000 in
theorem sort_none (p : Option Addr) (cap : Nat) (fv : Value) (w : World) :
    Calls Yba.prog 19 #[.slice p 0 cap, fv] w fun e w' => e = .returned (.tuple #[]) ∧ w' = w := by
  go_enter Yba.func19, Yba.ntmps19
  go_wp2_with (first | (go_at_call 30; refine (len_any _ _ (by omega) (by omega)).mono ?_; rintro e w' ⟨rfl, rfl⟩) | (go_at_call 29; refine (pdq_none _ _ _ _ _).mono ?_; rintro e w' ⟨rfl, rfl⟩))
  go_end0
  exact ⟨rfl, rfl⟩

theorem sort_any (g cap : Nat) (d : Array Pl) (w : World) (hH : HoldsK encPl 3 w g 0 d) (hg : g < w.heap.size) (hsz : d.size < 4611686018427387904) :
    Calls Yba.prog 19 #[.slice (some ⟨g, 0, none⟩) d.size cap, .func (.func 20) #[] #[]] w fun e w' =>
      e = .returned (.tuple #[]) ∧ ∃ d' n os, PermIn 0 d.size d d' ∧ SortedIn (ltOf cfPl) 0 d.size d' ∧ w' = sortWorldK encPl 3 w g 0 n d' os :=
  AnyQ.slices_SortFunc Yba.sortPl 3 Yba.isAgg78 Yba.sizeOf78 encPl (fun _ => rfl) (fun x v hv => by simp [encPl] at hv; rcases hv with rfl | rfl | rfl <;> rfl) cfPl swoPl 20 #[] g 0 cap d w
    (enters_of Yba.func20 (by kernel_rfl) rfl) (cmpLays g 0 d.size w) hH hg hsz
end Go.Proofs.Ybulkgzk
