/-
  OWN TEXT. The pool's methods by their contracts, as far as the laws' roads go.
-/
import Derived.Test.YbulkgzkKept
import Derived.Test.YbulkgzkLocks
import Derived.Deep.QuietTactic
import Derived.BigQuiet
namespace Go.Proofs.Ybulkgzk
open Go.RowKit Go.MuLone

/-- The payload's byte q. -/
def payF (seed q : Int) : Int := (q % 256 * 7 % 256 + seed) % 256

set_option maxHeartbeats 400000 in
theorem pay_any (seed q : Int) (w : World) : Calls Yba.prog 8 #[.int .u8 seed, .int .i64 q] w fun e w' => e = .returned (.int .u8 (payF seed q)) ∧ w' = w := by
  go_enter Yba.func8, Yba.ntmps8
  go_wp2
  go_ret
  exact ⟨rfl, rfl⟩

/-- A pool as 'newPool' lays it, in block b. -/
def poolCells (b : Nat) : Array Value :=
  #[.int .i32 0, .int .u32 0, .iface 83 (.pointer (some ⟨b, 0, none⟩)), .int .u32 0, .int .u32 0, .int .u64 0, .pointer none, .pointer none, .int .u64 0, .slice none 0 0, .slice none 0 0, .int .i64 0]

set_option maxHeartbeats 400000 in
theorem newPool_any (w : World) : Calls Yba.prog 9 #[] w fun e w' => e = .returned (.pointer (some ⟨w.heap.size, 0, none⟩)) ∧ w' = w.alloc (.cells (poolCells w.heap.size) 55) := by
  go_enter Yba.func9, Yba.ntmps9
  go_wp2
  go_ret
  exact ⟨rfl, rfl⟩

set_option maxHeartbeats 400000 in
theorem unpark_any (P C : Nat) (ao : Option Addr) (n c : Nat) (w : World) (h0 : w.cell? ⟨P, 0, none⟩ = some (.int .i32 0)) (f0 : w.frozen? ⟨P, 0, none⟩ = false)
    (c0 : w.cell? ⟨C, 0, none⟩ = some (.slice ao n c)) (c3 : w.cell? ⟨C, 3, none⟩ = some (.bool false)) (hPC : P ≠ C) :
    Calls Yba.prog 14 #[.pointer (some ⟨P, 0, none⟩), .pointer (some ⟨C, 0, none⟩)] w fun e w' => e = .returned (.bool ao.isSome) ∧ w' = w := by
  have hCP : C ≠ P := fun e => hPC e.symm
  have hnil := fun wx : World => run_neq_slice_nil_any (P := Yba.prog) wx
  go_enter_defers Yba.func14, Yba.ntmps14
  go_wp2_with (go_at_call 22; refine (lock_free Yba.muLib ⟨P, 0, none⟩ _ h0 f0).mono ?_; rintro e w' ⟨rfl, rfl⟩)
  refine leaves_cons (f := 23) (args := #[.pointer (some ⟨P, 0, none⟩)]) (by simp) (by simp [go_sem]) ?_
  refine (unlock_deferred Yba.muLib ⟨P, 0, none⟩ .returning _ ?_ ?_).mono ?_
  · exact World.cell?_setCell_same w ⟨P, 0, none⟩ (.int .i32 1) h0
  · simp [f0]
  rintro e u' w'' ⟨rfl, rfl, rfl⟩
  exact ⟨_, results_tmp rfl _ _ _, rfl, setCell_back h0⟩

theorem info5 : (Yba.prog.info? 5).map (fun i => (i.zero, i.size, i.bytes)) = some (some (.int .u8 0), 1, 1) := by kernel_rfl

/-- The world at the end of 'get': the lock's word, the count, a new buffer. -/
theorem get_end {P : Nat} {m : Int} {w w1 : World} {xs : List Value} {n : Nat} (h0 : w.cell? ⟨P, 0, none⟩ = some (.int .i32 0)) (c11 : w.cell? ⟨P, 11, none⟩ = some (.int .i64 m)) (hP : P < w.heap.size)
    (hown : w1.ownsRow w.heap.size 5 1 (.slice (some ⟨w.heap.size, 0, none⟩) n n) n xs)
    (hgrow : ((w.setCell ⟨P, 0, none⟩ (.int .i32 1)).setCell ⟨P, 11, none⟩ (.int .i64 (m + 1))).grownBy w1 none) :
    (w1.cell? ⟨P, 0, none⟩ = some (.int .i32 1) ∧ w1.frozen? ⟨P, 0, none⟩ = w.frozen? ⟨P, 0, none⟩) ∧
    (w1.setCell ⟨P, 0, none⟩ (.int .i32 0)).ownsRow w.heap.size 5 1 (.slice (some ⟨w.heap.size, 0, none⟩) n n) n xs ∧
    (w1.setCell ⟨P, 0, none⟩ (.int .i32 0)).cell? ⟨P, 11, none⟩ = some (.int .i64 (m + 1)) ∧ w.grownBy (w1.setCell ⟨P, 0, none⟩ (.int .i32 0)) (some P) ∧
    (∀ o, o ≠ 11 → (w1.setCell ⟨P, 0, none⟩ (.int .i32 0)).cell? ⟨P, o, none⟩ = w.cell? ⟨P, o, none⟩) ∧ (∀ o, (w1.setCell ⟨P, 0, none⟩ (.int .i32 0)).frozen? ⟨P, o, none⟩ = w.frozen? ⟨P, o, none⟩) := by
  have hb := hgrow.block P (by simpa using hP) (by simp)
  have hc : ∀ o, w1.cell? ⟨P, o, none⟩ = ((w.setCell ⟨P, 0, none⟩ (.int .i32 1)).setCell ⟨P, 11, none⟩ (.int .i64 (m + 1))).cell? ⟨P, o, none⟩ := fun o => World.cell?_of_block hb
  have hf : ∀ o, w1.frozen? ⟨P, o, none⟩ = w.frozen? ⟨P, o, none⟩ := fun o => by rw [World.frozen?_of_block (w := (w.setCell ⟨P, 0, none⟩ (.int .i32 1)).setCell ⟨P, 11, none⟩ (.int .i64 (m + 1))) hb]; simp
  have e0 : w1.cell? ⟨P, 0, none⟩ = some (.int .i32 1) := by
    rw [hc, World.cell?_setCell_other _ ⟨P, 11, none⟩ ⟨P, 0, none⟩ _ (by simp), World.cell?_setCell_same w ⟨P, 0, none⟩ _ h0]
  have e11 : w1.cell? ⟨P, 11, none⟩ = some (.int .i64 (m + 1)) := by
    rw [hc, World.cell?_setCell_same _ ⟨P, 11, none⟩ _ ((World.cell?_setCell_other w ⟨P, 0, none⟩ ⟨P, 11, none⟩ _ (by simp)).trans c11)]
  refine ⟨⟨e0, hf 0⟩, ownsRow_setCell_below hown (by exact hP) _, ?_, ?_, fun o ho => ?_, fun o => by rw [World.frozen?_setCell]; exact hf o⟩
  · rw [World.cell?_setCell_other _ ⟨P, 0, none⟩ ⟨P, 11, none⟩ _ (by simp)]; exact e11
  · refine ⟨hgrow.os, hgrow.tape, hgrow.output, by have := hgrow.size; simpa using this, fun k hk hne => ?_⟩
    have hkP : k ≠ P := fun e => hne (by rw [e])
    rw [Below.heap_setCell w1 ⟨P, 0, none⟩ _ k hkP, hgrow.block k (by simpa using hk) (by simp), Below.heap_setCell _ ⟨P, 11, none⟩ _ k hkP, Below.heap_setCell _ ⟨P, 0, none⟩ _ k hkP]
  · by_cases hz : o = 0
    · subst hz
      rw [World.cell?_setCell_same _ ⟨P, 0, none⟩ _ e0, h0]
    · rw [World.cell?_setCell_other _ ⟨P, 0, none⟩ ⟨P, o, none⟩ _ (fun h => hz (congrArg Addr.off h).symm), hc, World.cell?_setCell_other _ ⟨P, 11, none⟩ ⟨P, o, none⟩ _ (fun h => ho (congrArg Addr.off h).symm), World.cell?_setCell_other _ ⟨P, 0, none⟩ ⟨P, o, none⟩ _ (fun h => hz (congrArg Addr.off h).symm)]

set_option maxRecDepth 100000 in
set_option maxHeartbeats 1000000 in
/-- 'get' where nothing is free and fewer than sixteen are made: a new buffer. -/
theorem get_any (P : Nat) (m : Int) (w : World) (h0 : w.cell? ⟨P, 0, none⟩ = some (.int .i32 0)) (f0 : w.frozen? ⟨P, 0, none⟩ = false)
    (c9 : w.cell? ⟨P, 9, none⟩ = some (.slice none 0 0)) (c11 : w.cell? ⟨P, 11, none⟩ = some (.int .i64 m)) (f11 : w.frozen? ⟨P, 11, none⟩ = false) (hm0 : 0 ≤ m) (hm : m < 16) (hP : P < w.heap.size) :
    Calls Yba.prog 17 #[.pointer (some ⟨P, 0, none⟩), .bool true] w fun e w' => e = .returned (.slice (some ⟨w.heap.size, 0, none⟩) 262176 262176) ∧
      w'.ownsRow w.heap.size 5 1 (.slice (some ⟨w.heap.size, 0, none⟩) 262176 262176) 262176 (madeCells (Value.cells (.int .u8 0)) (262176 * 1)).toList ∧
      w'.cell? ⟨P, 11, none⟩ = some (.int .i64 (m + 1)) ∧ w.grownBy w' (some P) ∧ (∀ o, o ≠ 11 → w'.cell? ⟨P, o, none⟩ = w.cell? ⟨P, o, none⟩) ∧ (∀ o, w'.frozen? ⟨P, o, none⟩ = w.frozen? ⟨P, o, none⟩) := by
  obtain ⟨i0, hi, hz0, hz1, hz2⟩ := info_parts info5
  have hby : i0.bytes * 262176 ≤ 281474976710656 := by rw [hz2]; omega
  have hml : 262176 ≤ maxLen := by unfold maxLen; omega
  go_enter_defers Yba.func17, Yba.ntmps17
  go_wp2_with (go_at_call 22; refine (lock_free Yba.muLib ⟨P, 0, none⟩ _ h0 f0).mono ?_; rintro e w' ⟨rfl, rfl⟩)
  refine wp_loop_rounds 1 ?_
  rw [rounds_succ]
  go_wp2_with (first | (at_make; refine wpList_make_full _ rfl _ _ 22 rfl w.heap.size 5 i0 _ 1 Yba.underlying22 hi hz0 hz1 _ _ _ _ 262176 rfl rfl rfl rfl hby hml (by simp) ?_; intro w1 hown hgrow) | fail)
  simp only [World.size_setCell] at hown
  obtain ⟨hk, hown2, hg⟩ := get_end h0 c11 hP hown hgrow
  refine leaves_cons (f := 23) (args := #[.pointer (some ⟨P, 0, none⟩)]) (by simp) (by simp [go_sem]) ?_
  refine (unlock_deferred Yba.muLib ⟨P, 0, none⟩ .returning _ hk.1 (by rw [hk.2, f0])).mono ?_
  rintro e u' w'' ⟨rfl, rfl, rfl⟩
  exact ⟨_, results_tmp rfl _ _ _, rfl, hown2, hg.1, hg.2.1, hg.2.2.1, hg.2.2.2⟩
end Go.Proofs.Ybulkgzk
