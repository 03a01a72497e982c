/-
  OWN TEXT. '(*pool).put' and '(*sync.Cond).Signal' by their contracts, as far as the law's road goes.
-/
import Derived.Test.YbulkgzkFill
import Derived.Shelf.GgSortFunc.InsertionK
import Derived.Laws.Externs
namespace Go.Proofs.Ybulkgzk
open Go.RowKit Go.MuLone

theorem run_check {P : Program} (c : Addr) (w : World) (hc : w.cell? c = some (.int .u64 0)) (hf : w.frozen? c = false) :
    (Extern.SyncCond.check #[.pointer (some c)]).run P w = .ok (.tuple #[]) (w.setCell c (.pointer (some c))) := by
  change Sem.run P (Bind.bind (asAddr (.pointer (some c))) _) w = _
  simp [asAddr, hc, Extern.SyncCond.isSelf, Extern.SyncCond.none_, hf, run_store_pointer, stored, Result.andThen]

theorem run_notifyOne {P : Program} (b o : Nat) (w : World) (h0 : w.cell? ⟨b, o, none⟩ = some (.int .u32 0)) (h1 : w.cell? ⟨b, o + 1, none⟩ = some (.int .u32 0)) :
    (Extern.SyncCond.notifyOne #[.pointer (some ⟨b, o, none⟩)]).run P w = .ok (.tuple #[]) w := by
  simp [Extern.SyncCond.notifyOne, Extern.SyncCond.list, Extern.SyncCond.counter, Extern.SyncCond.none_, h0, h1, WideShapes.add_plain, Result.andThen]

theorem call35 (args : Array Value) (w : World) : (callFunc 35 args).run Yba.prog w = ((Extern.SyncCond.check args).run Yba.prog w).andThen fun v w' => .ok (.value v) w' :=
  run_callFunc_extern Yba.func35 (by kernel_rfl) (by kernel_rfl) (by kernel_rfl) (by kernel_rfl) args w
theorem call58 (args : Array Value) (w : World) : (callFunc 58 args).run Yba.prog w = ((Extern.SyncCond.notifyOne args).run Yba.prog w).andThen fun v w' => .ok (.value v) w' :=
  run_callFunc_extern Yba.func58 (by kernel_rfl) (by kernel_rfl) (by kernel_rfl) (by kernel_rfl) args w

set_option maxHeartbeats 400000 in
theorem signal_any (P : Nat) (w : World) (c3 : w.cell? ⟨P, 3, none⟩ = some (.int .u32 0)) (c4 : w.cell? ⟨P, 4, none⟩ = some (.int .u32 0)) (c8 : w.cell? ⟨P, 8, none⟩ = some (.int .u64 0)) (f8 : w.frozen? ⟨P, 8, none⟩ = false) :
    Calls Yba.prog 34 #[.pointer (some ⟨P, 2, none⟩)] w fun e w' => e = .returned (.tuple #[]) ∧ w' = w.setCell ⟨P, 8, none⟩ (.pointer (some ⟨P, 8, none⟩)) := by
  have h1 : (callFunc 35 #[.pointer (some ⟨P, 8, none⟩)]).run Yba.prog w = .ok (.value (.tuple #[])) (w.setCell ⟨P, 8, none⟩ (.pointer (some ⟨P, 8, none⟩))) := by
    rw [call35, run_check _ _ c8 f8]; rfl
  have h2 : (callFunc 58 #[.pointer (some ⟨P, 3, none⟩)]).run Yba.prog (w.setCell ⟨P, 8, none⟩ (.pointer (some ⟨P, 8, none⟩))) = .ok (.value (.tuple #[])) (w.setCell ⟨P, 8, none⟩ (.pointer (some ⟨P, 8, none⟩))) := by
    rw [call58, run_notifyOne _ _ _ ((World.cell?_setCell_other _ _ _ _ (by simp)).trans c3) ((World.cell?_setCell_other _ _ _ _ (by simp)).trans c4)]; rfl
  go_enter Yba.func34, Yba.ntmps34
  go_wp2
  go_end0
  exact ⟨rfl, rfl⟩
theorem info22 : (Yba.prog.info? 22).map (fun i => (i.zero, i.size, i.bytes)) = some (some (.slice none 0 0), 1, 24) := by kernel_rfl

theorem new0 {k : Nat} (w : World) (v : Value) (t : TypeId) (hk : w.heap.size = k) : ∀ j u, [v][j]? = some u → (w.alloc (.cells #[v] t)).cell? ((⟨k, 0, none⟩ : Addr).add j) = some u := by
  intro j u h
  subst hk
  rw [WideShapes.add_plain, Nat.zero_add, World.cell?_alloc_new]
  simpa using h

theorem one_slice (p : Option Addr) (n c : Nat) : ∀ u ∈ [Value.slice p n c], u.oneCell' = true := by
  intro u hu
  obtain rfl : u = .slice p n c := by simpa using hu
  rfl

/-- What 'put' leaves of the pool in block P: its free list holds the one buffer of block B. -/
def PutAt (P B : Nat) (w w' : World) : Prop :=
  ∃ g cap, w.heap.size ≤ g ∧ w'.cell? ⟨P, 9, none⟩ = some (.slice (some ⟨g, 0, none⟩) 1 cap) ∧ w'.cell? ⟨g, 0, none⟩ = some (.slice (some ⟨B, 0, none⟩) 262176 262176) ∧ w'.cell? ⟨P, 11, none⟩ = w.cell? ⟨P, 11, none⟩ ∧ Kept [P] w w'

theorem put_row {w w4 : World} {P B : Nat} {v : Value} (hP : P < w.heap.size) (hown : w4.ownsRow w.heap.size 22 1 v 1 [.slice (some ⟨B, 0, none⟩) 262176 262176])
    (hgrow : ((w.setCell ⟨P, 0, none⟩ (.int .i32 1)).alloc (.cells #[.slice (some ⟨B, 0, none⟩) 262176 262176] 22)).grownBy w4 none) :
    (∀ o, w4.cell? ⟨P, o, none⟩ = (w.setCell ⟨P, 0, none⟩ (.int .i32 1)).cell? ⟨P, o, none⟩) ∧ (∀ o, w4.frozen? ⟨P, o, none⟩ = w.frozen? ⟨P, o, none⟩) ∧
      (∃ g cap, v = .slice (some ⟨g, 0, none⟩) 1 cap ∧ w.heap.size ≤ g ∧ w4.cell? ⟨g, 0, none⟩ = some (.slice (some ⟨B, 0, none⟩) 262176 262176)) ∧ Kept [P] w w4 := by
  have hb : w4.heap[P]? = (w.setCell ⟨P, 0, none⟩ (.int .i32 1)).heap[P]? := by
    rw [hgrow.block P (by simp; omega) (by simp), Below.heap_alloc _ _ _ (by simpa using hP)]
  refine ⟨fun o => World.cell?_of_block (a := ⟨P, o, none⟩) hb, fun o => ?_, ?_, ?_⟩
  · rw [World.frozen?_of_block (a := ⟨P, o, none⟩) hb, World.frozen?_setCell]
  · rcases hown.2 with ⟨_, h⟩ | ⟨g, cap, cur, rfl, hg, _⟩
    · simp at h
    · exact ⟨g, cap, rfl, hg, by rw [hown.cellAt 0 (by omega)]; rfl⟩
  · exact Kept.of_grown (((Kept.refl [P] w).setCell (p := ⟨P, 0, none⟩) (.inl (by simp)) _).alloc _) hgrow (fun k hk => by cases hk)

set_option maxRecDepth 100000 in
set_option maxHeartbeats 1000000 in
/-- 'put' into a pool that is free and holds no free buffer. -/
theorem put_any (P B : Nat) (w : World) (h0 : w.cell? ⟨P, 0, none⟩ = some (.int .i32 0)) (f0 : w.frozen? ⟨P, 0, none⟩ = false)
    (c9 : w.cell? ⟨P, 9, none⟩ = some (.slice none 0 0)) (f9 : w.frozen? ⟨P, 9, none⟩ = false) (c3 : w.cell? ⟨P, 3, none⟩ = some (.int .u32 0)) (c4 : w.cell? ⟨P, 4, none⟩ = some (.int .u32 0)) (c8 : w.cell? ⟨P, 8, none⟩ = some (.int .u64 0)) (f8 : w.frozen? ⟨P, 8, none⟩ = false) (hP : P < w.heap.size) :
    Calls Yba.prog 26 #[.pointer (some ⟨P, 0, none⟩), .slice (some ⟨B, 0, none⟩) 262176 262176] w fun e w' => e = .returned (.tuple #[]) ∧ PutAt P B w w' := by
  obtain ⟨i0, hi, hz0, hz1, hz2⟩ := info_parts info22
  have hsl : (w.setCell ⟨P, 0, none⟩ (.int .i32 1)).heap.size = w.heap.size := World.size_setCell _ _ _
  have e0 : (w.setCell ⟨P, 0, none⟩ (.int .i32 1)).cell? ⟨P, 0, none⟩ = some (.int .i32 1) := World.cell?_setCell_same _ _ _ h0
  have eo : ∀ o, o ≠ 0 → (w.setCell ⟨P, 0, none⟩ (.int .i32 1)).cell? ⟨P, o, none⟩ = w.cell? ⟨P, o, none⟩ := fun o ho => World.cell?_setCell_other _ _ _ _ (fun e => ho (congrArg Addr.off e).symm)
  have HSL : Hid ((w.setCell ⟨P, 0, none⟩ (.int .i32 1)).heap.size = w.heap.size) := hsl
  have HE0 : Hid ((w.setCell ⟨P, 0, none⟩ (.int .i32 1)).cell? ⟨P, 0, none⟩ = some (.int .i32 1)) := e0
  have HEO : Hid (∀ o, o ≠ 0 → (w.setCell ⟨P, 0, none⟩ (.int .i32 1)).cell? ⟨P, o, none⟩ = w.cell? ⟨P, o, none⟩) := eo
  clear hsl e0 eo
  go_enter_defers Yba.func26, Yba.ntmps26
  go_wp2_with (first
    | (go_at_call 22; refine (lock_free Yba.muLib ⟨P, 0, none⟩ _ h0 f0).mono ?_; rintro e w' ⟨rfl, rfl⟩)
    | (at_builtin; refine wpList_append_own _ rfl (.tmp 15) (.tmp 17) 53 rfl w.heap.size 22 i0 _ 1 24 Yba.underlying53 hi hz0 hz1 hz2 rfl (by decide) (.slice none 0 0) 0 [] rfl (World.ownsRow_nil _ _ _ _) ⟨w.heap.size, 0, none⟩ 1 1 [.slice (some ⟨B, 0, none⟩) 262176 262176] rfl rfl (new0 _ _ _ HSL.out) (one_slice _ _ _) (by unfold maxLen; omega) (by omega) (by simp) ?_; intro v4 w4 hown4 hgrow4 hnil4; obtain ⟨hc, hf, ⟨g, cap, rfl, hg, hgc⟩, hK⟩ := put_row hP hown4 hgrow4; have d9 : w4.cell? ⟨P, 9, none⟩ = some (.slice none 0 0) := (hc 9).trans ((HEO.out 9 (by omega)).trans c9); have k9 : w4.frozen? ⟨P, 9, none⟩ = false := (hf 9).trans f9; clear hown4 hgrow4 hnil4)
    | fail)
  have s3 : (w4.setCell ⟨P, 9, none⟩ (.slice (some ⟨g, 0, none⟩) 1 cap)).cell? ⟨P, 3, none⟩ = some (.int .u32 0) := (World.cell?_setCell_other _ _ _ _ (by simp)).trans ((hc 3).trans ((HEO.out 3 (by omega)).trans c3))
  have s4 : (w4.setCell ⟨P, 9, none⟩ (.slice (some ⟨g, 0, none⟩) 1 cap)).cell? ⟨P, 4, none⟩ = some (.int .u32 0) := (World.cell?_setCell_other _ _ _ _ (by simp)).trans ((hc 4).trans ((HEO.out 4 (by omega)).trans c4))
  have s8 : (w4.setCell ⟨P, 9, none⟩ (.slice (some ⟨g, 0, none⟩) 1 cap)).cell? ⟨P, 8, none⟩ = some (.int .u64 0) := (World.cell?_setCell_other _ _ _ _ (by simp)).trans ((hc 8).trans ((HEO.out 8 (by omega)).trans c8))
  have s0 : (w4.setCell ⟨P, 9, none⟩ (.slice (some ⟨g, 0, none⟩) 1 cap)).cell? ⟨P, 0, none⟩ = some (.int .i32 1) := (World.cell?_setCell_other _ _ _ _ (by simp)).trans ((hc 0).trans HE0.out)
  have s9 : (w4.setCell ⟨P, 9, none⟩ (.slice (some ⟨g, 0, none⟩) 1 cap)).cell? ⟨P, 9, none⟩ = some (.slice (some ⟨g, 0, none⟩) 1 cap) := World.cell?_setCell_same _ _ _ d9
  have s11 : (w4.setCell ⟨P, 9, none⟩ (.slice (some ⟨g, 0, none⟩) 1 cap)).cell? ⟨P, 11, none⟩ = w.cell? ⟨P, 11, none⟩ := (World.cell?_setCell_other _ _ _ _ (by simp)).trans ((hc 11).trans (HEO.out 11 (by omega)))
  have sg : (w4.setCell ⟨P, 9, none⟩ (.slice (some ⟨g, 0, none⟩) 1 cap)).cell? ⟨g, 0, none⟩ = some (.slice (some ⟨B, 0, none⟩) 262176 262176) := (World.cell?_setCell_other _ _ _ _ (fun e => by have := congrArg Addr.block e; simp at this; omega)).trans hgc
  have sf : ∀ o, (w4.setCell ⟨P, 9, none⟩ (.slice (some ⟨g, 0, none⟩) 1 cap)).frozen? ⟨P, o, none⟩ = w.frozen? ⟨P, o, none⟩ := fun o => by rw [World.frozen?_setCell]; exact hf o
  have sK : Kept [P] w (w4.setCell ⟨P, 9, none⟩ (.slice (some ⟨g, 0, none⟩) 1 cap)) := hK.setCell (.inl (by simp)) _
  generalize w4.setCell ⟨P, 9, none⟩ (.slice (some ⟨g, 0, none⟩) 1 cap) = w5 at *
  have s11' := s11
  clear hc hf hK hgc d9 k9
  refine (signal_any P w5 s3 s4 s8 ((sf 8).trans f8)).mono ?_
  rintro _ w6 ⟨rfl, hw6⟩
  have u0 : w6.cell? ⟨P, 0, none⟩ = some (.int .i32 1) := by rw [hw6]; exact (World.cell?_setCell_other _ _ _ _ (by simp)).trans s0
  have uf : w6.frozen? ⟨P, 0, none⟩ = false := by rw [hw6, World.frozen?_setCell]; exact (sf 0).trans f0
  have hfin : PutAt P B w (w6.setCell ⟨P, 0, none⟩ (.int .i32 0)) := by
    refine ⟨g, cap, hg, ?_, ?_, ?_, ?_⟩
    · rw [World.cell?_setCell_other _ _ _ _ (by simp), hw6, World.cell?_setCell_other _ _ _ _ (by simp)]; exact s9
    · rw [World.cell?_setCell_other _ _ _ _ (fun e => by have := congrArg Addr.block e; simp at this; omega), hw6, World.cell?_setCell_other _ _ _ _ (fun e => by have := congrArg Addr.block e; simp at this; omega)]; exact sg
    · rw [World.cell?_setCell_other _ _ _ _ (by simp), hw6, World.cell?_setCell_other _ _ _ _ (by simp)]; exact s11
    · rw [hw6]
      exact (sK.setCell (p := ⟨P, 8, none⟩) (.inl (by simp)) _).setCell (p := ⟨P, 0, none⟩) (.inl (by simp)) _
  clear hw6 s3 s4 s8 s0 s9 s11 s11' sg sf sK
  go_wp2_with fail
  refine leaves_cons (f := 23) (args := #[.pointer (some ⟨P, 0, none⟩)]) (by simp) (by simp [go_sem]) ?_
  refine (unlock_deferred Yba.muLib ⟨P, 0, none⟩ .returning _ u0 uf).mono ?_
  rintro e u' w'' ⟨rfl, rfl, rfl⟩
  exact ⟨_, results_none rfl _ _ _, rfl, hfin⟩
end Go.Proofs.Ybulkgzk
