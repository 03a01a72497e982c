/-
  OWN TEXT. The end of '(*reply).add': a new piece, kept as the reply's only one.
-/
import Derived.Test.YbulkgzkFill
namespace Go.Proofs.Ybulkgzk
open Go.RowKit

theorem info36 : (Yba.prog.info? 36).map (fun i => (i.zero, i.size, i.bytes)) = some (some (.pointer none), 1, 8) := by kernel_rfl

/-- From w2 to w': a piece (its buffer in block B, its bytes s to total) has been laid, and is the one piece of the reply in block R. -/
def Added (R B s total : Nat) (w2 w' : World) : Prop :=
  ∃ C g cap, w2.heap.size ≤ C ∧ C < w'.heap.size ∧ w2.heap.size ≤ g ∧ g < w'.heap.size ∧ g ≠ C ∧
    w'.cell? ⟨R, 4, none⟩ = some (.slice (some ⟨g, 0, none⟩) 1 cap) ∧ w'.cell? ⟨g, 0, none⟩ = some (.pointer (some ⟨C, 0, none⟩)) ∧
    w'.cell? ⟨C, 0, none⟩ = some (.slice (some ⟨B, 0, none⟩) 262176 262176) ∧ w'.cell? ⟨C, 1, none⟩ = some (.int .i64 s) ∧ w'.cell? ⟨C, 2, none⟩ = some (.int .i64 total) ∧ w'.cell? ⟨C, 3, none⟩ = some (.bool false) ∧
    w'.frozen? ⟨C, 0, none⟩ = false ∧ (∃ c, w'.heap[C]? = some (.cells c 59 (0, 0))) ∧ (∀ o, o ≠ 4 → w'.cell? ⟨R, o, none⟩ = w2.cell? ⟨R, o, none⟩) ∧ (∀ o, w'.frozen? ⟨R, o, none⟩ = w2.frozen? ⟨R, o, none⟩) ∧ Kept [R] w2 w'

def pieceCells (B s : Nat) (total : Int) : Array Value := #[.slice (some ⟨B, 0, none⟩) 262176 262176, .int .i64 s, .int .i64 total, .bool false]

theorem added_of {R B s total : Nat} {T : Int} {w2 w4 : World} {v : Value} (hT : T = (total : Int)) (hR : R < w2.heap.size) (r4 : (w2.cell? ⟨R, 4, none⟩).isSome = true)
    (hown : w4.ownsRow (w2.heap.size + 1) 36 1 v 1 [.pointer (some ⟨w2.heap.size, 0, none⟩)])
    (hgrow : ((w2.alloc (.cells (pieceCells B s T) 59)).alloc (.cells #[.pointer (some ⟨w2.heap.size, 0, none⟩)] 36)).grownBy w4 none) :
    Added R B s total w2 (w4.setCell ⟨R, 4, none⟩ v) ∧ ∃ g cap, v = .slice (some ⟨g, 0, none⟩) 1 cap := by
  rcases hown.2 with ⟨_, h⟩ | ⟨g, cap, cur, rfl, hg, _⟩
  · simp at h
  refine ⟨?_, g, cap, rfl⟩
  have hgl := (hown.lt g rfl).2
  have hsz := hgrow.size
  simp at hsz
  have hc0 : w4.cell? ⟨g, 0, none⟩ = some (.pointer (some ⟨w2.heap.size, 0, none⟩)) := by rw [hown.cellAt 0 (by omega)]; rfl
  have hCb : w4.heap[w2.heap.size]? = some (.cells (pieceCells B s T) 59) := by
    rw [hgrow.block w2.heap.size (by simp; omega) (by simp), Below.heap_alloc _ _ _ (by simp)]
    exact heap_alloc_new w2 _
  have hCc : ∀ o, w4.cell? ⟨w2.heap.size, o, none⟩ = (pieceCells B s T)[o]? := fun o => by simp [World.cell?, hCb]
  have hold : ∀ k, k < w2.heap.size → w4.heap[k]? = w2.heap[k]? := fun k hk => by
    rw [hgrow.block k (by simp; omega) (by simp), Below.heap_alloc _ _ _ (by simp; omega), Below.heap_alloc _ _ _ hk]
  have hRo : ∀ o, w4.cell? ⟨R, o, none⟩ = w2.cell? ⟨R, o, none⟩ := fun o => World.cell?_of_block (hold R hR)
  have hRf : ∀ o, w4.frozen? ⟨R, o, none⟩ = w2.frozen? ⟨R, o, none⟩ := fun o => World.frozen?_of_block (hold R hR)
  obtain ⟨u, hu⟩ := Option.isSome_iff_exists.1 r4
  have hne : ∀ k, w2.heap.size ≤ k → ∀ o, (w4.setCell ⟨R, 4, none⟩ (.slice (some ⟨g, 0, none⟩) 1 cap)).cell? ⟨k, o, none⟩ = w4.cell? ⟨k, o, none⟩ := fun k hk o =>
    World.cell?_setCell_other _ _ _ _ (fun h => by have := congrArg Addr.block h; simp at this; omega)
  have hTc : (.int .i64 T : Value) = .int .i64 (total : Int) := by rw [hT]
  refine ⟨w2.heap.size, g, cap, Nat.le_refl _, by simp; omega, by omega, by simpa using hgl, by omega, ?_, ?_, ?_, ?_, ?_, ?_, ?_, ?_, ?_, ?_, ?_⟩
  · exact World.cell?_setCell_same _ _ _ ((hRo 4).trans hu)
  · rw [hne g (by omega)]; exact hc0
  · rw [hne _ (Nat.le_refl _), hCc]; rfl
  · rw [hne _ (Nat.le_refl _), hCc]; rfl
  · rw [hne _ (Nat.le_refl _), hCc, ← hTc]; rfl
  · rw [hne _ (Nat.le_refl _), hCc]; rfl
  · rw [World.frozen?_setCell]; exact frozen_of_row w4 w2.heap.size 0 _ 59 hCb
  · exact ⟨_, (Below.heap_setCell w4 ⟨R, 4, none⟩ _ _ (by simp; omega)).trans hCb⟩
  · intro o ho
    rw [World.cell?_setCell_other _ _ _ _ (fun h => ho (congrArg Addr.off h).symm)]; exact hRo o
  · intro o
    rw [World.frozen?_setCell]; exact hRf o
  · refine Kept.setCell (Kept.of_grown (((Kept.refl [R] w2).alloc _).alloc _) hgrow (fun k hk => by cases hk)) (.inl (by simp)) _
end Go.Proofs.Ybulkgzk
