/-
  OWN TEXT. 'resolve.relationItems' by its contract: the items that it makes, said of cells.
-/
import Derived.Test.YbulkgxgRows
import Derived.WalkKit
import Derived.WalkSpells
import Derived.WalkLawsBesides
namespace Go.Proofs.Ybulkgxg
open Go.RowKit

theorem Yba.info28 : (Yba.prog.info? 28).map (fun i => (i.zero, i.size, i.bytes)) = some (some (.agg #[.string ByteArray.empty, .string ByteArray.empty, .string ByteArray.empty]), 3, 48) := by kernel_rfl

/-- Block G holds n items; the first k name the keys, the others are zero. -/
def ItemsAt (K0 K1 : Nat → ByteArray) (n k G : Nat) (w : World) : Prop :=
  G < w.heap.size ∧ ∀ j, j < n → w.cell? ⟨G, j * 3, none⟩ = some (.string ByteArray.empty) ∧ w.cell? ⟨G, j * 3 + 1, none⟩ = some (.string (if j < k then K0 j else ByteArray.empty)) ∧
    w.cell? ⟨G, j * 3 + 2, none⟩ = some (.string (if j < k then K1 j else ByteArray.empty)) ∧ w.frozen? ⟨G, j * 3, none⟩ = false ∧ w.frozen? ⟨G, j * 3 + 1, none⟩ = false ∧ w.frozen? ⟨G, j * 3 + 2, none⟩ = false

theorem made3 (n j : Nat) (hj : j < n * 3) : (madeCells (Value.cells (.agg #[.string ByteArray.empty, .string ByteArray.empty, .string ByteArray.empty])) (n * 3)).toList[j]? = some (.string ByteArray.empty) := by
  have h3 : j % 3 = 0 ∨ j % 3 = 1 ∨ j % 3 = 2 := by omega
  simp only [madeCells, Value.cells, Array.toList_map, Array.toList_range, List.getElem?_map, List.getElem?_range hj, Option.map_some]
  rcases h3 with h | h | h <;> simp [h]

/-- What 'make' leaves. -/
theorem items_made (K0 K1 : Nat → ByteArray) {n B G : Nat} {w : World}
    (h : w.ownsRow B 28 3 (.slice (some ⟨G, 0, none⟩) n n) n (madeCells (Value.cells (.agg #[.string ByteArray.empty, .string ByteArray.empty, .string ByteArray.empty])) (n * 3)).toList) : ItemsAt K0 K1 n 0 G w := by
  refine ⟨(h.lt G rfl).2, fun j hj => ?_⟩
  simp only [Nat.not_lt_zero, if_false]
  refine ⟨?_, ?_, ?_, h.frozenAt _, h.frozenAt _, h.frozenAt _⟩
  · rw [h.cellAt _ (by omega), made3 n _ (by omega)]
  · rw [h.cellAt _ (by omega), made3 n _ (by omega)]
  · rw [h.cellAt _ (by omega), made3 n _ (by omega)]

theorem cell_beside (w : World) (G i j : Nat) (v : Value) (h : i ≠ j) : (w.setCell ⟨G, i, none⟩ v).cell? ⟨G, j, none⟩ = w.cell? ⟨G, j, none⟩ :=
  World.cell?_setCell_other w ⟨G, i, none⟩ ⟨G, j, none⟩ v (fun e => h (congrArg Addr.off e))

/-- One round: item k is stored; a block is laid behind. -/
theorem items_step {K0 K1 : Nat → ByteArray} {n k G : Nat} {w : World} (h : ItemsAt K0 K1 n k G w) (hk : k < n) (o : Obj) :
    ItemsAt K0 K1 n (k + 1) G ((((w.setCell ⟨G, k * 3, none⟩ (.string ByteArray.empty)).setCell ⟨G, k * 3 + 1, none⟩ (.string (K0 k))).setCell ⟨G, k * 3 + 2, none⟩ (.string (K1 k))).alloc o) := by
  obtain ⟨hG, hc⟩ := h
  refine ⟨by simp; omega, fun j hj => ?_⟩
  obtain ⟨c0, c1, c2, f0, f1, f2⟩ := hc j hj
  have hG' : ∀ i, ((((w.setCell ⟨G, k * 3, none⟩ (.string ByteArray.empty)).setCell ⟨G, k * 3 + 1, none⟩ (.string (K0 k))).setCell ⟨G, k * 3 + 2, none⟩ (.string (K1 k))).alloc o).cell? ⟨G, i, none⟩ = (((w.setCell ⟨G, k * 3, none⟩ (.string ByteArray.empty)).setCell ⟨G, k * 3 + 1, none⟩ (.string (K0 k))).setCell ⟨G, k * 3 + 2, none⟩ (.string (K1 k))).cell? ⟨G, i, none⟩ :=
    fun i => World.cell?_alloc_lt _ _ _ (by simpa using hG)
  have hF : ∀ i, ((((w.setCell ⟨G, k * 3, none⟩ (.string ByteArray.empty)).setCell ⟨G, k * 3 + 1, none⟩ (.string (K0 k))).setCell ⟨G, k * 3 + 2, none⟩ (.string (K1 k))).alloc o).frozen? ⟨G, i, none⟩ = w.frozen? ⟨G, i, none⟩ :=
    fun i => by rw [World.frozen?_alloc_past _ _ _ (by simpa using hG)]; simp
  rw [hG', hG', hG', hF, hF, hF]
  refine ⟨?_, ?_, ?_, f0, f1, f2⟩
  · by_cases e : j = k
    · subst e
      rw [cell_beside _ _ (j * 3 + 2) (j * 3) _ (by omega), cell_beside _ _ (j * 3 + 1) (j * 3) _ (by omega), World.cell?_setCell_same _ _ _ c0]
    · rw [cell_beside _ _ (k * 3 + 2) (j * 3) _ (by omega), cell_beside _ _ (k * 3 + 1) (j * 3) _ (by omega), cell_beside _ _ (k * 3) (j * 3) _ (by omega), c0]
  · by_cases e : j = k
    · subst e
      rw [cell_beside _ _ (j * 3 + 2) (j * 3 + 1) _ (by omega), World.cell?_setCell_same _ _ _ ((cell_beside _ _ (j * 3) (j * 3 + 1) _ (by omega)).trans c1), if_pos (by omega)]
    · rw [cell_beside _ _ (k * 3 + 2) (j * 3 + 1) _ (by omega), cell_beside _ _ (k * 3 + 1) (j * 3 + 1) _ (by omega), cell_beside _ _ (k * 3) (j * 3 + 1) _ (by omega), c1]
      by_cases e2 : j < k
      · rw [if_pos e2, if_pos (by omega)]
      · rw [if_neg e2, if_neg (by omega)]
  · by_cases e : j = k
    · subst e
      rw [World.cell?_setCell_same _ _ _ ((cell_beside _ _ (j * 3 + 1) (j * 3 + 2) _ (by omega)).trans ((cell_beside _ _ (j * 3) (j * 3 + 2) _ (by omega)).trans c2)), if_pos (by omega)]
    · rw [cell_beside _ _ (k * 3 + 2) (j * 3 + 2) _ (by omega), cell_beside _ _ (k * 3 + 1) (j * 3 + 2) _ (by omega), cell_beside _ _ (k * 3) (j * 3 + 2) _ (by omega), c2]
      by_cases e2 : j < k
      · rw [if_pos e2, if_pos (by omega)]
      · rw [if_neg e2, if_neg (by omega)]

/-- The keys' cells, of a slice that may be nil or empty. -/
def KeysAt (K0 K1 : Nat → ByteArray) (w : World) (ao : Option Addr) (n : Nat) : Prop :=
  n = 0 ∨ ∃ b off, ao = some ⟨b, off, none⟩ ∧ b < w.heap.size ∧ ∀ i, i < n → w.cell? ⟨b, off + i * 2, none⟩ = some (.string (K0 i)) ∧ w.cell? ⟨b, off + i * 2 + 1, none⟩ = some (.string (K1 i))

set_option maxHeartbeats 400000 in
theorem items_any (ao : Option Addr) (n c : Nat) (K0 K1 : Nat → ByteArray) (w : World) (hn : n ≤ 1024) (hkeys : KeysAt K0 K1 w ao n) :
    Calls Yba.prog 5 #[.slice ao n c] w fun e w' => e = .returned (.slice (some ⟨w.heap.size, 0, none⟩) n n) ∧ ItemsAt K0 K1 n n w.heap.size w' ∧ Below w.heap.size w w' := by
  obtain ⟨i0, hi, hz0, hz1, hz2⟩ := info_parts Yba.info28
  have hby : i0.bytes * n ≤ 281474976710656 := by rw [hz2]; omega
  have hml : n ≤ maxLen := by unfold maxLen; omega
  have hst : ∀ w1 : World, w1.ownsRow w.heap.size 28 3 (.slice (some ⟨w.heap.size, 0, none⟩) n n) n (madeCells (Value.cells (.agg #[.string ByteArray.empty, .string ByteArray.empty, .string ByteArray.empty])) (n * 3)).toList → ItemsAt K0 K1 n 0 w.heap.size w1 := fun _ h => items_made K0 K1 h
  rcases hkeys with rfl | ⟨b, off, rfl, hb, hkc⟩
  · go_enter Yba.func5, Yba.ntmps5
    go_wp2_with (first | (at_make; refine wpList_make_full _ rfl _ _ 23 rfl w.heap.size 28 i0 _ 3 Yba.underlying23 hi hz0 hz1 _ _ _ _ 0 rfl rfl rfl rfl hby hml (Nat.le_refl _) ?_; intro w1 hown hgrow) | fail)
    have hI := hst w1 hown
    have hbel : Below w.heap.size w w1 := (Below.refl _ _).grown hgrow (Nat.le_refl _) (fun k hk => by cases hk)
    clear hst hown hgrow
    refine wp_loop_rounds 1 ?_
    rw [rounds_succ]
    go_wp2
    go_ret
    exact ⟨rfl, hI, hbel⟩
  · go_enter Yba.func5, Yba.ntmps5
    go_wp2_with (first | (at_make; refine wpList_make_full _ rfl _ _ 23 rfl w.heap.size 28 i0 _ 3 Yba.underlying23 hi hz0 hz1 _ _ _ _ n rfl rfl rfl rfl hby hml (Nat.le_refl _) ?_; intro w1 hown hgrow) | fail)
    have hI := hst w1 hown
    have hbel : Below w.heap.size w w1 := (Below.refl _ _).grown hgrow (Nat.le_refl _) (fun k hk => by cases hk)
    clear hst hown hgrow
    go_loopw [11] (fun i wr => ∃ k : Nat, k ≤ n ∧ i = .int .i64 k ∧ ItemsAt K0 K1 n k w.heap.size wr ∧ Below w.heap.size w wr) (fun i _ => n - (intOf i).toNat)
    case atStart => exact ⟨0, Nat.zero_le _, rfl, hI, hbel⟩
    case round =>
      obtain ⟨k, hk, rfl, hIk, hbk⟩ := hrel
      by_cases hlt : k < n
      · have g0 : wr.cell? ⟨b, off + k * 2, none⟩ = some (.string (K0 k)) := (hbk.cell (by exact hb)).trans (hkc k hlt).1
        have g1 : wr.cell? ⟨b, off + k * 2 + 1, none⟩ = some (.string (K1 k)) := (hbk.cell (by exact hb)).trans (hkc k hlt).2
        obtain ⟨z, c0, c1, c2, f0, f1, f2⟩ := (⟨hIk.1, hIk.2 k hlt⟩ : _ ∧ _)
        clear hI hbel hkc
        go_wp2
        go_roundw
        case rel => exact ⟨k + 1, by omega, by go_num, items_step hIk hlt _, (((hbk.setCell (Nat.le_refl _) _).setCell (Nat.le_refl _) _).setCell (Nat.le_refl _) _).alloc (by simp; omega) _⟩
        case measure => simp [intOf]; omega
      · go_wp2
        go_ret
        have : k = n := by omega
        subst this
        exact ⟨rfl, hIk, hbk⟩
end Go.Proofs.Ybulkgxg
