/-
  OWN TEXT. The inodes that the law lays: made, then filled one by one.
-/
import Derived.Test.YbulkgzkMarks
import Derived.Deep.MidRow
namespace Go.Proofs.Ybulkgzk
open Go.RowKit

theorem info68 : (Yba.prog.info? 68).map (fun i => (i.zero.isSome, i.size, i.bytes)) = some (true, 48, 152) := by kernel_rfl
theorem info68_parts : ∃ i z, Yba.prog.info? 68 = some i ∧ i.zero = some z ∧ i.size = 48 ∧ i.bytes = 152 := by
  have h := info68
  cases hi : Yba.prog.info? 68 with
  | none => rw [hi] at h; cases h
  | some i =>
    rw [hi] at h
    simp only [Option.map_some, Option.some.injEq, Prod.mk.injEq] at h
    obtain ⟨z, hz⟩ := Option.isSome_iff_exists.1 h.1
    exact ⟨i, z, rfl, hz, h.2.1, h.2.2⟩
theorem size68 : (Yba.prog.info? 68).map (·.size) = some 48 := by kernel_rfl

/-- A guard: the next operation is just this store. -/
theorem at_store_of {P : Program} {ops : Array Oper} {Q : Exit → Act → World → Prop} {rest : List Oper} {a : Act} {w : World} {ty t : TypeId} {x y : Operand} {p : String} {af : Array Edge}
    (h : wpList P ops Q ({ dst := none, op := Op.store t x y, type := ty, pos := p, after := af, guard := none } :: rest) a w) : wpList P ops Q ({ dst := none, op := Op.store t x y, type := ty, pos := p, after := af, guard := none } :: rest) a w := h

/-- What 'make' leaves: the cells are there and may be written. -/
theorem there_made {w : World} {B G n : Nat} {z : Value} (h : w.ownsRow B 68 48 (.slice (some ⟨G, 0, none⟩) n n) n (madeCells z.cells (n * 48)).toList) : w.there G 0 (n * 48) := by
  intro j hj
  rw [Nat.zero_add, h.cellAt j hj]
  exact ⟨by simp [size_madeCells, hj], h.frozenAt j⟩

/-- One inode is stored. -/
theorem fill_step {D : Nat → Bool} {Nm : Nat → ByteArray} {total G k : Nat} {w : World} {cs : List Value} (ht : w.there G 0 (total * 48)) (h : InodesAt D Nm k G w) (hk : k < total) (hl : cs.length = 48)
    (h37 : cs[37]? = some (.int .u32 (modeOf (D k)))) (h44 : cs[44]? = some (.string (Nm k))) :
    (w.setCells G (k * 48) cs).there G 0 (total * 48) ∧ InodesAt D Nm (k + 1) G (w.setCells G (k * 48) cs) := by
  refine ⟨World.there_setCells ht _ _ _, fun i hi => ?_⟩
  by_cases e : i = k
  · subst e
    have hin := World.rangeAt_setCells_same w G (i * 48) cs (fun j hj => by
      have := ht (i * 48 + j) (by omega)
      rwa [Nat.zero_add] at this)
    exact ⟨hin 37 _ h37, hin 44 _ h44⟩
  · obtain ⟨c1, c2⟩ := h i (by omega)
    refine ⟨?_, ?_⟩
    · rw [World.cell?_setCells_out _ _ _ _ _ (fun _ _ => by show i * 48 + 37 < k * 48 ∨ k * 48 + cs.length ≤ i * 48 + 37; omega), c1]
    · rw [World.cell?_setCells_out _ _ _ _ _ (fun _ _ => by show i * 48 + 44 < k * 48 ∨ k * 48 + cs.length ≤ i * 48 + 44; omega), c2]

theorem there_at {w : World} {G total k : Nat} (ht : w.there G 0 (total * 48)) (hk : k < total) : w.there G (k * 48) 48 := fun j hj => by
  have := ht (k * 48 + j) (by omega)
  rwa [Nat.zero_add] at this

theorem below_setCells {B : Nat} {a : World} {G : Nat} (hG : B ≤ G) : ∀ (cs : List Value) (o : Nat) (w : World), Below B a w → Below B a (w.setCells G o cs)
  | [], _, _, h => h
  | v :: r, o, w, h => by
    rw [World.setCells]
    exact below_setCells hG r (o + 1) _ (h.setCell (p := ⟨G, o, none⟩) hG v)

theorem inodes_below {D : Nat → Bool} {Nm : Nat → ByteArray} {total G : Nat} {w w' : World} (h : InodesAt D Nm total G w) (hb : Below w.heap.size w w') (hG : G < w.heap.size) : InodesAt D Nm total G w' := fun i hi =>
  ⟨(hb.cell (by exact hG)).trans (h i hi).1, (hb.cell (by exact hG)).trans (h i hi).2⟩


/-- An inode's 48 cells, as the law builds it. -/
def inodeCells (par num mode : Int) (name : ByteArray) : List Value :=
  [.int .u8 0, .int .u8 0, .int .u8 0, .int .u8 0, .int .u8 0, .int .u8 0, .int .u8 0, .int .u8 0, .int .u8 0, .int .u8 0, .int .u8 0, .int .u8 0, .int .u8 0, .int .u8 0, .int .u8 0, .int .u8 0, .int .u8 0, .int .u8 0, .int .u8 0, .int .u8 0, .int .u8 0, .int .u8 0, .int .u8 0, .int .u8 0, .int .u8 0, .int .u8 0, .int .u8 0, .int .u8 0, .int .u8 0, .int .u8 0, .int .u8 0, .int .u8 0, .int .u64 par, .int .u64 num, .int .u32 0, .int .u32 0, .int .u32 0, .int .u32 mode, .int .u64 0, .int .u64 0, .int .u32 0, .int .u32 0, .int .u64 0, .int .u32 0, .string name, .int .u32 0, .int .u32 0, .slice none 0 0]

theorem inodeCells_size (par num mode : Int) (name : ByteArray) : (inodeCells par num mode name).toArray.size = 48 := rfl
theorem there_cells {w : World} {G o : Nat} (h : w.there G o 48) (par num mode : Int) (name : ByteArray) : w.there G o (inodeCells par num mode name).toArray.size := by rw [inodeCells_size]; exact h
theorem size_cells (par num mode : Int) (name : ByteArray) : (Yba.prog.info? 68).map (·.size) = some (inodeCells par num mode name).toArray.size := by rw [inodeCells_size]; exact size68
theorem there_first {w : World} {G total : Nat} (ht : w.there G 0 (total * 48)) (hk : 0 < total) : w.there G 0 48 := fun j hj => ht j (by omega)

theorem inodeCells_one (par num mode : Int) (name : ByteArray) : (inodeCells par num mode name).toArray.all (·.oneCell') = true :=
  all_oneCell_toArray (fun v hv => by
    simp only [inodeCells, List.mem_cons, List.not_mem_nil, or_false] at hv
    repeat' (first | (rcases hv with rfl | hv; · rfl) | (subst hv; rfl)))

/-- A slice of strings (of bools) that came in, as the law reads it. -/
def StrsAt (Sx : Nat → ByteArray) (w : World) (ao : Option Addr) (n : Nat) : Prop :=
  n = 0 ∨ ∃ b off, ao = some ⟨b, off, none⟩ ∧ b < w.heap.size ∧ ∀ i, i < n → w.cell? ⟨b, off + i, none⟩ = some (.string (Sx i))
def BoolsAt (Bx : Nat → Bool) (w : World) (ao : Option Addr) (n : Nat) : Prop :=
  n = 0 ∨ ∃ b off, ao = some ⟨b, off, none⟩ ∧ b < w.heap.size ∧ ∀ i, i < n → w.cell? ⟨b, off + i, none⟩ = some (.bool (Bx i))
end Go.Proofs.Ybulkgzk
