/-
  OWN TEXT. A frame for worlds: what has turned lies in the listed blocks or is new; a lock taken and given back leaves the world as it was.
-/
import Derived.Test.YbulkgzkRows
import Derived.WalkKit
import Derived.WalkSpells
import Derived.WalkLawsBesides
import Derived.Sort.Row
namespace Go.Proofs.Ybulkgzk
open Go.RowKit

/-- From w to w' only the blocks of S have turned; new blocks may have been laid. -/
structure Kept (S : List Nat) (w w' : World) : Prop where
  os : w'.os = w.os
  tape : w'.tape = w.tape
  output : w'.output = w.output
  size : w.heap.size ≤ w'.heap.size
  block : ∀ k, k < w.heap.size → k ∉ S → w'.heap[k]? = w.heap[k]?

theorem Kept.refl (S : List Nat) (w : World) : Kept S w w := ⟨rfl, rfl, rfl, Nat.le_refl _, fun _ _ _ => rfl⟩
theorem Kept.trans {S : List Nat} {a b c : World} (h : Kept S a b) (k : Kept S b c) : Kept S a c :=
  ⟨k.os.trans h.os, k.tape.trans h.tape, k.output.trans h.output, Nat.le_trans h.size k.size, fun i hi hs => (k.block i (Nat.lt_of_lt_of_le hi h.size) hs).trans (h.block i hi hs)⟩
theorem Kept.mono {S T : List Nat} {w w' : World} (h : Kept S w w') (hST : ∀ x ∈ S, x ∈ T) : Kept T w w' :=
  ⟨h.os, h.tape, h.output, h.size, fun k hk hn => h.block k hk (fun hx => hn (hST k hx))⟩
theorem Kept.drewN {S : List Nat} {a w : World} (h : Kept S a w) (n : Nat) : Kept S a (w.drewN n) := ⟨h.os, h.tape, h.output, h.size, h.block⟩
theorem Kept.drew {S : List Nat} {a w : World} (h : Kept S a w) : Kept S a w.drew := ⟨h.os, h.tape, h.output, h.size, h.block⟩
theorem Kept.alloc {S : List Nat} {a w : World} (h : Kept S a w) (o : Obj) : Kept S a (w.alloc o) :=
  ⟨h.os, h.tape, h.output, by have := h.size; simp; omega, fun k hk hs => (Below.heap_alloc w o k (Nat.lt_of_lt_of_le hk h.size)).trans (h.block k hk hs)⟩
theorem Kept.setCell {S : List Nat} {a w : World} (h : Kept S a w) {p : Addr} (hp : p.block ∈ S ∨ a.heap.size ≤ p.block) (u : Value) : Kept S a (w.setCell p u) := by
  refine ⟨h.os, h.tape, h.output, by simpa using h.size, fun k hk hs => ?_⟩
  have hne : k ≠ p.block := by
    intro e
    subst e
    rcases hp with hp | hp
    · exact hs hp
    · omega
  exact (Below.heap_setCell w p u k hne).trans (h.block k hk hs)
theorem Kept.of_below {S : List Nat} {B : Nat} {a w w' : World} (h : Kept S a w) (hb : Below B w w') (hB : ∀ k, B ≤ k → k < a.heap.size → k ∈ S) : Kept S a w' :=
  ⟨hb.os.trans h.os, hb.tape.trans h.tape, hb.output.trans h.output, Nat.le_trans h.size hb.size, fun k hk hs => (hb.block k (by
    by_cases hk2 : k < B
    · exact hk2
    · exact absurd (hB k (by omega) hk) hs)).trans (h.block k hk hs)⟩
theorem Kept.of_grown {S : List Nat} {a w w' : World} {row : Option Nat} (h : Kept S a w) (hg : w.grownBy w' row) (hr : ∀ k, row = some k → k ∈ S ∨ a.heap.size ≤ k) : Kept S a w' :=
  ⟨hg.os.trans h.os, hg.tape.trans h.tape, hg.output.trans h.output, Nat.le_trans h.size hg.size, fun k hk hs => (hg.block k (Nat.lt_of_lt_of_le hk h.size) (fun e => by
    rcases hr k e.symm with h1 | h1
    · exact hs h1
    · omega)).trans (h.block k hk hs)⟩
theorem Kept.cell {S : List Nat} {w w' : World} (h : Kept S w w') {p : Addr} (hp : p.block < w.heap.size) (hs : p.block ∉ S) : w'.cell? p = w.cell? p := World.cell?_of_block (h.block p.block hp hs)
theorem Kept.frozen {S : List Nat} {w w' : World} (h : Kept S w w') {p : Addr} (hp : p.block < w.heap.size) (hs : p.block ∉ S) : w'.frozen? p = w.frozen? p := World.frozen?_of_block (h.block p.block hp hs)
theorem Kept.below {S : List Nat} {B : Nat} {a w w' : World} (h : Below B a w) (hk : Kept S w w') (hB : B ≤ w.heap.size) (hS : ∀ x ∈ S, B ≤ x) : Below B a w' :=
  ⟨hk.os.trans h.os, hk.tape.trans h.tape, hk.output.trans h.output, Nat.le_trans h.size hk.size, fun k hb => (hk.block k (by omega) (fun hx => by have := hS k hx; omega)).trans (h.block k hb)⟩

/-- A cell written and written back. -/
theorem setCell_back {w : World} {b o : Nat} {u v : Value} (h : w.cell? ⟨b, o, none⟩ = some v) : (w.setCell ⟨b, o, none⟩ u).setCell ⟨b, o, none⟩ v = w := by
  rw [Sort.setCell_eq, Sort.setCell_eq, Sort.mapBlock_mapBlock]
  refine Sort.mapBlock_id w b _ fun c e fr hb => ?_
  have hc : c[o]? = some v := by simpa [World.cell?, hb] using h
  obtain ⟨ho, hv⟩ := Array.getElem?_eq_some_iff.1 hc
  apply Array.ext_getElem?
  intro i
  by_cases e2 : o = i
  · subst e2
    simp [ho, hv]
  · simp [e2]
end Go.Proofs.Ybulkgzk
