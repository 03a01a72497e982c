/-
  OWN TEXT. Plain facts on the list of places: who is in it, that none is in it twice, what has been met so far.
-/
import Derived.Test.YbulkgzkPlaces
namespace Go.Proofs.Ybulkgzk

theorem mem_placesAt {D : Nat → Bool} {Nm : Nat → ByteArray} {i : Nat} {p : Pl} (h : p ∈ placesAt D Nm i) :
    p = ((i : Int) + 1, false, Nm i) ∨ (D i = true ∧ p = ((i : Int) + 1, true, Nm i ++ slash)) := by
  unfold placesAt at h
  cases hD : D i with
  | false => rw [hD] at h; simp at h; exact .inl h
  | true =>
    rw [hD] at h
    simp at h
    rcases h with h | h
    · exact .inl h
    · exact .inr ⟨rfl, h⟩

theorem mem_placesUpTo {D : Nat → Bool} {Nm : Nat → ByteArray} {s k : Nat} {p : Pl} (h : p ∈ placesUpTo D Nm s k) :
    ∃ t, t < k ∧ (p = (((s + t : Nat) : Int) + 1, false, Nm (s + t)) ∨ (D (s + t) = true ∧ p = (((s + t : Nat) : Int) + 1, true, Nm (s + t) ++ slash))) := by
  unfold placesUpTo at h
  rw [List.mem_flatMap] at h
  obtain ⟨t, ht, hp⟩ := h
  exact ⟨t, by simpa using ht, mem_placesAt hp⟩

/-- What tells two places apart. -/
def key2 (p : Pl) : Int × Bool := (p.1, p.2.1)

theorem nodup_placesUpTo (D : Nat → Bool) (Nm : Nat → ByteArray) (s : Nat) : ∀ k, ((placesUpTo D Nm s k).map key2).Nodup
  | 0 => by simp [placesUpTo]
  | k + 1 => by
    rw [placesUpTo_succ, List.map_append, List.nodup_append]
    refine ⟨nodup_placesUpTo D Nm s k, ?_, ?_⟩
    · unfold placesAt
      split <;> simp [key2]
    · intro a ha b hb hab
      rw [List.mem_map] at ha hb
      obtain ⟨p, hp, rfl⟩ := ha
      obtain ⟨q, hq, rfl⟩ := hb
      obtain ⟨t, ht, hp'⟩ := mem_placesUpTo hp
      have h1 : p.1 = ((s + t : Nat) : Int) + 1 := by rcases hp' with rfl | ⟨_, rfl⟩ <;> rfl
      have h2 : q.1 = ((s + k : Nat) : Int) + 1 := by rcases mem_placesAt hq with rfl | ⟨_, rfl⟩ <;> rfl
      have h3 : (key2 p).1 = (key2 q).1 := congrArg Prod.fst hab
      have h4 : p.1 = q.1 := h3
      omega

/-- Has a place of inode index j, under or not, been met among the first i? -/
def seen (L : List Pl) (s : Nat) (u : Bool) (i j : Nat) : Bool := (L.take i).any fun p => key2 p == (((s + j : Nat) : Int) + 1, u)

theorem seen_zero (L : List Pl) (s : Nat) (u : Bool) (j : Nat) : seen L s u 0 j = false := by simp [seen]

theorem seen_succ (L : List Pl) (s : Nat) (u : Bool) (i j : Nat) (h : i < L.length) : seen L s u (i + 1) j = (seen L s u i j || key2 L[i] == (((s + j : Nat) : Int) + 1, u)) := by
  unfold seen
  rw [List.take_succ_eq_append_getElem h, List.any_append]
  simp

/-- Nobody is met twice. -/
theorem seen_now {L M : List Pl} {s : Nat} {u : Bool} {i j : Nat} (hp : L.Perm M) (hn : (M.map key2).Nodup) (h : i < L.length) (hk : key2 L[i] = (((s + j : Nat) : Int) + 1, u)) : seen L s u i j = false := by
  have hnL : (L.map key2).Nodup := ((hp.map key2).nodup_iff).2 hn
  unfold seen
  rw [List.any_eq_false]
  intro p hpm hpk
  obtain ⟨i', hi', rfl⟩ := List.mem_iff_getElem.1 hpm
  have hi2 : i' < i := by simp at hi'; omega
  have e : key2 L[i'] = key2 L[i] := by
    rw [hk]
    simpa using hpk
  have hmap : (L.map key2)[i']'(by simp; omega) = (L.map key2)[i]'(by simpa using h) := by simpa using e
  have := (List.getElem_inj hnL).1 hmap
  omega

theorem seen_hit (L : List Pl) (s : Nat) (u : Bool) (i j : Nat) (h : i < L.length) (hk : key2 L[i] = (((s + j : Nat) : Int) + 1, u)) : seen L s u (i + 1) j = true := by
  rw [seen_succ L s u i j h, hk]; simp

theorem seen_miss (L : List Pl) (s : Nat) (u u' : Bool) (i j t : Nat) (h : i < L.length) (hk : key2 L[i] = (((s + t : Nat) : Int) + 1, u')) (hne : t ≠ j ∨ u' ≠ u) : seen L s u (i + 1) j = seen L s u i j := by
  rw [seen_succ L s u i j h, hk]
  have : ((((s + t : Nat) : Int) + 1, u') == (((s + j : Nat) : Int) + 1, u)) = false := by
    rw [beq_eq_false_iff_ne]
    intro e
    have e1 := congrArg Prod.fst e
    have e2 := congrArg Prod.snd e
    simp only at e1 e2
    rcases hne with h | h
    · exact h (by omega)
    · exact h e2
  rw [this, Bool.or_false]

/-- The marks: two rows of k bools, in blocks P and U: who has been met among the first i. -/
def Marks (L : List Pl) (s k P U i : Nat) (w : World) : Prop :=
  P < w.heap.size ∧ U < w.heap.size ∧ P ≠ U ∧ ∀ j, j < k → w.cell? ⟨P, j, none⟩ = some (.bool (seen L s false i j)) ∧ w.cell? ⟨U, j, none⟩ = some (.bool (seen L s true i j)) ∧ w.frozen? ⟨P, j, none⟩ = false ∧ w.frozen? ⟨U, j, none⟩ = false

theorem marks_alloc {L : List Pl} {s k P U i : Nat} {w : World} (h : Marks L s k P U i w) (o : Obj) : Marks L s k P U i (w.alloc o) := by
  obtain ⟨hP, hU, hne, hc⟩ := h
  refine ⟨by simp; omega, by simp; omega, hne, fun j hj => ?_⟩
  obtain ⟨a, b, c, d⟩ := hc j hj
  exact ⟨(World.cell?_alloc_past o P j hP).trans a, (World.cell?_alloc_past o U j hU).trans b, (World.frozen?_alloc_past o P j hP).trans c, (World.frozen?_alloc_past o U j hU).trans d⟩

theorem marks_drewN {L : List Pl} {s k P U i : Nat} {w : World} (h : Marks L s k P U i w) (n : Nat) : Marks L s k P U i (w.drewN n) := h

/-- A plain place is met. -/
theorem marks_plain {L : List Pl} {s k P U i t : Nat} {w : World} (h : Marks L s k P U i w) (hi : i < L.length) (hk : key2 L[i] = (((s + t : Nat) : Int) + 1, false)) :
    Marks L s k P U (i + 1) (w.setCell ⟨P, t, none⟩ (.bool true)) := by
  obtain ⟨hP, hU, hne, hc⟩ := h
  refine ⟨by simpa using hP, by simpa using hU, hne, fun j hj => ?_⟩
  obtain ⟨a, b, c, d⟩ := hc j hj
  refine ⟨?_, ?_, by simpa using c, by simpa using d⟩
  · by_cases e : t = j
    · subst e
      rw [World.cell?_setCell_same _ _ _ a, seen_hit L s false i t hi hk]
    · rw [World.cell?_setCell_other _ _ _ _ (fun h => e (congrArg Addr.off h)), a, seen_miss L s false false i j t hi hk (.inl e)]
  · rw [World.cell?_setCell_other _ _ _ _ (fun h => hne (congrArg Addr.block h)), b, seen_miss L s true false i j t hi hk (.inr (by decide))]

/-- A place under a directory is met. -/
theorem marks_under {L : List Pl} {s k P U i t : Nat} {w : World} (h : Marks L s k P U i w) (hi : i < L.length) (hk : key2 L[i] = (((s + t : Nat) : Int) + 1, true)) :
    Marks L s k P U (i + 1) (w.setCell ⟨U, t, none⟩ (.bool true)) := by
  obtain ⟨hP, hU, hne, hc⟩ := h
  refine ⟨by simpa using hP, by simpa using hU, hne, fun j hj => ?_⟩
  obtain ⟨a, b, c, d⟩ := hc j hj
  refine ⟨?_, ?_, by simpa using c, by simpa using d⟩
  · rw [World.cell?_setCell_other _ _ _ _ (fun h => hne (congrArg Addr.block h).symm), a, seen_miss L s false true i j t hi hk (.inr (by decide))]
  · by_cases e : t = j
    · subst e
      rw [World.cell?_setCell_same _ _ _ b, seen_hit L s true i t hi hk]
    · rw [World.cell?_setCell_other _ _ _ _ (fun h => e (congrArg Addr.off h)), b, seen_miss L s true true i j t hi hk (.inl e)]
end Go.Proofs.Ybulkgzk
