/-
  OWN TEXT. '(*Bootstrap).places' by its contract.
-/
import Derived.Test.YbulkgzkSorted
import Derived.Deep.QuietTactic
import Derived.BigQuiet
namespace Go.Proofs.Ybulkgzk
open Go.RowKit
open Go.Sort (SWO PermIn SortedIn HoldsK)

theorem Yba.info78 : (Yba.prog.info? 78).map (fun i => (i.zero, i.size, i.bytes)) = some (some (.agg #[.int .u64 0, .bool false, .string ByteArray.empty]), 3, 32) := by kernel_rfl

/-- The mode of an inode: a directory's or a file's. -/
def modeOf (d : Bool) : Int := if d then 16877 else 33188

set_option maxHeartbeats 400000 in
theorem isDir_any (b o : Nat) (d : Bool) (w : World) (hc : w.cell? ⟨b, o + 37, none⟩ = some (.int .u32 (modeOf d))) :
    Calls Yba.prog 18 #[.pointer (some ⟨b, o, none⟩)] w fun e w' => e = .returned (.bool d) ∧ w' = w := by
  cases d
  · have hc' : w.cell? ⟨b, o + 37, none⟩ = some (.int .u32 33188) := hc
    clear hc
    go_enter Yba.func18, Yba.ntmps18
    go_wp2
    go_ret
    exact ⟨rfl, rfl⟩
  · have hc' : w.cell? ⟨b, o + 37, none⟩ = some (.int .u32 16877) := hc
    clear hc
    go_enter Yba.func18, Yba.ntmps18
    go_wp2
    go_ret
    exact ⟨rfl, rfl⟩

def slash : ByteArray := ⟨#[47]⟩

/-- The inodes in block G: what the road reads of them. -/
def InodesAt (D : Nat → Bool) (Nm : Nat → ByteArray) (total G : Nat) (w : World) : Prop :=
  ∀ i, i < total → w.cell? ⟨G, i * 48 + 37, none⟩ = some (.int .u32 (modeOf (D i))) ∧ w.cell? ⟨G, i * 48 + 44, none⟩ = some (.string (Nm i))

/-- The places of inode number i + 1. -/
def placesAt (D : Nat → Bool) (Nm : Nat → ByteArray) (i : Nat) : List Pl :=
  ((i : Int) + 1, false, Nm i) :: if D i then [((i : Int) + 1, true, Nm i ++ slash)] else []

/-- The places of k inodes from index s on. -/
def placesUpTo (D : Nat → Bool) (Nm : Nat → ByteArray) (s k : Nat) : List Pl := (List.range k).flatMap fun i => placesAt D Nm (s + i)

theorem placesUpTo_succ (D : Nat → Bool) (Nm : Nat → ByteArray) (s k : Nat) : placesUpTo D Nm s (k + 1) = placesUpTo D Nm s k ++ placesAt D Nm (s + k) := by
  simp [placesUpTo, List.range_succ, List.flatMap_append]

theorem placesAt_le (D : Nat → Bool) (Nm : Nat → ByteArray) (i : Nat) : (placesAt D Nm i).length ≤ 2 := by
  unfold placesAt
  split <;> simp

theorem placesUpTo_le (D : Nat → Bool) (Nm : Nat → ByteArray) (s : Nat) : ∀ k, (placesUpTo D Nm s k).length ≤ 2 * k
  | 0 => by simp [placesUpTo]
  | k + 1 => by
    rw [placesUpTo_succ, List.length_append]
    have := placesUpTo_le D Nm s k
    have := placesAt_le D Nm (s + k)
    omega

def cellsOf (L : List Pl) : List Value := L.flatMap encPl

theorem cellsOf_append (L M : List Pl) : cellsOf (L ++ M) = cellsOf L ++ cellsOf M := by simp [cellsOf]

theorem cellsOf_get : ∀ (L : List Pl) (j : Nat), j < L.length * 3 → (cellsOf L)[j]? = some (encPl L.toArray[j / 3]!)[j % 3]!
  | [], j, h => by simp at h
  | x :: L, j, h => by
    have e : cellsOf (x :: L) = encPl x ++ cellsOf L := by simp [cellsOf]
    rw [e]
    by_cases h3 : j < 3
    · rw [List.getElem?_append_left (by simpa [encPl] using h3)]
      have h0 : j / 3 = 0 := by omega
      have h1 : j % 3 = j := by omega
      rw [h0, h1]
      have hj : j = 0 ∨ j = 1 ∨ j = 2 := by omega
      rcases hj with rfl | rfl | rfl <;> rfl
    · rw [List.getElem?_append_right (by simp [encPl]; omega)]
      have ih := cellsOf_get L (j - 3) (by simp at h; omega)
      have hl : (encPl x).length = 3 := rfl
      rw [hl, ih]
      have e1 : j / 3 = (j - 3) / 3 + 1 := by omega
      have e2 : j % 3 = (j - 3) % 3 := by omega
      rw [e1, e2]
      congr 2
      have hlt : (j - 3) / 3 < L.length := by simp at h; omega
      simp [hlt]

/-- A slice of places, as the law reads it. -/
def ResAt (L : List Pl) (v : Value) (w : World) : Prop :=
  ∃ ao cap, v = .slice ao L.length cap ∧ (L = [] ∨ ∃ g, ao = some ⟨g, 0, none⟩ ∧ g < w.heap.size ∧ ∀ i (h : i < L.length), w.cell? ⟨g, i * 3, none⟩ = some (.int .u64 L[i].1) ∧ w.cell? ⟨g, i * 3 + 1, none⟩ = some (.bool L[i].2.1) ∧ w.cell? ⟨g, i * 3 + 2, none⟩ = some (.string L[i].2.2))

/-- No later key is less than an earlier one. -/
def Ascends (L : List Pl) : Prop := ∀ i (h : i + 1 < L.length), ¬ Lib.compareBytes L[i + 1].2.2.data.toList L[i].2.2.data.toList < 0

theorem holds_owned {w : World} {B g cap : Nat} {L : List Pl} (h : w.ownsRow B 78 3 (.slice (some ⟨g, 0, none⟩) L.length cap) L.length (cellsOf L)) : HoldsK encPl 3 w g 0 L.toArray := by
  intro j hj
  rw [Sort.size_flatK] at hj
  have hj' : j < L.length * 3 := by simpa using hj
  rw [Nat.zero_add, Sort.get_flatK _ _ _ _ hj]
  exact ⟨by rw [h.cellAt j hj', cellsOf_get L j hj']; rfl, h.frozenAt j⟩

theorem below_sorted {w : World} {B g n : Nat} {d : Array Pl} {os : Array Obj} (hB : B ≤ w.heap.size) (hg : B ≤ g) : Below B w (sortWorldK encPl 3 w g 0 n d os) := by
  refine ⟨rfl, rfl, rfl, ?_, fun k hk => ?_⟩
  · simp [sortWorldK, Sort.grow, Sort.putRowK, Sort.putRow, Sort.mapBlock, Sort.ahead]
  · unfold sortWorldK
    rw [Sort.heap_grow_old _ _ (by simp [Sort.putRowK, Sort.putRow, Sort.mapBlock, Sort.ahead]; omega)]
    simp [Sort.putRowK, Sort.putRow, Sort.mapBlock, Sort.ahead, Array.getElem?_modify]
    omega

theorem res_sorted {w : World} {B g cap n : Nat} {L : List Pl} {d : Array Pl} {os : Array Obj} (h : w.ownsRow B 78 3 (.slice (some ⟨g, 0, none⟩) L.length cap) L.length (cellsOf L))
    (hp : PermIn 0 L.toArray.size L.toArray d) (hs : SortedIn (ltOf cfPl) 0 L.toArray.size d) :
    ResAt d.toList (.slice (some ⟨g, 0, none⟩) L.length cap) (sortWorldK encPl 3 w g 0 n d os) ∧ d.toList.Perm L ∧ Ascends d.toList := by
  obtain ⟨hsz, _, hperm⟩ := hp
  have hsz' : d.size = L.length := by simpa using hsz
  have hgl : g < w.heap.size := (h.lt g rfl).2
  have hH := holds_owned h
  have hH2 : HoldsK encPl 3 (sortWorldK encPl 3 w g 0 n d os) g 0 d := by
    unfold sortWorldK
    refine Sort.holdsK_grow _ _ _ _ _ _ _ (by simpa [Sort.putRowK, Sort.putRow, Sort.mapBlock, Sort.ahead] using hgl) ?_
    exact Sort.holdsK_putRowK encPl 3 (Sort.ahead w n) g 0 L.toArray d (Sort.holdsK_ahead encPl 3 w n g 0 _ hH) (by simpa using hsz')
  refine ⟨⟨some ⟨g, 0, none⟩, cap, by simp [hsz'], .inr ⟨g, rfl, ?_, fun i hi => ?_⟩⟩, ?_, fun i hi => ?_⟩
  · simp [sortWorldK, Sort.grow, Sort.putRowK, Sort.putRow, Sort.mapBlock, Sort.ahead]; omega
  · have hi' : i < d.size := by simpa using hi
    have c0 := (hH2.cell (i := i) (c := 0) hi' (by omega)).1
    have c1 := (hH2.cell (i := i) (c := 1) hi' (by omega)).1
    have c2 := (hH2.cell (i := i) (c := 2) hi' (by omega)).1
    rw [getElem!_pos d i hi'] at c0 c1 c2
    simp only [Nat.zero_add, Nat.add_zero] at c0 c1 c2
    exact ⟨c0, c1, c2⟩
  · have e1 : (d.extract 0 L.toArray.size).toList = d.toList := by simp [← hsz']
    have e2 : (L.toArray.extract 0 L.toArray.size).toList = L := by simp
    rw [e1, e2] at hperm
    exact hperm
  · have hi' : i + 1 < d.size := by simpa using hi
    have := hs i (i + 1) (Nat.zero_le _) (by omega) (by simp; omega)
    rw [getElem!_pos d i (by omega), getElem!_pos d (i + 1) hi'] at this
    exact of_decide_eq_false this

theorem news_at (w : World) (cs : List Value) (t : TypeId) (j : Nat) (u : Value) (h : cs[j]? = some u) : (w.alloc (.cells cs.toArray t)).cell? ((⟨w.heap.size, 0, none⟩ : Addr).add j) = some u := by
  rw [WideShapes.add_plain, Nat.zero_add, World.cell?_alloc_new]
  simpa using h

theorem one3 (a : Int) (b : Bool) (s : ByteArray) : ∀ u ∈ [Value.int .u64 a, .bool b, .string s], u.oneCell' = true := by
  intro u hu
  simp only [List.mem_cons, List.not_mem_nil, or_false] at hu
  rcases hu with rfl | rfl | rfl <;> rfl

/-- A round that meets a file. -/
theorem own_file {D : Nat → Bool} {Nm : Nat → ByteArray} {s j B : Nat} {v : Value} {w : World} (hD : D (s + j) = false)
    (h : w.ownsRow B 78 3 v ((placesUpTo D Nm s j).length + 1) (cellsOf (placesUpTo D Nm s j) ++ [.int .u64 (((s + j : Nat) : Int) + 1), .bool false, .string (Nm (s + j))])) :
    w.ownsRow B 78 3 v (placesUpTo D Nm s (j + 1)).length (cellsOf (placesUpTo D Nm s (j + 1))) := by
  have e : placesAt D Nm (s + j) = [(((s + j : Nat) : Int) + 1, false, Nm (s + j))] := by unfold placesAt; rw [hD]; rfl
  rw [placesUpTo_succ, e, cellsOf_append, List.length_append]
  exact h

/-- A round that meets a directory. -/
theorem own_dir {D : Nat → Bool} {Nm : Nat → ByteArray} {s j B : Nat} {v : Value} {w : World} (hD : D (s + j) = true)
    (h : w.ownsRow B 78 3 v ((placesUpTo D Nm s j).length + 1 + 1) (cellsOf (placesUpTo D Nm s j) ++ [.int .u64 (((s + j : Nat) : Int) + 1), .bool false, .string (Nm (s + j))] ++ [.int .u64 (((s + j : Nat) : Int) + 1), .bool true, .string (Nm (s + j) ++ slash)])) :
    w.ownsRow B 78 3 v (placesUpTo D Nm s (j + 1)).length (cellsOf (placesUpTo D Nm s (j + 1))) := by
  have e : placesAt D Nm (s + j) = [(((s + j : Nat) : Int) + 1, false, Nm (s + j)), (((s + j : Nat) : Int) + 1, true, Nm (s + j) ++ slash)] := by unfold placesAt; rw [hD]; rfl
  rw [placesUpTo_succ, e, cellsOf_append, List.length_append]
  have e2 : cellsOf [(((s + j : Nat) : Int) + 1, false, Nm (s + j)), (((s + j : Nat) : Int) + 1, true, Nm (s + j) ++ slash)] = [.int .u64 (((s + j : Nat) : Int) + 1), .bool false, .string (Nm (s + j))] ++ [.int .u64 (((s + j : Nat) : Int) + 1), .bool true, .string (Nm (s + j) ++ slash)] := rfl
  rw [e2, ← List.append_assoc]
  exact h

set_option maxRecDepth 100000 in
set_option maxHeartbeats 2000000 in
theorem places_any (D : Nat → Bool) (Nm : Nat → ByteArray) (total G DB BB s k : Nat) (w : World) (hk : s + k ≤ total) (ht : total ≤ 257) (hs : ∀ i, (Nm i).size ≤ 140737488351232)
    (hG : G < w.heap.size) (hDB : DB < w.heap.size) (hBB : BB < w.heap.size) (hI : InodesAt D Nm total G w)
    (cb : w.cell? ⟨BB, 4, none⟩ = some (.slice (some ⟨G, 0, none⟩) total total)) (c45 : w.cell? ⟨DB, 45, none⟩ = some (.int .u32 ((s : Int) + 1))) (c46 : w.cell? ⟨DB, 46, none⟩ = some (.int .u32 k)) :
    Calls Yba.prog 13 #[.pointer (some ⟨BB, 0, none⟩), .pointer (some ⟨DB, 0, none⟩)] w fun e w' => ∃ v L, e = .returned v ∧ ResAt L v w' ∧ L.Perm (placesUpTo D Nm s k) ∧ Ascends L ∧ Below w.heap.size w w' := by
  obtain ⟨i0, hi, hz0, hz1, hz2⟩ := info_parts Yba.info78
  go_enter Yba.func13, Yba.ntmps13
  go_wp2
  go_loopw [5, 6] (fun v t wr => ∃ j ix : Nat, j ≤ k ∧ Hid (ix = s + j) ∧ t = .int .u64 ((ix : Int) + 1) ∧ wr.ownsRow w.heap.size 78 3 v (placesUpTo D Nm s j).length (cellsOf (placesUpTo D Nm s j)) ∧ Below w.heap.size w wr) (fun _ t _ => s + 1 + k - (intOf t).toNat)
  case atStart => exact ⟨0, s, Nat.zero_le _, show s = s + 0 by omega, rfl, World.ownsRow_nil _ _ _ _, Below.refl _ _⟩
  case round =>
    obtain ⟨j, ix, hj, HX, rfl, hown, hbel⟩ := hrel
    have cb' : wr.cell? ⟨BB, 4, none⟩ = some (.slice (some ⟨G, 0, none⟩) total total) := (hbel.cell (by exact hBB)).trans cb
    have c45' : wr.cell? ⟨DB, 45, none⟩ = some (.int .u32 ((s : Int) + 1)) := (hbel.cell (by exact hDB)).trans c45
    have c46' : wr.cell? ⟨DB, 46, none⟩ = some (.int .u32 k) := (hbel.cell (by exact hDB)).trans c46
    have hix0 : ix ≤ 257 := by have := HX.out; omega
    by_cases hlt : j < k
    · have hix : ix < total := by have := HX.out; omega
      have hlt' : (ix : Int) + 1 < (s : Int) + 1 + (k : Int) := by have := HX.out; omega
      go_wp2
      go_quiet (fail)
      have hown2 : (wr.drewN nq).ownsRow w.heap.size 78 3 u5 (placesUpTo D Nm s j).length (cellsOf (placesUpTo D Nm s j)) := hown
      have hbel2 : Below w.heap.size w (wr.drewN nq) := below_drewN hbel nq
      generalize wr.drewN nq = w2 at hown2 hbel2 ⊢
      clear cb' c45' c46' hown hbel
      have g37 : w2.cell? ⟨G, ix * 48 + 37, none⟩ = some (.int .u32 (modeOf (D ix))) := (hbel2.cell (by exact hG)).trans (hI ix hix).1
      have g44 : w2.cell? ⟨G, ix * 48 + 44, none⟩ = some (.string (Nm ix)) := (hbel2.cell (by exact hG)).trans (hI ix hix).2
      have cb2 : w2.cell? ⟨BB, 4, none⟩ = some (.slice (some ⟨G, 0, none⟩) total total) := (hbel2.cell (by exact hBB)).trans cb
      have hz : w.heap.size ≤ w2.heap.size := hbel2.size
      have hlen : (placesUpTo D Nm s j).length ≤ 600 := by have := placesUpTo_le D Nm s j; omega
      have hlt5 := hown2.lt
      go_wp2_with (first | (at_builtin; refine wpList_append_own _ rfl (.tmp 35) (.tmp 42) 75 rfl w.heap.size 78 i0 _ 3 32 Yba.underlying75 hi hz0 hz1 hz2 rfl (by decide) u5 _ _ rfl (hown2.alloc _) ⟨w2.heap.size, 0, none⟩ 1 1 [.int .u64 ((ix : Int) + 1), .bool false, .string (Nm ix)] rfl rfl (news_at w2 _ 78) (one3 _ _ _) (by unfold maxLen; omega) (by omega) (by simp; omega) ?_; intro v3 w3 hown3 hgrow3 hnil3) | fail)
      have hbel3 : Below w.heap.size w w3 := (hbel2.alloc hz _).grown hgrow3 (by simp; omega) (fun b hb => (hlt5 b hb).1)
      have q37 : w3.cell? ⟨G, ix * 48 + 37, none⟩ = some (.int .u32 (modeOf (D ix))) := (hbel3.cell (by exact hG)).trans (hI ix hix).1
      have q44 : w3.cell? ⟨G, ix * 48 + 44, none⟩ = some (.string (Nm ix)) := (hbel3.cell (by exact hG)).trans (hI ix hix).2
      clear g37 g44 cb2 hown2 hbel2 hgrow3 hnil3 hlt5
      have hz3 : w.heap.size ≤ w3.heap.size := hbel3.size
      have hlt3 := hown3.lt
      refine (isDir_any G (ix * 48) (D ix) w3 q37).mono ?_
      rintro _ w3 ⟨rfl, rfl⟩
      cases hD : D ix
      · have HD : Hid (D ix = false) := hD
        clear hD
        go_wp2
        go_roundw
        case rel =>
          obtain rfl := HX.out
          exact ⟨j + 1, s + j + 1, by omega, show s + j + 1 = s + (j + 1) by omega, by go_num, own_file HD.out hown3, hbel3⟩
        case measure => have := HX.out; simp [intOf]; omega
      · have HD : Hid (D ix = true) := hD
        clear hD
        have hsx := hs ix
        go_wp2_with (first | (at_builtin; refine wpList_append_own _ rfl (.tmp 46) (.tmp 54) 75 rfl w.heap.size 78 i0 _ 3 32 Yba.underlying75 hi hz0 hz1 hz2 rfl (by decide) v3 _ _ rfl (hown3.alloc _) ⟨w3.heap.size, 0, none⟩ 1 1 [.int .u64 ((ix : Int) + 1), .bool true, .string (Nm ix ++ { data := #[47] })] rfl rfl (news_at w3 _ 78) (one3 _ _ _) (by unfold maxLen; omega) (by omega) (by simp; omega) ?_; intro v4 w4 hown4 hgrow4 hnil4) | fail)
        have hbel4 : Below w.heap.size w w4 := (hbel3.alloc hz3 _).grown hgrow4 (by simp; omega) (fun b hb => (hlt3 b hb).1)
        clear hgrow4 hnil4 hlt3
        go_roundw
        case rel =>
          obtain rfl := HX.out
          exact ⟨j + 1, s + j + 1, by omega, show s + j + 1 = s + (j + 1) by omega, by go_num, own_dir HD.out hown4, hbel4⟩
        case measure => have := HX.out; simp [intOf]; omega
    · have hlt' : ¬ (ix : Int) + 1 < (s : Int) + 1 + (k : Int) := by have := HX.out; omega
      obtain rfl : j = k := by omega
      go_wp2
      go_quiet (fail)
      go_wp2_with fail
      have hown2 : (wr.drewN nq).ownsRow w.heap.size 78 3 u5 (placesUpTo D Nm s j).length (cellsOf (placesUpTo D Nm s j)) := hown
      have hbel2 : Below w.heap.size w (wr.drewN nq) := below_drewN hbel nq
      generalize wr.drewN nq = w2 at hown2 hbel2 ⊢
      have hlen : (placesUpTo D Nm s j).length ≤ 600 := by have := placesUpTo_le D Nm s j; omega
      obtain ⟨L, hL⟩ : ∃ L, L = placesUpTo D Nm s j := ⟨_, rfl⟩
      rw [← hL] at hown2 hlen
      have HL : Hid (L = placesUpTo D Nm s j) := hL
      clear hL
      have hz : w.heap.size ≤ w2.heap.size := hbel2.size
      clear cb' c45' c46' hown hbel
      rcases hown2.2 with ⟨rfl, hn⟩ | ⟨g, cap, cur, rfl, hg, _⟩
      · obtain rfl : L = [] := List.eq_nil_of_length_eq_zero hn
        refine (sort_none none 0 _ w2).mono ?_
        rintro _ _ ⟨rfl, rfl⟩
        go_wp2
        go_ret
        exact ⟨_, [], rfl, ⟨none, 0, rfl, .inl rfl⟩, HL.out ▸ List.Perm.refl _, fun i h => absurd h (by simp), hbel2⟩
      · have hgl := (hown2.lt g rfl).2
        have hc := sort_any g cap L.toArray w2 (holds_owned hown2) hgl (by simp; omega)
        rw [List.size_toArray] at hc
        refine hc.mono ?_
        rintro _ w3 ⟨rfl, d, n, os, hp, hsd, rfl⟩
        have hres := res_sorted (n := n) (os := os) hown2 (by simpa using hp) (by simpa using hsd)
        have hb3 := below_sorted (w := w2) (n := n) (d := d) (os := os) hz hg
        generalize sortWorldK encPl 3 w2 g 0 n d os = w3 at hres hb3 ⊢
        clear hc hp hsd
        go_wp2
        go_ret
        exact ⟨_, d.toList, rfl, hres.1, HL.out ▸ hres.2.1, hres.2.2, hbel2.trans hb3⟩
end Go.Proofs.Ybulkgzk
