/-
  OWN TEXT. '(*reply).add' by its contract, where bytes of the head are copied.
-/
import Derived.Test.YbulkgzkAdded
import Derived.Laws.CopyOwn
import Derived.Deep.RegionLaw
import Derived.Deep.RegionWith
import Derived.Shelf.GgSortFunc.InsertionK
namespace Go.Proofs.Ybulkgzk
open Go.RowKit Go.MuLone

theorem size5 : (Yba.prog.info? 5).map (·.size) = some 1 := by kernel_rfl

theorem news1 (w : World) (o : Obj) (v : Value) (t : TypeId) : ∀ j u, [v][j]? = some u → ((w.alloc o).alloc (.cells #[v] t)).cell? ((⟨w.heap.size + 1, 0, none⟩ : Addr).add j) = some u := by
  intro j u h
  rw [WideShapes.add_plain, Nat.zero_add]
  have e : w.heap.size + 1 = (w.alloc o).heap.size := by simp
  rw [e, World.cell?_alloc_new]
  simpa using h

theorem one1 (p : Option Addr) : ∀ u ∈ [Value.pointer p], u.oneCell' = true := by
  intro u hu
  obtain rfl : u = .pointer p := by simpa using hu
  rfl

theorem added_old {R : Nat} {w2 w4 : World} {o1 o2 : Obj} {row : Option Nat} (hgrow : ((w2.alloc o1).alloc o2).grownBy w4 row) (hR : R < w2.heap.size) (hrow : some R ≠ row := by simp [Value.ownBlock]) :
    w4.cell? ⟨R, 4, none⟩ = w2.cell? ⟨R, 4, none⟩ ∧ w4.frozen? ⟨R, 4, none⟩ = w2.frozen? ⟨R, 4, none⟩ := by
  have hb : w4.heap[R]? = w2.heap[R]? := by
    rw [hgrow.block R (by simp; omega) hrow, Below.heap_alloc _ _ _ (by simp; omega), Below.heap_alloc _ _ _ hR]
  exact ⟨World.cell?_of_block (a := ⟨R, 4, none⟩) hb, World.frozen?_of_block (a := ⟨R, 4, none⟩) hb⟩

theorem splice_head {w : World} {B i : Nat} {cur X : List Value} (h : w.heap[B]? = some (.cells (splice cur 0 X).toArray 5 (0, 0))) (hi : i < X.length) : w.cell? ⟨B, i, none⟩ = X[i]? := by
  simp only [World.cell?, h]
  simp [splice, List.getElem?_append_left hi]

/-- What the law asks of a fill that works. -/
def FillOk (g : Nat) (cb : Array Value) (B : Nat) (S : List Nat) (seed : Int) (w : World) (FP : World → Nat → Nat → Int → World → Prop) : Prop :=
  (∀ (off len cap : Nat) (pos : Int) (w1 : World), off + len ≤ 262176 → len ≤ 4096 → 0 ≤ pos → pos ≤ 4096 → Below B w w1 → (∀ j, j < len → (w1.cell? ⟨B, off + j, none⟩).isSome = true ∧ w1.frozen? ⟨B, off + j, none⟩ = false) →
    Calls Yba.prog g (#[.slice (some ⟨B, off, none⟩) len cap, .int .i64 pos] ++ cb) w1 fun e w2 => e = .returned .nilIface ∧ FP w1 off len pos w2) ∧
  (∀ w1 off len pos w2, FP w1 off len pos w2 → (∀ j, j < len → w2.cell? ⟨B, off + j, none⟩ = some (.int .u8 (payF seed (pos + j)))) ∧ (∀ o, o < off → w2.cell? ⟨B, o, none⟩ = w1.cell? ⟨B, o, none⟩) ∧ Kept (B :: S) w1 w2)

theorem there_row {w : World} {B : Nat} {cs : List Value} (h : w.heap[B]? = some (.cells cs.toArray 5 (0, 0))) (o : Nat) (ho : o < cs.length) : (w.cell? ⟨B, o, none⟩).isSome = true ∧ w.frozen? ⟨B, o, none⟩ = false :=
  ⟨by simp [World.cell?, h, ho], frozen_of_row w B o _ 5 h⟩

/-- The buffer behind a copy of the head's end and a fill: the reply's bytes from s on. -/
theorem bytes_both {B hl n s kk : Nat} {seed : Int} {Hb : Nat → Int} {cur X : List Value} {w2 w3 : World} (hkk : kk = hl - s) (hs : s < hl) (hX : X = (List.range kk).map fun i => .int .u8 (Hb (s + i)))
    (hB : w2.heap[B]? = some (.cells (splice cur 0 X).toArray 5 (0, 0))) (h1 : ∀ j, j < n → w3.cell? ⟨B, kk + j, none⟩ = some (.int .u8 (payF seed (0 + j)))) (h2 : ∀ o, o < kk → w3.cell? ⟨B, o, none⟩ = w2.cell? ⟨B, o, none⟩) :
    ∀ i, i < hl + n - s → w3.cell? ⟨B, i, none⟩ = some (.int .u8 (byteF Hb hl seed (s + i))) := by
  intro i hi
  by_cases h : i < kk
  · rw [h2 i h, splice_head hB (by rw [hX]; simpa using h), hX]
    simp only [byteF]
    rw [if_pos (by omega)]
    simp [h]
  · obtain ⟨j, rfl⟩ : ∃ j, i = kk + j := ⟨i - kk, by omega⟩
    rw [h1 j (by omega)]
    simp only [byteF]
    rw [if_neg (by omega)]
    congr 3
    omega

theorem fill_keeps {g : Nat} {cb : Array Value} {B : Nat} {S : List Nat} {seed : Int} {w w1 w2 : World} {FP : World → Nat → Nat → Int → World → Prop} {off len : Nat} {pos : Int} {R : Nat} {v : Value}
    (hfill : FillOk g cb B S seed w FP) (h : FP w1 off len pos w2) (hRB : R < B) (hRS : R ∉ S) (hR : R < w1.heap.size) (hc : w1.cell? ⟨R, 4, none⟩ = some v) (hf : w1.frozen? ⟨R, 4, none⟩ = false) :
    Kept (B :: S) w1 w2 ∧ w2.cell? ⟨R, 4, none⟩ = some v ∧ w2.frozen? ⟨R, 4, none⟩ = false ∧ R < w2.heap.size := by
  have hK := (hfill.2 _ _ _ _ _ h).2.2
  have hn : R ∉ B :: S := by simp [hRS]; omega
  exact ⟨hK, (hK.cell (p := ⟨R, 4, none⟩) hR hn).trans hc, (hK.frozen (p := ⟨R, 4, none⟩) hR hn).trans hf, Nat.lt_of_lt_of_le hR hK.size⟩

set_option linter.unusedVariables false in
set_option maxRecDepth 100000 in
set_option maxHeartbeats 4000000 in
theorem add_headonly (R P B H hl n s : Nat) (g : Nat) (cb : Array Value) (S : List Nat) (seed : Int) (FP : World → Nat → Nat → Int → World → Prop) (cur : List Value) (Hb : Nat → Int) (w : World) (hhl : hl ≤ 1024) (hn : n ≤ 2047) (hs : s ≤ hl + n) (hsh : s < hl) (hn0 : n = 0)
    (hRB : R < B) (hBw : B < w.heap.size) (hRS : R ∉ S) (eg : ∀ args w, (callFunc g args).run Yba.prog w = .ok (.enter g args) w) (hfill : FillOk g cb B S seed w FP)
    (r1 : w.cell? ⟨R, 1, none⟩ = some (.slice (some ⟨H, 0, none⟩) hl hl)) (r2 : w.cell? ⟨R, 2, none⟩ = some (.int .i64 n)) (r3 : w.cell? ⟨R, 3, none⟩ = some (.func (.func g) #[] cb)) (r4 : w.cell? ⟨R, 4, none⟩ = some (.slice none 0 0)) (f4 : w.frozen? ⟨R, 4, none⟩ = false)
    (hB : w.heap[B]? = some (.cells cur.toArray 5 (0, 0))) (hcur : cur.length = 262176) (hH : ∀ q, q < hl → w.cell? ⟨H, q, none⟩ = some (.int .u8 (Hb q))) :
    Calls Yba.prog 16 #[.pointer (some ⟨R, 0, none⟩), .pointer (some ⟨P, 0, none⟩), .slice (some ⟨B, 0, none⟩) 262176 262176, .int .i64 s] w fun e w' =>
      e = .returned .nilIface ∧ ∃ wf, Added R B s (hl + n) wf w' ∧ (∀ i, i < hl + n - s → wf.cell? ⟨B, i, none⟩ = some (.int .u8 (byteF Hb hl seed (s + i)))) ∧
        ((max s hl < hl + n ∧ ∃ w1 off, Below B w w1 ∧ FP w1 off (hl + n - max s hl) ((max s hl : Nat) - hl : Int) wf) ∨ (¬ max s hl < hl + n ∧ Below B w wf)) := by
  have HN : Hid (n = 0) := hn0
  obtain ⟨i0, hi, hz0, hz1, hz2⟩ := info_parts info36
  have hmin : min ((hl : Int) + (n : Int)) ((s : Int) + 262176) = (hl : Int) + n := by omega
  obtain ⟨kk, hkk⟩ : ∃ kk, kk = hl - s := ⟨_, rfl⟩
  obtain ⟨d, hd⟩ : ∃ d, d = kk + n := ⟨_, rfl⟩
  have hd1 : (hl : Int) + (n : Int) - (s : Int) = (d : Int) := by omega
  have hd2 : (d : Int) ≤ 262176 := by omega
  have hwd : IntKind.i64.wrap (d : Int) = (d : Int) := by rw [IntKind.wrap_i64]; omega
  have hsh2 : (s : Int) < (hl : Int) := by omega
  have hkn : hl - s = kk := hkk.symm
  have hsl : s ≤ hl := by omega
  have hsne : ¬ hl = s := by omega
  obtain ⟨X, hX⟩ : ∃ X : List Value, X = (List.range kk).map fun i => .int .u8 (Hb (s + i)) := ⟨_, rfl⟩
  have hXl : X.length = kk := by rw [hX]; simp
  have hX1 : ∀ v ∈ X, v.oneCell' = true := by
    intro v hv
    rw [hX] at hv
    obtain ⟨i, _, rfl⟩ := List.mem_map.1 hv
    rfl
  have hXs : ∀ j v, X[j]? = some v → w.cell? ⟨H, s + j, none⟩ = some v := by
    intro j v hv
    rw [hX] at hv
    have hj : j < kk := by have := (List.getElem?_eq_some_iff.1 hv).1; simpa using this
    rw [hH (s + j) (by omega), ← hv]
    simp [hj]
  have HX : Hid (X = (List.range kk).map fun i => .int .u8 (Hb (s + i))) := hX
  have HXL : Hid (X.length = kk) := hXl
  have HX1 : Hid (∀ v ∈ X, v.oneCell' = true) := hX1
  have HXS : Hid (∀ j v, X[j]? = some v → w.cell? ⟨H, s + j, none⟩ = some v) := hXs
  have HB : Hid (w.heap[B]? = some (.cells cur.toArray 5 (0, 0))) := hB
  have HCUR : Hid (cur.length = 262176) := hcur
  have HKK : Hid (kk = hl - s) := hkk
  have HD : Hid (d = kk + n) := hd
  clear hX hX1 hXs hB hcur hkk hd hXl hH
  have hn1 : ¬ (hl : Int) < (hl : Int) + (n : Int) := by omega
  clear hn0
  go_enter Yba.func16, Yba.ntmps16
  go_wp2_with (go_at_call 27; refine (len_reply R H hl hl n _ (by exact r1) (by exact r2) (by omega) (by omega) hhl).mono ?_; rintro e w' ⟨rfl, q, rfl⟩)
  go_region_law (refine step_copy_splice rfl (.tmp 30) (.tmp 36) 22 22 rfl 5 Yba.underlying22 size5 (some ⟨B, 0, none⟩) (some ⟨H, s, none⟩) d 262176 kk kk (by simp [Act.eval, Act.put]) (by simp [Act.eval, Act.put]) B 0 cur 5 HB.out X (by rw [HXL.out]; have := HD.out; show kk = min kk d; omega) (fun _ => ⟨rfl, _, rfl, fun j v hv => by rw [WideShapes.add_plain]; exact HXS.out j v hv⟩) (by have := HXL.out; have := HCUR.out; have := HKK.out; omega) HX1.out B w (below_drewN (Below.refl _ _) _) (Nat.le_refl _) ?_; intro w2 HB2 hb2)
  have hXl := HXL.out
  have hsk : (s : Int) + (kk : Int) = (hl : Int) := by have := HKK.out; omega
  have r1' := (hb2.cell (p := ⟨R, 1, none⟩) (by exact hRB)).trans r1
  have r3' := (hb2.cell (p := ⟨R, 3, none⟩) (by exact hRB)).trans r3
  have r4' := (hb2.cell (p := ⟨R, 4, none⟩) (by exact hRB)).trans r4
  have f4' := (hb2.frozen (p := ⟨R, 4, none⟩) (by exact hRB)).trans f4
  have r4s : (w2.cell? ⟨R, 4, none⟩).isSome = true := by rw [r4']; rfl
  have hw2 : w.heap.size ≤ w2.heap.size := hb2.size
  have hRw : R < w2.heap.size := by omega
  go_wp2_with (first | (at_builtin; refine wpList_append_own _ rfl (.tmp 73) (.tmp 79) 31 rfl (w2.heap.size + 1) 36 i0 _ 1 8 Yba.underlying31 hi hz0 hz1 hz2 rfl (by decide) (.slice none 0 0) 0 [] rfl (World.ownsRow_nil _ _ _ _) ⟨w2.heap.size + 1, 0, none⟩ 1 1 [.pointer (some ⟨w2.heap.size, 0, none⟩)] rfl rfl (news1 w2 _ _ _) (one1 _) (by unfold maxLen; omega) (by omega) (by simp) ?_; intro v4 w4 hown4 hgrow4 hnil4; obtain ⟨hA, g4, cap4, rfl⟩ := added_of (R := R) (B := B) (s := s) (total := hl + n) (T := (hl : Int) + n) (by simp) hRw r4s hown4 hgrow4; have r4w : w4.cell? ⟨R, 4, none⟩ = some (.slice none 0 0) := (added_old hgrow4 hRw).1.trans r4'; have f4w : w4.frozen? ⟨R, 4, none⟩ = false := (added_old hgrow4 hRw).2.trans f4'; clear hown4 hgrow4 hnil4) | fail)
  go_ret
  have hn0 := HN.out
  refine ⟨rfl, w2, hA, fun i hi => ?_, .inr ⟨by omega, hb2⟩⟩
  have hkk := HKK.out
  rw [splice_head HB2.out (by omega), HX.out]
  simp only [byteF]
  rw [if_pos (by omega)]
  simp [show i < kk by omega]

set_option maxRecDepth 100000 in
set_option maxHeartbeats 4000000 in
theorem add_both (R P B H hl n s : Nat) (g : Nat) (cb : Array Value) (S : List Nat) (seed : Int) (FP : World → Nat → Nat → Int → World → Prop) (cur : List Value) (Hb : Nat → Int) (w : World) (hhl : hl ≤ 1024) (hn : n ≤ 2047) (hs : s ≤ hl + n) (hsh : s < hl) (hn0 : ¬ n = 0)
    (hRB : R < B) (hBw : B < w.heap.size) (hRS : R ∉ S) (eg : ∀ args w, (callFunc g args).run Yba.prog w = .ok (.enter g args) w) (hfill : FillOk g cb B S seed w FP)
    (r1 : w.cell? ⟨R, 1, none⟩ = some (.slice (some ⟨H, 0, none⟩) hl hl)) (r2 : w.cell? ⟨R, 2, none⟩ = some (.int .i64 n)) (r3 : w.cell? ⟨R, 3, none⟩ = some (.func (.func g) #[] cb)) (r4 : w.cell? ⟨R, 4, none⟩ = some (.slice none 0 0)) (f4 : w.frozen? ⟨R, 4, none⟩ = false)
    (hB : w.heap[B]? = some (.cells cur.toArray 5 (0, 0))) (hcur : cur.length = 262176) (hH : ∀ q, q < hl → w.cell? ⟨H, q, none⟩ = some (.int .u8 (Hb q))) :
    Calls Yba.prog 16 #[.pointer (some ⟨R, 0, none⟩), .pointer (some ⟨P, 0, none⟩), .slice (some ⟨B, 0, none⟩) 262176 262176, .int .i64 s] w fun e w' =>
      e = .returned .nilIface ∧ ∃ wf, Added R B s (hl + n) wf w' ∧ (∀ i, i < hl + n - s → wf.cell? ⟨B, i, none⟩ = some (.int .u8 (byteF Hb hl seed (s + i)))) ∧
        ((max s hl < hl + n ∧ ∃ w1 off, Below B w w1 ∧ FP w1 off (hl + n - max s hl) ((max s hl : Nat) - hl : Int) wf) ∨ (¬ max s hl < hl + n ∧ Below B w wf)) := by
  obtain ⟨i0, hi, hz0, hz1, hz2⟩ := info_parts info36
  have hmin : min ((hl : Int) + (n : Int)) ((s : Int) + 262176) = (hl : Int) + n := by omega
  obtain ⟨kk, hkk⟩ : ∃ kk, kk = hl - s := ⟨_, rfl⟩
  obtain ⟨d, hd⟩ : ∃ d, d = kk + n := ⟨_, rfl⟩
  have hd1 : (hl : Int) + (n : Int) - (s : Int) = (d : Int) := by omega
  have hd2 : (d : Int) ≤ 262176 := by omega
  have hwd : IntKind.i64.wrap (d : Int) = (d : Int) := by rw [IntKind.wrap_i64]; omega
  have hsh2 : (s : Int) < (hl : Int) := by omega
  have hkn : hl - s = kk := hkk.symm
  have hsl : s ≤ hl := by omega
  have hsne : ¬ hl = s := by omega
  obtain ⟨X, hX⟩ : ∃ X : List Value, X = (List.range kk).map fun i => .int .u8 (Hb (s + i)) := ⟨_, rfl⟩
  have hXl : X.length = kk := by rw [hX]; simp
  have hX1 : ∀ v ∈ X, v.oneCell' = true := by
    intro v hv
    rw [hX] at hv
    obtain ⟨i, _, rfl⟩ := List.mem_map.1 hv
    rfl
  have hXs : ∀ j v, X[j]? = some v → w.cell? ⟨H, s + j, none⟩ = some v := by
    intro j v hv
    rw [hX] at hv
    have hj : j < kk := by have := (List.getElem?_eq_some_iff.1 hv).1; simpa using this
    rw [hH (s + j) (by omega), ← hv]
    simp [hj]
  have HX : Hid (X = (List.range kk).map fun i => .int .u8 (Hb (s + i))) := hX
  have HXL : Hid (X.length = kk) := hXl
  have HX1 : Hid (∀ v ∈ X, v.oneCell' = true) := hX1
  have HXS : Hid (∀ j v, X[j]? = some v → w.cell? ⟨H, s + j, none⟩ = some v) := hXs
  have HB : Hid (w.heap[B]? = some (.cells cur.toArray 5 (0, 0))) := hB
  have HCUR : Hid (cur.length = 262176) := hcur
  have HKK : Hid (kk = hl - s) := hkk
  have HD : Hid (d = kk + n) := hd
  clear hX hX1 hXs hB hcur hkk hd hXl hH
  go_enter Yba.func16, Yba.ntmps16
  go_wp2_with (go_at_call 27; refine (len_reply R H hl hl n _ (by exact r1) (by exact r2) (by omega) (by omega) hhl).mono ?_; rintro e w' ⟨rfl, q, rfl⟩)
  go_region_law (refine step_copy_splice rfl (.tmp 30) (.tmp 36) 22 22 rfl 5 Yba.underlying22 size5 (some ⟨B, 0, none⟩) (some ⟨H, s, none⟩) d 262176 kk kk (by simp [Act.eval, Act.put]) (by simp [Act.eval, Act.put]) B 0 cur 5 HB.out X (by rw [HXL.out]; have := HD.out; show kk = min kk d; omega) (fun _ => ⟨rfl, _, rfl, fun j v hv => by rw [WideShapes.add_plain]; exact HXS.out j v hv⟩) (by have := HXL.out; have := HCUR.out; have := HKK.out; omega) HX1.out B w (below_drewN (Below.refl _ _) _) (Nat.le_refl _) ?_; intro w2 HB2 hb2)
  have hXl := HXL.out
  have hsk : (s : Int) + (kk : Int) = (hl : Int) := by have := HKK.out; omega
  have r1' := (hb2.cell (p := ⟨R, 1, none⟩) (by exact hRB)).trans r1
  have r3' := (hb2.cell (p := ⟨R, 3, none⟩) (by exact hRB)).trans r3
  have r4' := (hb2.cell (p := ⟨R, 4, none⟩) (by exact hRB)).trans r4
  have f4' := (hb2.frozen (p := ⟨R, 4, none⟩) (by exact hRB)).trans f4
  have r4s : (w2.cell? ⟨R, 4, none⟩).isSome = true := by rw [r4']; rfl
  have hw2 : w.heap.size ≤ w2.heap.size := hb2.size
  have hRw : R < w2.heap.size := by omega
  have hn1 : (hl : Int) < (hl : Int) + (n : Int) := by omega
  have hwh : IntKind.i64.wrap (hl : Int) = (hl : Int) := by rw [IntKind.wrap_i64]; omega
  have hw0 : IntKind.i64.wrap 0 = 0 := by rw [IntKind.wrap_i64]; rfl
  have hkne : ¬ 262176 = kk := by have := HKK.out; omega
  have hkd : kk ≤ d := by have := HD.out; omega
  have hdk : d - kk = n := by have := HD.out; omega
  have hkk2 : (kk : Int) ≤ (d : Int) := by omega
  have hd3 : d ≤ 262176 := by omega
  have hth : ∀ j, j < n → (w2.cell? ⟨B, kk + j, none⟩).isSome = true ∧ w2.frozen? ⟨B, kk + j, none⟩ = false := by
    intro j hj
    exact there_row HB2.out _ (by rw [length_splice _ _ _ (by rw [HXL.out, HCUR.out]; have := HKK.out; omega), HCUR.out]; have := HKK.out; omega)
  have HTH := hth
  have HF : Hid (∀ (off len cap : Nat) (pos : Int) (w1 : World), off + len ≤ 262176 → len ≤ 4096 → 0 ≤ pos → pos ≤ 4096 → Below B w w1 → (∀ j, j < len → (w1.cell? ⟨B, off + j, none⟩).isSome = true ∧ w1.frozen? ⟨B, off + j, none⟩ = false) →
Calls Yba.prog g (#[.slice (some ⟨B, off, none⟩) len cap, .int .i64 pos] ++ cb) w1 fun e w2 => e = .returned .nilIface ∧ FP w1 off len pos w2) := hfill.1
  clear hth
  go_wp2_with fail
  go_region_with (go_at_fn g; refine (HF.out kk n _ 0 _ (by omega) (by omega) (by omega) (by omega) (below_drewN hb2 _) HTH).mono ?_; rintro e w3 ⟨rfl, hfp⟩; obtain ⟨q1, q4, q4f, hR3⟩ := fill_keeps hfill hfp hRB hRS (show R < _ from hRw) r4' f4')
  all_goals
    have r4s3 : (w3.cell? ⟨R, 4, none⟩).isSome = true := by rw [q4]; rfl
    go_wp2_with (first | (at_builtin; refine wpList_append_own _ rfl (.tmp 73) (.tmp 79) 31 rfl (w3.heap.size + 1) 36 i0 _ 1 8 Yba.underlying31 hi hz0 hz1 hz2 rfl (by decide) (.slice none 0 0) 0 [] rfl (World.ownsRow_nil _ _ _ _) ⟨w3.heap.size + 1, 0, none⟩ 1 1 [.pointer (some ⟨w3.heap.size, 0, none⟩)] rfl rfl (news1 w3 _ _ _) (one1 _) (by unfold maxLen; omega) (by omega) (by simp) ?_; intro v4 w4 hown4 hgrow4 hnil4; obtain ⟨hA, g4, cap4, rfl⟩ := added_of (R := R) (B := B) (s := s) (total := hl + n) (T := (hl : Int) + n) (by simp) hR3 r4s3 hown4 hgrow4; have r4w : w4.cell? ⟨R, 4, none⟩ = some (.slice none 0 0) := (added_old hgrow4 hR3).1.trans q4; have f4w : w4.frozen? ⟨R, 4, none⟩ = false := (added_old hgrow4 hR3).2.trans q4f; clear hown4 hgrow4 hnil4) | fail)
    go_ret
    have hkk := HKK.out
    have hdd := HD.out
    refine ⟨rfl, w3, hA, ?_, .inl ⟨by omega, _, kk, below_drewN hb2 1, ?_⟩⟩
    · exact bytes_both hkk hsh HX.out HB2.out (hfill.2 _ _ _ _ _ hfp).1 (hfill.2 _ _ _ _ _ hfp).2.1
    · rw [show hl + n - max s hl = n by omega, show ((max s hl : Nat) : Int) - (hl : Int) = 0 by omega]
      exact hfp

end Go.Proofs.Ybulkgzk
