/-
  OWN TEXT. The walk of 'LawS0387AAgain'.
-/
import Derived.Test.YbulkgzkAgainSt
import Derived.Laws.EntriesVeiled
namespace Go.Proofs.Ybulkgzk.lawS0387AAgain
open Go.RowKit Go.MuLone

theorem under36 : Yba.prog.underlying 36 = some (.pointer 59) := by kernel_rfl
theorem info59 : ∃ j, Yba.prog.info? 59 = some j ∧ j.size ≠ 0 := by
  have h : (Yba.prog.info? 59).map (·.size) = some 4 := by kernel_rfl
  obtain ⟨j, hj, hs⟩ := Option.map_eq_some_iff.1 h
  exact ⟨j, hj, by omega⟩

/-- The seed's block and the head's new block. -/
theorem made_head {Hb : Nat → Int} {a0 : Option Addr} {hl : Nat} {a4 : Int} {w w1 : World} {xs : List Value} (hS : BytesAt Hb w a0 hl) (hown : w1.ownsRow w.heap.size 5 1 (.slice (some ⟨w.heap.size + 1, 0, none⟩) hl hl) hl xs)
    (hgrow : (w.alloc (.cells #[.int .u8 a4] 5)).grownBy w1 none) :
    ∃ cur : List Value, (w1.heap[w.heap.size + 1]? = some (.cells cur.toArray 5 (0, 0)) ∧ cur.length = hl) ∧ w1.cell? ⟨w.heap.size, 0, none⟩ = some (.int .u8 a4) ∧ Below w.heap.size w w1 ∧ w.heap.size + 1 < w1.heap.size ∧ BytesAt Hb w1 a0 hl := by
  have hlt := (hown.lt _ rfl).2
  have hb1 : Below w.heap.size w (w.alloc (.cells #[.int .u8 a4] 5)) := (Below.refl _ _).alloc (Nat.le_refl _) _
  have hb2 : Below w.heap.size w w1 := ⟨hgrow.os.trans hb1.os, hgrow.tape.trans hb1.tape, hgrow.output.trans hb1.output, by have := hgrow.size; simp at this; omega, fun k hk => (hgrow.block k (by simp; omega) (by simp)).trans (hb1.block k hk)⟩
  have hc : ∃ cur : List Value, w1.heap[w.heap.size + 1]? = some (.cells cur.toArray 5 (0, 0)) ∧ cur.length = hl := by
    rcases hown.2 with ⟨h, _⟩ | ⟨g, cap, cur, he, _, hg, _, _, hs, _⟩
    · simp at h
    · simp only [Value.slice.injEq, Option.some.injEq, Addr.mk.injEq, and_true, true_and] at he
      obtain ⟨rfl, rfl⟩ := he
      exact ⟨cur.toList, by simpa using hg, by simpa using hs⟩
  obtain ⟨cur, hc⟩ := hc
  refine ⟨cur, hc, ?_, hb2, hlt, ?_⟩
  · have hbl := hgrow.block w.heap.size (by simp) (by simp)
    rw [World.cell?_of_block (a := ⟨w.heap.size, 0, none⟩) hbl, World.cell?_alloc_new]
    rfl
  · rcases hS with h | ⟨b, off, e, hb, hc⟩
    · exact .inl h
    · exact .inr ⟨b, off, e, by have := hb2.size; omega, fun i hi => (hb2.cell (p := ⟨b, off + i, none⟩) hb).trans (hc i hi)⟩

/-- What 'copy' asks of the head. -/
theorem head_src {Hb : Nat → Int} {a0 : Option Addr} {hl : Nat} {w : World} {X : List Value} {D : Addr} (hS : BytesAt Hb w a0 hl) (hX : X = (List.range hl).map fun i => .int .u8 (Hb i)) :
    0 < X.length → some D = some D ∧ ∃ ad, a0 = some ad ∧ ∀ j v, X[j]? = some v → w.cell? (ad.add j) = some v := by
  intro h0
  refine ⟨rfl, ?_⟩
  have hl0 : X.length = hl := by rw [hX]; simp
  rcases hS with h | ⟨b, off, e, hb, hc⟩
  · omega
  · refine ⟨_, e, fun j v hv => ?_⟩
    rw [WideShapes.add_plain]
    obtain ⟨hj, hv⟩ := List.getElem?_eq_some_iff.1 hv
    have := hc j (by omega)
    rw [this]
    subst hX
    simpa using hv

set_option maxRecDepth 100000 in
set_option maxHeartbeats 2000000 in
theorem walk (a0 : Option Addr) (hl c0 : Nat) (Hb : Nat → Int) (a1 a2 a3 a4 : Int) (a5 : Bool) (w : World) (hmax : hl ≤ maxLen) (h10 : 0 ≤ a1) (h11 : a1 ≤ 65535) (h20 : 0 ≤ a2) (h21 : a2 ≤ 4294967295) (h30 : 0 ≤ a3) (h31 : a3 ≤ 4294967295)
    (hS : BytesAt Hb w a0 hl) :
    Calls Yba.prog 4 #[.slice a0 hl c0, .int .u16 a1, .int .u32 a2, .int .u32 a3, .int .u8 a4, .bool a5] w fun e w' => e = .returned (.bool true) ∧ Below w.heap.size w w' := by
  unfold maxLen at hmax
  obtain ⟨j59, hj, hjs⟩ := info59
  by_cases hbig : hl ≤ 1024
  · obtain ⟨i0, hi, hz0, hz1, hz2⟩ := info_parts info5
    have hby : i0.bytes * hl ≤ 281474976710656 := by rw [hz2]; omega
    have hml : hl ≤ maxLen := by unfold maxLen; omega
    obtain ⟨X, hX⟩ : ∃ X : List Value, X = (List.range hl).map fun i => .int .u8 (Hb i) := ⟨_, rfl⟩
    have hXl : X.length = hl := by rw [hX]; simp
    have HX : Hid (X = (List.range hl).map fun i => .int .u8 (Hb i)) := hX
    have HXL : Hid (X.length = hl) := hXl
    have HS : Hid (BytesAt Hb w a0 hl) := hS
    clear hX hXl hS
    go_enter Yba.func4, Yba.ntmps4
    have hone : ∀ v ∈ X, v.oneCell' = true := by
      intro v hv
      rw [HX.out] at hv
      obtain ⟨i, _, rfl⟩ := List.mem_map.1 hv
      rfl
    have hXn : X.length = Nat.min hl hl := by rw [HXL.out]; exact (Nat.min_self hl).symm
    go_wp2_with (first
      | (at_make; refine wpList_make_full _ rfl _ _ 22 rfl w.heap.size 5 i0 _ 1 Yba.underlying22 hi hz0 hz1 _ _ _ _ hl rfl rfl rfl rfl hby hml (by simp) ?_; intro w1 hown hgrow; simp only [World.size_alloc] at hown; obtain ⟨cur, ⟨hcur, hcl⟩, cS1, hB1, hsz1, hS1⟩ := made_head HS.out hown hgrow; have hfit : 0 + X.length ≤ cur.length := (by rw [HXL.out, hcl]; omega); have hsrc := head_src (D := ⟨w.heap.size + 1, 0, none⟩) hS1 HX.out; clear hown hgrow; simp only [World.size_alloc])
      | (refine wpList_copy_splice rfl (.tmp 33) (.tmp 34) 22 22 rfl 5 Yba.underlying22 size5 (some ⟨w.heap.size + 1, 0, none⟩) a0 hl hl hl c0 rfl rfl (w.heap.size + 1) 0 cur 5 hcur X hXn hsrc hfit hone (w.heap.size + 1) w1 (Below.refl _ _) (Nat.le_refl _) ?_; intro w2 hcur2 hB2; rw [HXL.out])
      | fail)
    obtain ⟨n, hn⟩ : ∃ n : Nat, a1 % 2048 = (n : Int) := ⟨(a1 % 2048).toNat, by omega⟩
    have hn2 : n ≤ 2047 := by omega
    simp only [hn]
    obtain ⟨s1, hs1⟩ : ∃ s1 : Nat, a2 % ((hl : Int) + (n : Int) + 1) = (s1 : Int) := ⟨(a2 % ((hl : Int) + (n : Int) + 1)).toNat, by have := Int.emod_nonneg a2 (show (hl : Int) + (n : Int) + 1 ≠ 0 by omega); omega⟩
    obtain ⟨s2, hs2⟩ : ∃ s2 : Nat, a3 % ((hl : Int) + (n : Int) + 1) = (s2 : Int) := ⟨(a3 % ((hl : Int) + (n : Int) + 1)).toNat, by have := Int.emod_nonneg a3 (show (hl : Int) + (n : Int) + 1 ≠ 0 by omega); omega⟩
    have hs1l : s1 ≤ hl + n := by have := Int.emod_lt_of_pos a2 (show 0 < (hl : Int) + (n : Int) + 1 by omega); omega
    have hs2l : s2 ≤ hl + n := by have := Int.emod_lt_of_pos a3 (show 0 < (hl : Int) + (n : Int) + 1 by omega); omega
    have hw1 : wrap64 (s1 : Int) = (s1 : Int) := by unfold wrap64; omega
    have hw2 : wrap64 (s2 : Int) = (s2 : Int) := by unfold wrap64; omega
    simp only [hs1, hs2, hw1, hw2]
    have hsz2 : w.heap.size + 1 < w2.heap.size := by have := hB2.size; omega
    have hst := fun P R CB e1 e2 e3 => agst_start (W := w) (w2 := w2) (SB := w.heap.size) (H := w.heap.size + 1) (CB := CB) (R := R) (P := P) (hl := hl) (n := n) (seed := a4) (Hb := Hb) e1 e2 e3 (by omega) (by omega) ((hB2.cell (p := ⟨w.heap.size, 0, none⟩) (by show w.heap.size < _; omega)).trans cS1) (fun q hq => by
      rw [splice_head hcur2.out (by rw [HXL.out]; exact hq), HX.out]; simp [hq]) (hB1.trans (hB2.mono (by omega)))
    refine (newPool_any _).mono ?_
    rintro _ w4 ⟨rfl, hw4⟩
    simp only [World.size_alloc] at hw4 ⊢
    have hST := hst (w2.heap.size + 2) (w2.heap.size + 1) w2.heap.size rfl rfl rfl
    rw [← hw4] at hST
    clear hst hw4 HX HXL HS hone hXn hby hml hcur hcl cS1 hB1 hsz1 hS1 hfit hsrc hcur2 hB2 hsz2 hw1 hw2 hs1 hs2 hn hi hz0 hz1 hz2
    generalize w2.heap.size + 2 = P at hST ⊢
    generalize w2.heap.size + 1 = R at hST ⊢
    generalize w2.heap.size = CB at hST ⊢
    generalize w.heap.size + 1 = H at hST ⊢
    have hcall := hST.first hbig hn2 hs1l
    have oP := hST.o5
    clear hST
    go_wp2_with fail
    refine hcall.mono ?_
    rintro _ w5 ⟨C, gg, cap, rfl, k2, hk2, hST, hA⟩
    clear hcall
    have hchk := check_any C w4.heap.size H hl hl s1 (hl + n) a4 Hb w5 hs1l (by omega) hbig hA.c0 hA.c1 hA.c2 hA.c3 hST.hH hA.bytes
    rw [Int.natCast_add] at hchk
    have HST : Hid (AgSt w w.heap.size H CB R P hl n a4 Hb k2 (0 + 1) (Value.slice (some ⟨gg, 0, none⟩) 1 cap) w5) := hST
    have HA : Hid (After C gg cap R P s1 hl n 0 a4 Hb [CB] w4 w5) := hA
    have cS := hST.cS
    have cC := hST.cC
    have c0 := hA.c0
    have f0 := hA.f0
    clear hST hA
    go_wp2_with (go_at_call 11; refine hchk.mono ?_; rintro e w5 ⟨rfl, rfl⟩)
    all_goals clear hchk cS cC c0 f0
    rotate_left
    · have hST := HST.out
      have hA := HA.out
      have r4 := hA.r4
      have g0 := hA.g0
      have cC := hST.cC
      have p9 := hST.pool.c9
      have p11 : w5.cell? ⟨P, 11, none⟩ = some (.int .i64 1) := hST.pool.c11
      have hcall := piece_same R P C gg cap ⟨w4.heap.size, 0, none⟩ 262176 262176 (s2 : Int) w5 r4 g0 hA.c0 hA.c3 hST.pool.c0 hST.pool.f0 (by have := hA.gtC; omega)
      have hneq := fun wx : World => run_neq_ptr_same (P := Yba.prog) wx ⟨C, 0, none⟩ under36 hj
      have heql := fun wx : World => run_eql_ptr_same (P := Yba.prog) wx ⟨C, 0, none⟩ under36 hj
      have HB : Hid (Below w.heap.size w w5) := hST.below
      clear hST hA HST HA hj
      refine hcall.mono ?_
      rintro _ w5 ⟨rfl, rfl⟩
      clear hcall
      go_wp2
      go_ret
      exact ⟨rfl, HB.out⟩
    · have hST := HST.out
      have hA := HA.out
      have hCP : P < C := by have := hA.gtC; omega
      have hST6 := hST.over hCP 0 (.slice none 0 0)
      have hC6 := cells_setCell (o := 0) (v := .slice none 0 0) hA.hC
      have g6 : (w5.setCell ⟨C, 0, none⟩ (.slice none 0 0)).cell? ⟨gg, 0, none⟩ = some (.pointer (some ⟨C, 0, none⟩)) := (World.cell?_setCell_other _ _ _ _ (fun e => hA.ne (congrArg Addr.block e).symm)).trans hA.g0
      have k6 : (w5.setCell ⟨C, 0, none⟩ (.slice none 0 0)).cell? ⟨C, 0, none⟩ = some (.slice none 0 0) := World.cell?_setCell_same _ _ _ hA.c0
      have l6 : (w5.setCell ⟨C, 0, none⟩ (.slice none 0 0)).cell? ⟨C, 3, none⟩ = some (.bool false) := (World.cell?_setCell_other _ _ _ _ (by simp)).trans hA.c3
      have hlt6 : C < (w5.setCell ⟨C, 0, none⟩ (.slice none 0 0)).heap.size := by rw [World.size_setCell]; exact hA.ltC
      clear HST HA hST hA
      generalize w5.setCell ⟨C, 0, none⟩ (.slice none 0 0) = w6 at *
      have hcall := AgSt.second hST6 (by omega) (by omega) g6 k6 l6 (by omega) hbig hn2 hs2l
      refine hcall.mono ?_
      rintro _ w7 ⟨C2, gg2, cap2, rfl, k3, hk3, hST7, hA7⟩
      clear hcall
      have hne : (⟨C2, 0, none⟩ : Addr) ≠ ⟨C, 0, none⟩ := fun e => by
        have := congrArg Addr.block e
        have h2 := hA7.gtC
        rw [World.size_setCell] at h2
        simp at this
        omega
      have hC7 : ∃ c, w7.heap[C]? = some (.cells c 59 (0, 0)) := by
        obtain ⟨c, hc⟩ := hC6
        have o1 := hST6.o3
        have o2 := hST6.o4
        refine ⟨c, (hA7.kept.block C (by rw [World.size_setCell]; exact hlt6) (by simp; omega)).trans ((Below.heap_setCell _ _ _ _ (by show C ≠ R; omega)).trans hc)⟩
      obtain ⟨ca, hca⟩ := hC7
      obtain ⟨cb, hcb⟩ := hA7.hC
      have hchk := check_any C2 _ H hl hl s2 (hl + n) a4 Hb w7 hs2l (by omega) hbig hA7.c0 hA7.c1 hA7.c2 hA7.c3 hST7.hH hA7.bytes
      rw [Int.natCast_add] at hchk
      have hneq := fun wx : World => run_neq_ptr_same (P := Yba.prog) wx ⟨C2, 0, none⟩ under36 hj
      have hneq2 := run_neq_ptr_other (P := Yba.prog) w7 under36 hj hjs hne hcb hca
      have r4 := hA7.r4
      have g0 := hA7.g0
      have cS := hST7.cS
      have p9 := hST7.pool.c9
      have p11 : w7.cell? ⟨P, 11, none⟩ = some (.int .i64 2) := hST7.pool.c11
      have HB : Hid (Below w.heap.size w w7) := hST7.below
      clear hST7 hA7 hST6 hj hjs hca hcb hC6 g6 k6 l6 hne
      go_wp2_with (go_at_call 11; refine hchk.mono ?_; rintro e w7 ⟨rfl, rfl⟩)
      go_ret
      exact ⟨rfl, HB.out⟩
  · go_enter Yba.func4, Yba.ntmps4
    go_wp2
    go_ret
    exact ⟨rfl, (Below.refl _ _).alloc (Nat.le_refl _) _⟩
end Go.Proofs.Ybulkgzk.lawS0387AAgain
