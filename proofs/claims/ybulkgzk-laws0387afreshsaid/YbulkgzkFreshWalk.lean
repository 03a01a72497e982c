/-
  OWN TEXT. The walk of 'LawS0387AFresh'.
-/
import Derived.Test.YbulkgzkAgainWalk
import Derived.Test.YbulkgzkFreshSt
namespace Go.Proofs.Ybulkgzk.lawS0387AFresh
open Go.RowKit Go.MuLone

/-- The two boxes' blocks and the head's new block. -/
theorem made_head {Hb : Nat → Int} {a0 : Option Addr} {hl : Nat} {a3 : Int} {a4 : Bool} {w w1 : World} {xs : List Value} (hS : BytesAt Hb w a0 hl) (hown : w1.ownsRow w.heap.size 5 1 (.slice (some ⟨w.heap.size + 2, 0, none⟩) hl hl) hl xs)
    (hgrow : ((w.alloc (.cells #[.int .u8 a3] 5)).alloc (.cells #[.bool a4] 4)).grownBy w1 none) :
    ∃ cur : List Value, (w1.heap[w.heap.size + 2]? = some (.cells cur.toArray 5 (0, 0)) ∧ cur.length = hl) ∧ (w1.cell? ⟨w.heap.size, 0, none⟩ = some (.int .u8 a3) ∧ w1.cell? ⟨w.heap.size + 1, 0, none⟩ = some (.bool a4)) ∧ Below w.heap.size w w1 ∧ w.heap.size + 2 < w1.heap.size ∧ BytesAt Hb w1 a0 hl := by
  have hlt := (hown.lt _ rfl).2
  have hb1 : Below w.heap.size w ((w.alloc (.cells #[.int .u8 a3] 5)).alloc (.cells #[.bool a4] 4)) := ((Below.refl _ _).alloc (Nat.le_refl _) _).alloc (by simp) _
  have hb2 : Below w.heap.size w w1 := ⟨hgrow.os.trans hb1.os, hgrow.tape.trans hb1.tape, hgrow.output.trans hb1.output, by have := hgrow.size; simp at this; omega, fun k hk => (hgrow.block k (by simp; omega) (by simp)).trans (hb1.block k hk)⟩
  have hc : ∃ cur : List Value, w1.heap[w.heap.size + 2]? = some (.cells cur.toArray 5 (0, 0)) ∧ cur.length = hl := by
    rcases hown.2 with ⟨h, _⟩ | ⟨g, cap, cur, he, _, hg, _, _, hs, _⟩
    · simp at h
    · simp only [Value.slice.injEq, Option.some.injEq, Addr.mk.injEq, and_true, true_and] at he
      obtain ⟨rfl, rfl⟩ := he
      exact ⟨cur.toList, by simpa using hg, by simpa using hs⟩
  obtain ⟨cur, hc⟩ := hc
  refine ⟨cur, hc, ⟨?_, ?_⟩, hb2, hlt, ?_⟩
  · have hbl := hgrow.block w.heap.size (by simp; omega) (by simp)
    rw [Below.heap_alloc _ _ _ (by simp)] at hbl
    rw [World.cell?_of_block (a := ⟨w.heap.size, 0, none⟩) hbl, World.cell?_alloc_new]
    rfl
  · have hbl := hgrow.block (w.heap.size + 1) (by simp) (by simp)
    rw [World.cell?_of_block (a := ⟨w.heap.size + 1, 0, none⟩) hbl]
    have e : w.heap.size + 1 = (w.alloc (.cells #[.int .u8 a3] 5)).heap.size := by simp
    rw [e, World.cell?_alloc_new]
    rfl
  · rcases hS with h | ⟨b, off, e, hb, hc⟩
    · exact .inl h
    · exact .inr ⟨b, off, e, by have := hb2.size; omega, fun i hi => (hb2.cell (p := ⟨b, off + i, none⟩) hb).trans (hc i hi)⟩

/-- The state at the piece. -/
theorem fr_start {W w2 w3 : World} {str : ByteArray} {SB FB H hl n : Nat} {seed : Int} {fail : Bool} {Hb : Nat → Int} (o0 : SB < FB) (o1 : FB < H) (o2 : H < w2.heap.size) (cS : w2.cell? ⟨SB, 0, none⟩ = some (.int .u8 seed)) (cF : w2.cell? ⟨FB, 0, none⟩ = some (.bool fail))
    (hH : ∀ q, q < hl → w2.cell? ⟨H, q, none⟩ = some (.int .u8 (Hb q))) (hb : Below SB W w2) (hw3 : w3 = (((w2.alloc (.cells #[.int .i64 0] 3)).alloc (.cells #[.int .i64 0] 3)).alloc (.cells #[.int .i64 0] 3)).alloc (.cells #[.string str] 82)) :
    FrSt W SB FB H w2.heap.size (w2.heap.size + 1) (w2.heap.size + 2) (w2.heap.size + 3) (w2.heap.size + 4) (w2.heap.size + 5) (w2.heap.size + 6) hl n seed fail Hb (((w3.alloc (.cells #[.iface 80 (.pointer (some ⟨w2.heap.size + 3, 0, none⟩))] 26)).alloc (.cells #[.bool false, .slice (some ⟨H, 0, none⟩) hl hl, .int .i64 n, .func (.func 7) #[] (frCb SB FB w2.heap.size (w2.heap.size + 1) (w2.heap.size + 2) (w2.heap.size + 4)), .slice none 0 0] 33)).alloc (.cells (poolCells (w2.heap.size + 6)) 55)) := by
  subst hw3
  obtain ⟨v1, e1⟩ : ∃ v, v = w2.alloc (.cells #[.int .i64 0] 3) := ⟨_, rfl⟩
  obtain ⟨v2, e2⟩ : ∃ v, v = v1.alloc (.cells #[.int .i64 0] 3) := ⟨_, rfl⟩
  obtain ⟨v3, e3⟩ : ∃ v, v = v2.alloc (.cells #[.int .i64 0] 3) := ⟨_, rfl⟩
  obtain ⟨v4, e4⟩ : ∃ v, v = v3.alloc (.cells #[.string str] 82) := ⟨_, rfl⟩
  obtain ⟨v5, e5⟩ : ∃ v, v = v4.alloc (.cells #[.iface 80 (.pointer (some ⟨w2.heap.size + 3, 0, none⟩))] 26) := ⟨_, rfl⟩
  obtain ⟨v6, e6⟩ : ∃ v, v = v5.alloc (.cells #[.bool false, .slice (some ⟨H, 0, none⟩) hl hl, .int .i64 n, .func (.func 7) #[] (frCb SB FB w2.heap.size (w2.heap.size + 1) (w2.heap.size + 2) (w2.heap.size + 4)), .slice none 0 0] 33) := ⟨_, rfl⟩
  obtain ⟨v7, e7⟩ : ∃ v, v = v6.alloc (.cells (poolCells (w2.heap.size + 6)) 55) := ⟨_, rfl⟩
  rw [← e1, ← e2, ← e3, ← e4, ← e5, ← e6, ← e7]
  have z1 : v1.heap.size = w2.heap.size + 1 := by rw [e1, World.size_alloc]
  have z2 : v2.heap.size = w2.heap.size + 2 := by rw [e2, World.size_alloc]; omega
  have z3 : v3.heap.size = w2.heap.size + 3 := by rw [e3, World.size_alloc]; omega
  have z4 : v4.heap.size = w2.heap.size + 4 := by rw [e4, World.size_alloc]; omega
  have z5 : v5.heap.size = w2.heap.size + 5 := by rw [e5, World.size_alloc]; omega
  have z6 : v6.heap.size = w2.heap.size + 6 := by rw [e6, World.size_alloc]; omega
  have z7 : v7.heap.size = w2.heap.size + 7 := by rw [e7, World.size_alloc]; omega
  have bo : ∀ x, x < w2.heap.size → v7.heap[x]? = w2.heap[x]? := fun x hx => by rw [e7, Below.heap_alloc _ _ _ (by omega), e6, Below.heap_alloc _ _ _ (by omega), e5, Below.heap_alloc _ _ _ (by omega), e4, Below.heap_alloc _ _ _ (by omega), e3, Below.heap_alloc _ _ _ (by omega), e2, Below.heap_alloc _ _ _ (by omega), e1, Below.heap_alloc _ _ _ (by omega)]
  have b0 : v7.heap[w2.heap.size]? = some (.cells #[.int .i64 0] 3) := by
    rw [e7, Below.heap_alloc _ _ _ (by omega), e6, Below.heap_alloc _ _ _ (by omega), e5, Below.heap_alloc _ _ _ (by omega), e4, Below.heap_alloc _ _ _ (by omega), e3, Below.heap_alloc _ _ _ (by omega), e2, Below.heap_alloc _ _ _ (by omega), e1]
    exact heap_alloc_new w2 _
  have b1 : v7.heap[w2.heap.size + 1]? = some (.cells #[.int .i64 0] 3) := by
    rw [e7, Below.heap_alloc _ _ _ (by omega), e6, Below.heap_alloc _ _ _ (by omega), e5, Below.heap_alloc _ _ _ (by omega), e4, Below.heap_alloc _ _ _ (by omega), e3, Below.heap_alloc _ _ _ (by omega), e2]
    have := heap_alloc_new v1 (.cells #[.int .i64 0] 3)
    rwa [z1] at this
  have b2 : v7.heap[w2.heap.size + 2]? = some (.cells #[.int .i64 0] 3) := by
    rw [e7, Below.heap_alloc _ _ _ (by omega), e6, Below.heap_alloc _ _ _ (by omega), e5, Below.heap_alloc _ _ _ (by omega), e4, Below.heap_alloc _ _ _ (by omega), e3]
    have := heap_alloc_new v2 (.cells #[.int .i64 0] 3)
    rwa [z2] at this
  have b3 : v7.heap[w2.heap.size + 3]? = some (.cells #[.string str] 82) := by
    rw [e7, Below.heap_alloc _ _ _ (by omega), e6, Below.heap_alloc _ _ _ (by omega), e5, Below.heap_alloc _ _ _ (by omega), e4]
    have := heap_alloc_new v3 (.cells #[.string str] 82)
    rwa [z3] at this
  have b4 : v7.heap[w2.heap.size + 4]? = some (.cells #[.iface 80 (.pointer (some ⟨w2.heap.size + 3, 0, none⟩))] 26) := by
    rw [e7, Below.heap_alloc _ _ _ (by omega), e6, Below.heap_alloc _ _ _ (by omega), e5]
    have := heap_alloc_new v4 (.cells #[.iface 80 (.pointer (some ⟨w2.heap.size + 3, 0, none⟩))] 26)
    rwa [z4] at this
  have b5 : v7.heap[w2.heap.size + 5]? = some (.cells #[.bool false, .slice (some ⟨H, 0, none⟩) hl hl, .int .i64 n, .func (.func 7) #[] (frCb SB FB w2.heap.size (w2.heap.size + 1) (w2.heap.size + 2) (w2.heap.size + 4)), .slice none 0 0] 33) := by
    rw [e7, Below.heap_alloc _ _ _ (by omega), e6]
    have := heap_alloc_new v5 (.cells #[.bool false, .slice (some ⟨H, 0, none⟩) hl hl, .int .i64 n, .func (.func 7) #[] (frCb SB FB w2.heap.size (w2.heap.size + 1) (w2.heap.size + 2) (w2.heap.size + 4)), .slice none 0 0] 33)
    rwa [z5] at this
  have b6 : v7.heap[w2.heap.size + 6]? = some (.cells (poolCells (w2.heap.size + 6)) 55) := by
    rw [e7]
    have := heap_alloc_new v6 (.cells (poolCells (w2.heap.size + 6)) 55)
    rwa [z6] at this
  have hc : ∀ x o, x < w2.heap.size → v7.cell? ⟨x, o, none⟩ = w2.cell? ⟨x, o, none⟩ := fun x o hx => World.cell?_of_block (a := ⟨x, o, none⟩) (bo x hx)
  refine ⟨⟨o0, by omega, by omega, by omega, by omega, by omega, ?_, frozen_of_row v7 _ 0 _ 3 b0, ?_, frozen_of_row v7 _ 0 _ 3 b1, ?_, frozen_of_row v7 _ 0 _ 3 b2, (hc _ _ (by omega)).trans cF, ?_, (hc _ _ (by omega)).trans cS⟩, o1, o2, by omega, by omega,
    ⟨by omega, ?_, ?_, ?_, ?_, frozen_of_row v7 _ 4 _ 33 b5⟩, ⟨by omega, ?_, frozen_of_row v7 _ 0 _ 55 b6, ?_, ?_, frozen_of_row v7 _ 11 _ 55 b6⟩, ⟨?_, frozen_of_row v7 _ 0 _ 55 b6, ?_, frozen_of_row v7 _ 9 _ 55 b6, ?_, ?_, ?_, frozen_of_row v7 _ 8 _ 55 b6⟩, fun q hq => (hc _ _ (by omega)).trans (hH q hq), ?_⟩
  · simp [World.cell?, b0]
  · simp [World.cell?, b1]
  · simp [World.cell?, b2]
  · simp [World.cell?, b4]
  · simp [World.cell?, b5]
  · simp [World.cell?, b5]
  · simp [World.cell?, b5]
  · simp [World.cell?, b5]
  · simp [World.cell?, b6, poolCells]
  · simp [World.cell?, b6, poolCells]
  · simp [World.cell?, b6, poolCells]
  · simp [World.cell?, b6, poolCells]
  · simp [World.cell?, b6, poolCells]
  · simp [World.cell?, b6, poolCells]
  · simp [World.cell?, b6, poolCells]
  · simp [World.cell?, b6, poolCells]
  · refine ⟨?_, ?_, ?_, ?_, fun k hk => (bo k (by omega)).trans (hb.block k hk)⟩
    · rw [e7, e6, e5, e4, e3, e2, e1]; exact hb.os
    · rw [e7, e6, e5, e4, e3, e2, e1]; exact hb.tape
    · rw [e7, e6, e5, e4, e3, e2, e1]; exact hb.output
    · have := hb.size; omega

theorem eql_err (w : World) (a : Addr) : (binOp .eql 26 (.iface 80 (.pointer (some a))) (.iface 80 (.pointer (some a)))).run Yba.prog w = .ok (.bool true) w := by
  obtain ⟨ms, hms⟩ : ∃ ms, Yba.prog.underlying 26 = some (.interface ms) := ⟨_, Yba.underlying26⟩
  have h80 : Yba.prog.underlying 80 = some (.pointer 82) := by kernel_rfl
  have hi : ((Yba.prog.info? 80).map (·.comparable)) = some true := by kernel_rfl
  obtain ⟨i, hi1, hi2⟩ := Option.map_eq_some_iff.1 hi
  have hj : (Yba.prog.info? 82).isSome = true := by kernel_rfl
  obtain ⟨j, hj1⟩ := Option.isSome_iff_exists.1 hj
  exact run_eql_iface_ptr_same w a hms h80 hi1 hi2 hj1

set_option maxRecDepth 100000 in
set_option maxHeartbeats 2000000 in
theorem walk (a0 : Option Addr) (hl c0 : Nat) (Hb : Nat → Int) (a1 a2 a3 : Int) (a4 : Bool) (w : World) (hmax : hl ≤ maxLen) (h10 : 0 ≤ a1) (h11 : a1 ≤ 65535) (h20 : 0 ≤ a2) (h21 : a2 ≤ 4294967295)
    (hS : BytesAt Hb w a0 hl) :
    Calls Yba.prog 3 #[.slice a0 hl c0, .int .u16 a1, .int .u32 a2, .int .u8 a3, .bool a4] w fun e w' => e = .returned (.bool true) ∧ Below w.heap.size w w' := by
  unfold maxLen at hmax
  obtain ⟨j59, hj, hjs⟩ := lawS0387AAgain.info59
  by_cases hbig : hl ≤ 1024
  · obtain ⟨i0, hi, hz0, hz1, hz2⟩ := info_parts info5
    have hby : i0.bytes * hl ≤ 281474976710656 := by rw [hz2]; omega
    have hml : hl ≤ maxLen := by unfold maxLen; omega
    obtain ⟨X, hX⟩ : ∃ X : List Value, X = (List.range hl).map fun i => .int .u8 (Hb i) := ⟨_, rfl⟩
    have hXl : X.length = hl := by rw [hX]; simp
    have HX : Hid (X = (List.range hl).map fun i => .int .u8 (Hb i)) := hX
    have HXL : Hid (X.length = hl) := hXl
    have HS : Hid (BytesAt Hb w a0 hl) := hS
    clear hX hXl hS
    go_enter Yba.func3, Yba.ntmps3
    have hone : ∀ v ∈ X, v.oneCell' = true := by
      intro v hv
      rw [HX.out] at hv
      obtain ⟨i, _, rfl⟩ := List.mem_map.1 hv
      rfl
    have hXn : X.length = Nat.min hl hl := by rw [HXL.out]; exact (Nat.min_self hl).symm
    go_wp2_with (first
      | (at_make; refine wpList_make_full _ rfl _ _ 22 rfl w.heap.size 5 i0 _ 1 Yba.underlying22 hi hz0 hz1 _ _ _ _ hl rfl rfl rfl rfl hby hml (by simp; omega) ?_; intro w1 hown hgrow; simp only [World.size_alloc, Nat.add_assoc, Nat.reduceAdd] at hown; obtain ⟨cur, ⟨hcur, hcl⟩, cS1, hB1, hsz1, hS1⟩ := made_head HS.out hown hgrow; have hfit : 0 + X.length ≤ cur.length := (by rw [HXL.out, hcl]; omega); have hsrc := lawS0387AAgain.head_src (D := ⟨w.heap.size + 2, 0, none⟩) hS1 HX.out; clear hown hgrow; simp only [World.size_alloc, Nat.add_assoc, Nat.reduceAdd])
      | (refine wpList_copy_splice rfl (.tmp 32) (.tmp 33) 22 22 rfl 5 Yba.underlying22 size5 (some ⟨w.heap.size + 2, 0, none⟩) a0 hl hl hl c0 rfl rfl (w.heap.size + 2) 0 cur 5 hcur X hXn hsrc hfit hone (w.heap.size + 2) w1 (Below.refl _ _) (Nat.le_refl _) ?_; intro w2 hcur2 hB2; rw [HXL.out])
      | fail)
    obtain ⟨n, hn⟩ : ∃ n : Nat, a1 % 2048 = (n : Int) := ⟨(a1 % 2048).toNat, by omega⟩
    have hn2 : n ≤ 2047 := by omega
    simp only [hn]
    obtain ⟨s1, hs1⟩ : ∃ s1 : Nat, a2 % ((hl : Int) + (n : Int) + 1) = (s1 : Int) := ⟨(a2 % ((hl : Int) + (n : Int) + 1)).toNat, by have := Int.emod_nonneg a2 (show (hl : Int) + (n : Int) + 1 ≠ 0 by omega); omega⟩
    have hs1l : s1 ≤ hl + n := by have := Int.emod_lt_of_pos a2 (show 0 < (hl : Int) + (n : Int) + 1 by omega); omega
    have hw1 : wrap64 (s1 : Int) = (s1 : Int) := by unfold wrap64; omega
    simp only [hs1, hw1]
    have hsz2 : w.heap.size + 2 < w2.heap.size := by have := hB2.size; omega
    refine (errnew_any _ _).mono ?_
    rintro _ w3 ⟨rfl, hw3⟩
    simp only [World.size_alloc, Nat.add_assoc, Nat.reduceAdd] at hw3 ⊢
    have hsz3 : w3.heap.size = w2.heap.size + 4 := by rw [hw3]; simp
    have HW3 : Hid (w3 = _) := hw3
    clear hw3
    go_wp2_with fail
    have hst := fr_start (W := w) (w2 := w2) (w3 := w3) (SB := w.heap.size) (FB := w.heap.size + 1) (H := w.heap.size + 2) (hl := hl) (n := n) (seed := a3) (fail := a4) (Hb := Hb) (by omega) (by omega) (by omega) ((hB2.cell (p := ⟨w.heap.size, 0, none⟩) (by show w.heap.size < _; omega)).trans cS1.1) ((hB2.cell (p := ⟨w.heap.size + 1, 0, none⟩) (by show w.heap.size + 1 < _; omega)).trans cS1.2) (fun q hq => by
      rw [splice_head hcur2.out (by rw [HXL.out]; exact hq), HX.out]; simp [hq]) (hB1.trans (hB2.mono (by omega))) HW3.out
    refine (newPool_any _).mono ?_
    rintro _ w4 ⟨rfl, hw4⟩
    simp only [World.size_alloc, hsz3, Nat.add_assoc, Nat.reduceAdd] at hw4 ⊢
    have hST : FrSt w w.heap.size (w.heap.size + 1) (w.heap.size + 2) w2.heap.size (w2.heap.size + 1) (w2.heap.size + 2) (w2.heap.size + 3) (w2.heap.size + 4) (w2.heap.size + 5) (w2.heap.size + 6) hl n a3 a4 Hb w4 := by rw [hw4]; exact hst
    clear hst hw4 HW3 hsz3 HX HXL HS hone hXn hby hml hcur hcl cS1 hB1 hsz1 hS1 hfit hsrc hcur2 hB2 hsz2 hw1 hs1 hn hi hz0 hz1 hz2
    generalize w2.heap.size + 6 = P at hST ⊢
    generalize w2.heap.size + 5 = R at hST ⊢
    generalize w2.heap.size + 4 = EB at hST ⊢
    generalize w2.heap.size + 3 = DB at hST ⊢
    generalize w2.heap.size + 2 = GL at hST ⊢
    generalize w2.heap.size + 1 = GP at hST ⊢
    generalize w2.heap.size = CB at hST ⊢
    generalize w.heap.size + 2 = H at hST ⊢
    generalize w.heap.size + 1 = FB at hST ⊢
    have hneq := fun (wx : World) (a : Addr) => run_neq_ptr_same (P := Yba.prog) wx a lawS0387AAgain.under36 hj
    clear hj hjs
    go_wp2_with fail
    by_cases hyes : max s1 hl < hl + n
    · cases a4
      · have hcall := hST.call_ok hbig hn2 hs1l hyes
        clear hST
        refine hcall.mono ?_
        rintro _ w5 ⟨C, gg, cap, rfl, hD, m1, m2, m3⟩
        clear hcall
        have hchk := check_any C w4.heap.size H hl hl s1 (hl + n) a3 Hb w5 hs1l (by omega) hbig hD.c0 hD.c1 hD.c2 hD.c3 hD.hH hD.bytes
        rw [Int.natCast_add] at hchk
        have cF := hD.cF
        have cS := hD.cS
        have r4 := hD.r4
        have g0 := hD.g0
        have p9 := hD.pool.c9
        have p11 := hD.pool.c11
        have HB : Hid (Below w.heap.size w w5) := hD.below
        clear hD
        by_cases hsh : s1 < hl
        · have q1 : (s1 : Int) < (hl : Int) := by omega
          have q2 : (hl : Int) < (hl : Int) + (n : Int) := by omega
          have q3 : (hl : Int) + (n : Int) - (hl : Int) = (n : Int) := by omega
          rw [show ((max s1 hl : Nat) : Int) - (hl : Int) = 0 by omega] at m2
          rw [show hl + n - max s1 hl = n by omega] at m3
          clear hyes hsh
          go_wp2_with (go_at_call 11; refine hchk.mono ?_; rintro e w5 ⟨rfl, rfl⟩)
          go_ret
          exact ⟨rfl, HB.out⟩
        · obtain ⟨d, hd⟩ : ∃ d : Nat, d = hl + n - max s1 hl := ⟨_, rfl⟩
          obtain ⟨p, hp⟩ : ∃ p : Nat, p = max s1 hl - hl := ⟨_, rfl⟩
          rw [← hd] at m3
          rw [show ((max s1 hl : Nat) : Int) - (hl : Int) = (p : Int) by omega] at m2
          have q1 : ¬ (s1 : Int) < (hl : Int) := by omega
          have q2 : (s1 : Int) < (hl : Int) + (n : Int) := by omega
          have q3 : (hl : Int) + (n : Int) - (s1 : Int) = (d : Int) := by omega
          have q4 : (s1 : Int) - (hl : Int) = (p : Int) := by omega
          have q5 : d ≤ 4096 := by omega
          have q6 : p ≤ 4096 := by omega
          clear hyes hsh hd hp
          go_wp2_with (go_at_call 11; refine hchk.mono ?_; rintro e w5 ⟨rfl, rfl⟩)
          go_ret
          exact ⟨rfl, HB.out⟩
      · have hcall := hST.call_fail hbig hn2 hs1l hyes
        have herr := fun wx : World => eql_err wx ⟨DB, 0, none⟩
        clear hST hneq
        refine hcall.mono ?_
        rintro _ w5 ⟨rfl, ⟨m1, m2, m3⟩, ⟨cF, cE, r4⟩, ⟨g, cap, B, p9, pg⟩, p11, hbel⟩
        clear hcall
        have HB : Hid (Below w.heap.size w w5) := hbel
        clear hbel
        by_cases hsh : s1 < hl
        · have q1 : (s1 : Int) < (hl : Int) := by omega
          have q2 : (hl : Int) < (hl : Int) + (n : Int) := by omega
          have q3 : (hl : Int) + (n : Int) - (hl : Int) = (n : Int) := by omega
          rw [show ((max s1 hl : Nat) : Int) - (hl : Int) = 0 by omega] at m2
          rw [show hl + n - max s1 hl = n by omega] at m3
          clear hyes hsh
          go_wp2
          go_ret
          exact ⟨rfl, HB.out⟩
        · obtain ⟨d, hd⟩ : ∃ d : Nat, d = hl + n - max s1 hl := ⟨_, rfl⟩
          obtain ⟨p, hp⟩ : ∃ p : Nat, p = max s1 hl - hl := ⟨_, rfl⟩
          rw [← hd] at m3
          rw [show ((max s1 hl : Nat) : Int) - (hl : Int) = (p : Int) by omega] at m2
          have q1 : ¬ (s1 : Int) < (hl : Int) := by omega
          have q2 : (s1 : Int) < (hl : Int) + (n : Int) := by omega
          have q3 : (hl : Int) + (n : Int) - (s1 : Int) = (d : Int) := by omega
          have q4 : (s1 : Int) - (hl : Int) = (p : Int) := by omega
          have q5 : d ≤ 4096 := by omega
          have q6 : p ≤ 4096 := by omega
          clear hyes hsh hd hp
          go_wp2
          go_ret
          exact ⟨rfl, HB.out⟩
    · have hcall := hST.call_no hbig hn2 hs1l hyes
      clear hST
      refine hcall.mono ?_
      rintro _ w5 ⟨C, gg, cap, rfl, hD, m1⟩
      clear hcall
      have hchk := check_any C w4.heap.size H hl hl s1 (hl + n) a3 Hb w5 hs1l (by omega) hbig hD.c0 hD.c1 hD.c2 hD.c3 hD.hH hD.bytes
      rw [Int.natCast_add] at hchk
      have cS := hD.cS
      have r4 := hD.r4
      have g0 := hD.g0
      have p9 := hD.pool.c9
      have p11 := hD.pool.c11
      have HB : Hid (Below w.heap.size w w5) := hD.below
      clear hD
      by_cases hsh : s1 < hl
      · have q1 : (s1 : Int) < (hl : Int) := by omega
        have q2 : ¬ (hl : Int) < (hl : Int) + (n : Int) := by omega
        clear hyes hsh
        go_wp2_with (go_at_call 11; refine hchk.mono ?_; rintro e w5 ⟨rfl, rfl⟩)
        go_ret
        exact ⟨rfl, HB.out⟩
      · have q1 : ¬ (s1 : Int) < (hl : Int) := by omega
        have q2 : ¬ (s1 : Int) < (hl : Int) + (n : Int) := by omega
        clear hyes hsh
        go_wp2_with (go_at_call 11; refine hchk.mono ?_; rintro e w5 ⟨rfl, rfl⟩)
        go_ret
        exact ⟨rfl, HB.out⟩
  · go_enter Yba.func3, Yba.ntmps3
    go_wp2
    go_ret
    exact ⟨rfl, ((Below.refl _ _).alloc (Nat.le_refl _) _).alloc (by simp) _⟩
end Go.Proofs.Ybulkgzk.lawS0387AFresh
