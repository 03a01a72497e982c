/-
  OWN TEXT. '(*reply).piece' by its contracts, as far as the laws' roads go.
-/
import Derived.Test.YbulkgzkAdd
namespace Go.Proofs.Ybulkgzk
open Go.RowKit Go.MuLone

/-- 'Added', its three numbers named. -/
def AddedAt (C g cap R B s total : Nat) (w2 w' : World) : Prop :=
  w2.heap.size ≤ C ∧ C < w'.heap.size ∧ w2.heap.size ≤ g ∧ g < w'.heap.size ∧ g ≠ C ∧
    w'.cell? ⟨R, 4, none⟩ = some (.slice (some ⟨g, 0, none⟩) 1 cap) ∧ w'.cell? ⟨g, 0, none⟩ = some (.pointer (some ⟨C, 0, none⟩)) ∧
    w'.cell? ⟨C, 0, none⟩ = some (.slice (some ⟨B, 0, none⟩) 262176 262176) ∧ w'.cell? ⟨C, 1, none⟩ = some (.int .i64 s) ∧ w'.cell? ⟨C, 2, none⟩ = some (.int .i64 total) ∧ w'.cell? ⟨C, 3, none⟩ = some (.bool false) ∧
    w'.frozen? ⟨C, 0, none⟩ = false ∧ (∃ c, w'.heap[C]? = some (.cells c 59 (0, 0))) ∧ (∀ o, o ≠ 4 → w'.cell? ⟨R, o, none⟩ = w2.cell? ⟨R, o, none⟩) ∧ (∀ o, w'.frozen? ⟨R, o, none⟩ = w2.frozen? ⟨R, o, none⟩) ∧ Kept [R] w2 w'

/-- A pool that is free, holds no free buffer, and has made m. -/
structure PoolAt (P : Nat) (m : Int) (w : World) : Prop where
  lt : P < w.heap.size
  c0 : w.cell? ⟨P, 0, none⟩ = some (.int .i32 0)
  f0 : w.frozen? ⟨P, 0, none⟩ = false
  c9 : w.cell? ⟨P, 9, none⟩ = some (.slice none 0 0)
  c11 : w.cell? ⟨P, 11, none⟩ = some (.int .i64 m)
  f11 : w.frozen? ⟨P, 11, none⟩ = false

/-- A reply: its head in block H (hl bytes), n bytes of payload, its fill, its pieces. -/
structure ReplyAt (R H hl n g : Nat) (cb : Array Value) (pcs : Value) (w : World) : Prop where
  lt : R < w.heap.size
  r1 : w.cell? ⟨R, 1, none⟩ = some (.slice (some ⟨H, 0, none⟩) hl hl)
  r2 : w.cell? ⟨R, 2, none⟩ = some (.int .i64 n)
  r3 : w.cell? ⟨R, 3, none⟩ = some (.func (.func g) #[] cb)
  r4 : w.cell? ⟨R, 4, none⟩ = some pcs
  f4 : w.frozen? ⟨R, 4, none⟩ = false

/-- What a first piece leaves: from w to w', by way of wg (a buffer has been got, in block w.heap.size) and wf (it has been filled). -/
def Pieced (C gg cap R P s hl n : Nat) (m seed : Int) (Hb : Nat → Int) (FP : World → Nat → Nat → Int → World → Prop) (w w' : World) : Prop :=
  ∃ wg wf, Kept [P] w wg ∧ PoolAt P (m + 1) wg ∧ w.heap.size < wg.heap.size ∧ AddedAt C gg cap R w.heap.size s (hl + n) wf w' ∧
    (∀ i, i < hl + n - s → wf.cell? ⟨w.heap.size, i, none⟩ = some (.int .u8 (byteF Hb hl seed (s + i)))) ∧
    ((max s hl < hl + n ∧ ∃ w1 off, Below w.heap.size wg w1 ∧ FP w1 off (hl + n - max s hl) ((max s hl : Nat) - hl : Int) wf) ∨ (¬ max s hl < hl + n ∧ Below w.heap.size wg wf))

theorem kept_of_grown {P : Nat} {w w' : World} (h : w.grownBy w' (some P)) : Kept [P] w w' :=
  (Kept.refl [P] w).of_grown h (fun k hk => by cases hk; exact .inl (by simp))

theorem pool_got {P : Nat} {m : Int} {w wg : World} (hP : PoolAt P m w) (h11 : wg.cell? ⟨P, 11, none⟩ = some (.int .i64 (m + 1))) (hg : w.grownBy wg (some P)) (hc : ∀ o, o ≠ 11 → wg.cell? ⟨P, o, none⟩ = w.cell? ⟨P, o, none⟩) (hf : ∀ o, wg.frozen? ⟨P, o, none⟩ = w.frozen? ⟨P, o, none⟩) : PoolAt P (m + 1) wg :=
  ⟨Nat.lt_of_lt_of_le hP.lt hg.size, (hc 0 (by omega)).trans hP.c0, (hf 0).trans hP.f0, (hc 9 (by omega)).trans hP.c9, h11, (hf 11).trans hP.f11⟩

theorem reply_kept {R H hl n g : Nat} {cb : Array Value} {pcs : Value} {S : List Nat} {w w' : World} (h : ReplyAt R H hl n g cb pcs w) (hk : Kept S w w') (hn : R ∉ S) : ReplyAt R H hl n g cb pcs w' :=
  ⟨Nat.lt_of_lt_of_le h.lt hk.size, (hk.cell h.lt hn).trans h.r1, (hk.cell h.lt hn).trans h.r2, (hk.cell h.lt hn).trans h.r3, (hk.cell h.lt hn).trans h.r4, (hk.frozen h.lt hn).trans h.f4⟩

theorem made_buffer {w wg : World} (h : wg.ownsRow w.heap.size 5 1 (.slice (some ⟨w.heap.size, 0, none⟩) 262176 262176) 262176 (madeCells (Value.cells (.int .u8 0)) (262176 * 1)).toList) :
    ∃ cur : List Value, wg.heap[w.heap.size]? = some (.cells cur.toArray 5 (0, 0)) ∧ cur.length = 262176 := by
  rcases h.2 with ⟨h, _⟩ | ⟨g, cap, cur, he, _, hg, _, _, hs, _⟩
  · simp at h
  · simp only [Value.slice.injEq, Option.some.injEq, Addr.mk.injEq, and_true, true_and] at he
    obtain ⟨rfl, rfl⟩ := he
    exact ⟨cur.toList, by simpa using hg, by simpa using hs⟩

set_option maxRecDepth 100000 in
set_option maxHeartbeats 2000000 in
/-- A reply that holds no piece: a new buffer is filled. -/
theorem piece_fresh (R P H hl n s : Nat) (g : Nat) (cb : Array Value) (S : List Nat) (m seed : Int) (FP : World → Nat → Nat → Int → World → Prop) (Hb : Nat → Int) (w : World) (hhl : hl ≤ 1024) (hn : n ≤ 2047) (hs : s ≤ hl + n) (hm0 : 0 ≤ m) (hm : m < 16)
    (hR : ReplyAt R H hl n g cb (.slice none 0 0) w) (hP : PoolAt P m w) (hHw : H < w.heap.size) (hRP : R ≠ P) (hHP : H ≠ P) (hRS : R ∉ S) (eg : ∀ args w, (callFunc g args).run Yba.prog w = .ok (.enter g args) w)
    (hfill : ∀ wg, Kept [P] w wg → w.heap.size < wg.heap.size → FillOk g cb w.heap.size S seed wg FP) (hH : ∀ q, q < hl → w.cell? ⟨H, q, none⟩ = some (.int .u8 (Hb q))) :
    Calls Yba.prog 10 #[.pointer (some ⟨R, 0, none⟩), .pointer (some ⟨P, 0, none⟩), .int .i64 s] w fun e w' =>
      ∃ C gg cap, e = .returned (.tuple #[.pointer (some ⟨C, 0, none⟩), .nilIface]) ∧ Pieced C gg cap R P s hl n m seed Hb FP w w' := by
  have r4 := hR.r4
  have hPR : P ≠ R := fun e => hRP e.symm
  go_enter Yba.func10, Yba.ntmps10
  go_wp2_with fail
  refine (get_any P m w hP.c0 hP.f0 hP.c9 hP.c11 hP.f11 hm0 hm hP.lt).mono ?_
  rintro _ wg ⟨rfl, hown, h11, hg, hc, hf⟩
  have hKg := kept_of_grown hg
  have hPg := pool_got hP h11 hg hc hf
  have hRg := reply_kept hR hKg (by simpa using hRP)
  have hBg : w.heap.size < wg.heap.size := (hown.lt _ rfl).2
  obtain ⟨cur, hB, hcur⟩ := made_buffer hown
  have hHg : ∀ q, q < hl → wg.cell? ⟨H, q, none⟩ = some (.int .u8 (Hb q)) := fun q hq => (hKg.cell (p := ⟨H, q, none⟩) (by exact hHw) (by simpa using hHP)).trans (hH q hq)
  have hadd := add_ok R P w.heap.size H hl n s g cb S seed FP cur Hb wg hhl hn hs hR.lt hBg hRS eg (hfill wg hKg hBg) hRg.r1 hRg.r2 hRg.r3 hRg.r4 hRg.f4 hB hcur hHg
  clear hown h11 hg hc hf hB hHg
  go_wp2_with fail
  refine hadd.mono ?_
  rintro _ w' ⟨rfl, wf, ⟨C, gg, cap, hA⟩, hby, hor⟩
  have hA2 : AddedAt C gg cap R w.heap.size s (hl + n) wf w' := hA
  obtain ⟨_, _, _, _, _, a4, a5, _⟩ := hA
  clear hadd
  go_wp2
  go_ret2
  exact ⟨C, gg, cap, rfl, wg, wf, hKg, hPg, hBg, hA2, hby, hor⟩

set_option maxHeartbeats 1000000 in
/-- The reply's one piece still holds its buffer: it is handed back. -/
theorem piece_same (R P C gg cap : Nat) (b : Addr) (bn bc : Nat) (s : Int) (w : World) (r4 : w.cell? ⟨R, 4, none⟩ = some (.slice (some ⟨gg, 0, none⟩) 1 cap)) (hg : w.cell? ⟨gg, 0, none⟩ = some (.pointer (some ⟨C, 0, none⟩)))
    (c0 : w.cell? ⟨C, 0, none⟩ = some (.slice (some b) bn bc)) (c3 : w.cell? ⟨C, 3, none⟩ = some (.bool false)) (h0 : w.cell? ⟨P, 0, none⟩ = some (.int .i32 0)) (f0 : w.frozen? ⟨P, 0, none⟩ = false) (hPC : P ≠ C) :
    Calls Yba.prog 10 #[.pointer (some ⟨R, 0, none⟩), .pointer (some ⟨P, 0, none⟩), .int .i64 s] w fun e w' => e = .returned (.tuple #[.pointer (some ⟨C, 0, none⟩), .nilIface]) ∧ w' = w := by
  go_enter Yba.func10, Yba.ntmps10
  go_wp2_with fail
  refine (unpark_any P C (some b) bn bc w h0 f0 c0 c3 hPC).mono ?_
  rintro _ w ⟨rfl, rfl⟩
  go_wp2
  go_ret2
  exact ⟨rfl, rfl⟩

set_option maxHeartbeats 1000000 in
/-- 'release' where the reply's one piece has lost its buffer. -/
theorem release_nil (R P C gg cap : Nat) (w : World) (r4 : w.cell? ⟨R, 4, none⟩ = some (.slice (some ⟨gg, 0, none⟩) 1 cap)) (f4 : w.frozen? ⟨R, 4, none⟩ = false) (hg : w.cell? ⟨gg, 0, none⟩ = some (.pointer (some ⟨C, 0, none⟩)))
    (c0 : w.cell? ⟨C, 0, none⟩ = some (.slice none 0 0)) (c3 : w.cell? ⟨C, 3, none⟩ = some (.bool false)) (h0 : w.cell? ⟨P, 0, none⟩ = some (.int .i32 0)) (f0 : w.frozen? ⟨P, 0, none⟩ = false) (hPC : P ≠ C) :
    Calls Yba.prog 15 #[.pointer (some ⟨R, 0, none⟩), .pointer (some ⟨P, 0, none⟩)] w fun e w' => e = .returned (.tuple #[]) ∧ w' = w.setCell ⟨R, 4, none⟩ (.slice none 0 0) := by
  have hun := unpark_any P C none 0 0 w h0 f0 c0 c3 hPC
  go_enter Yba.func15, Yba.ntmps15
  go_wp2_with fail
  refine wp_loop_rounds 2 ?_
  rw [rounds_succ]
  go_wp2_with fail
  refine hun.mono ?_
  rintro _ w ⟨rfl, rfl⟩
  go_wp2_with fail
  rw [rounds_succ]
  go_wp2_with fail
  go_end0
  exact ⟨rfl, rfl⟩

set_option maxRecDepth 100000 in
set_option maxHeartbeats 2000000 in
/-- The reply's one piece has lost its buffer: a new buffer is filled. -/
theorem piece_taken (R P H hl n s : Nat) (C0 g0 cap0 : Nat) (g : Nat) (cb : Array Value) (S : List Nat) (m seed : Int) (FP : World → Nat → Nat → Int → World → Prop) (Hb : Nat → Int) (w : World) (hhl : hl ≤ 1024) (hn : n ≤ 2047) (hs : s ≤ hl + n) (hm0 : 0 ≤ m) (hm : m < 16)
    (hR : ReplyAt R H hl n g cb (.slice (some ⟨g0, 0, none⟩) 1 cap0) w) (hg0 : w.cell? ⟨g0, 0, none⟩ = some (.pointer (some ⟨C0, 0, none⟩))) (k0 : w.cell? ⟨C0, 0, none⟩ = some (.slice none 0 0)) (k3 : w.cell? ⟨C0, 3, none⟩ = some (.bool false)) (hPC : P ≠ C0)
    (hP : PoolAt P m w) (hHw : H < w.heap.size) (hRP : R ≠ P) (hHP : H ≠ P) (hHR : H ≠ R) (hRS : R ∉ S) (eg : ∀ args w, (callFunc g args).run Yba.prog w = .ok (.enter g args) w)
    (hfill : ∀ wg, Kept [P] (w.setCell ⟨R, 4, none⟩ (.slice none 0 0)) wg → w.heap.size < wg.heap.size → FillOk g cb w.heap.size S seed wg FP) (hH : ∀ q, q < hl → w.cell? ⟨H, q, none⟩ = some (.int .u8 (Hb q))) :
    Calls Yba.prog 10 #[.pointer (some ⟨R, 0, none⟩), .pointer (some ⟨P, 0, none⟩), .int .i64 s] w fun e w' =>
      ∃ C gg cap, e = .returned (.tuple #[.pointer (some ⟨C, 0, none⟩), .nilIface]) ∧ Pieced C gg cap R P s hl n m seed Hb FP (w.setCell ⟨R, 4, none⟩ (.slice none 0 0)) w' := by
  have r4 := hR.r4
  have hPR : P ≠ R := fun e => hRP e.symm
  have hun := unpark_any P C0 none 0 0 w hP.c0 hP.f0 k0 k3 hPC
  have hrel := release_nil R P C0 g0 cap0 w hR.r4 hR.f4 hg0 k0 k3 hP.c0 hP.f0 hPC
  obtain ⟨w0, hw0⟩ : ∃ w0, w0 = w.setCell ⟨R, 4, none⟩ (.slice none 0 0) := ⟨_, rfl⟩
  have hsz : w0.heap.size = w.heap.size := by rw [hw0]; simp
  have hoR : ∀ o, o ≠ 4 → w0.cell? ⟨R, o, none⟩ = w.cell? ⟨R, o, none⟩ := fun o ho => by rw [hw0]; exact World.cell?_setCell_other _ _ _ _ (fun h => ho (congrArg Addr.off h).symm)
  have hR0 : ReplyAt R H hl n g cb (.slice none 0 0) w0 :=
    ⟨by rw [hsz]; exact hR.lt, (hoR 1 (by omega)).trans hR.r1, (hoR 2 (by omega)).trans hR.r2, (hoR 3 (by omega)).trans hR.r3, by rw [hw0]; exact World.cell?_setCell_same _ _ _ hR.r4, by rw [hw0, World.frozen?_setCell]; exact hR.f4⟩
  have hoP : ∀ o, w0.cell? ⟨P, o, none⟩ = w.cell? ⟨P, o, none⟩ := fun o => by rw [hw0]; exact World.cell?_setCell_other _ _ _ _ (fun h => hRP (congrArg Addr.block h))
  have hfP : ∀ o, w0.frozen? ⟨P, o, none⟩ = w.frozen? ⟨P, o, none⟩ := fun o => by rw [hw0, World.frozen?_setCell]
  have hP0 : PoolAt P m w0 := ⟨by rw [hsz]; exact hP.lt, (hoP 0).trans hP.c0, (hfP 0).trans hP.f0, (hoP 9).trans hP.c9, (hoP 11).trans hP.c11, (hfP 11).trans hP.f11⟩
  have hH0 : ∀ q, q < hl → w0.cell? ⟨H, q, none⟩ = some (.int .u8 (Hb q)) := fun q hq => by
    rw [hw0, World.cell?_setCell_other _ _ _ _ (fun h => hHR (congrArg Addr.block h).symm)]; exact hH q hq
  rw [← hw0] at hrel hfill ⊢
  have HR0 : Hid (ReplyAt R H hl n g cb (.slice none 0 0) w0) := hR0
  have HSZ : Hid (w0.heap.size = w.heap.size) := hsz
  clear hw0 hoR hoP hfP hR0 hsz
  go_enter Yba.func10, Yba.ntmps10
  go_wp2_with fail
  refine hun.mono ?_
  rintro _ w ⟨rfl, rfl⟩
  go_wp2_with fail
  refine hrel.mono ?_
  rintro _ w0 ⟨rfl, rfl⟩
  clear hun hrel r4
  have hR0 := HR0.out
  have r40 := hR0.r4
  go_wp2_with fail
  refine (get_any P m w0 hP0.c0 hP0.f0 hP0.c9 hP0.c11 hP0.f11 hm0 hm hP0.lt).mono ?_
  rintro _ wg ⟨rfl, hown, h11, hg, hc, hf⟩
  have hKg := kept_of_grown hg
  have hPg := pool_got hP0 h11 hg hc hf
  have hRg := reply_kept hR0 hKg (by simpa using hRP)
  have hBg : w0.heap.size < wg.heap.size := (hown.lt _ rfl).2
  obtain ⟨cur, hB, hcur⟩ := made_buffer hown
  have hHg : ∀ q, q < hl → wg.cell? ⟨H, q, none⟩ = some (.int .u8 (Hb q)) := fun q hq => (hKg.cell (p := ⟨H, q, none⟩) (by rw [HSZ.out]; exact hHw) (by simpa using hHP)).trans (hH0 q hq)
  have hfl : FillOk g cb w0.heap.size S seed wg FP := by
    have := hfill wg hKg (by rw [← HSZ.out]; exact hBg)
    rwa [← HSZ.out] at this
  have hadd := add_ok R P w0.heap.size H hl n s g cb S seed FP cur Hb wg hhl hn hs hR0.lt hBg hRS eg hfl hRg.r1 hRg.r2 hRg.r3 hRg.r4 hRg.f4 hB hcur hHg
  clear hown h11 hg hc hf hB hHg
  go_wp2_with fail
  refine hadd.mono ?_
  rintro _ w' ⟨rfl, wf, ⟨C, gg, cap, hA⟩, hby, hor⟩
  have hA2 : AddedAt C gg cap R w0.heap.size s (hl + n) wf w' := hA
  obtain ⟨_, _, _, _, _, a4, a5, _⟩ := hA
  clear hadd
  go_wp2
  go_ret2
  exact ⟨C, gg, cap, rfl, wg, wf, hKg, hPg, hBg, hA2, hby, hor⟩
end Go.Proofs.Ybulkgzk
