/-
  OWN TEXT. The state that 'LawS0387AAgain' carries from piece to piece.
-/
import Derived.Test.YbulkgzkAfter
import Derived.LaidEqlPtr
namespace Go.Proofs.Ybulkgzk
open Go.RowKit Go.MuLone

theorem run_neq_ptr_same {P : Program} (w : World) {tp te : TypeId} {j : TypeInfo} (a : Addr) (hp : P.underlying tp = some (.pointer te)) (hte : P.info? te = some j) :
    (binOp .neq tp (.pointer (some a)) (.pointer (some a))).run P w = .ok (.bool false) w := by
  have h : ∀ d : Nat, (Op.equalIn (d + 1) tp (.pointer (some a)) (.pointer (some a))).run P w = .ok true w := fun d => by
    simp [Op.equalIn, run_underlying hp, sizeOf, typeInfo, hte, run_sameAddr_same]
  simp only [binOp]
  simp [Op.equal, Op.maxDepth, h 9999]

theorem run_neq_ptr_other {P : Program} (w : World) {tp te : TypeId} {j : TypeInfo} {a b : Addr} {ca cb : Array Value} {ta tb : TypeId} (hp : P.underlying tp = some (.pointer te)) (hte : P.info? te = some j) (hsz : j.size ≠ 0)
    (hne : a ≠ b) (ha : w.heap[a.block]? = some (.cells ca ta (0, 0))) (hb : w.heap[b.block]? = some (.cells cb tb (0, 0))) :
    (binOp .neq tp (.pointer (some a)) (.pointer (some b))).run P w = .ok (.bool true) w := by
  have h : ∀ d : Nat, (Op.equalIn (d + 1) tp (.pointer (some a)) (.pointer (some b))).run P w = .ok false w := fun d => by
    simp [Op.equalIn, run_underlying hp, sizeOf, typeInfo, hte, hsz, run_sameAddr_other w hne ha hb]
  simp only [binOp]
  simp [Op.equal, Op.maxDepth, h 9999]

/-- A block of cells stays one where a cell of it is written. -/
theorem cells_setCell {w : World} {b o : Nat} {t : TypeId} {v : Value} (h : ∃ c, w.heap[b]? = some (.cells c t (0, 0))) : ∃ c, (w.setCell ⟨b, o, none⟩ v).heap[b]? = some (.cells c t (0, 0)) := by
  obtain ⟨c, h⟩ := h
  exact ⟨c.setIfInBounds o v, by simp [World.setCell, Array.getElem?_modify, h]⟩

/-- A slice of bytes that came in. -/
def BytesAt (Hb : Nat → Int) (w : World) (ao : Option Addr) (n : Nat) : Prop :=
  n = 0 ∨ ∃ b off, ao = some ⟨b, off, none⟩ ∧ b < w.heap.size ∧ ∀ i, i < n → w.cell? ⟨b, off + i, none⟩ = some (.int .u8 (Hb i))

structure AgSt (W : World) (SB H CB R P hl n : Nat) (seed : Int) (Hb : Nat → Int) (k m : Int) (pcs : Value) (w : World) : Prop where
  o1 : SB < H
  o2 : H < CB
  o3 : CB < R
  o4 : R < P
  o5 : P < w.heap.size
  reply : ReplyAt R H hl n 12 #[.pointer (some ⟨CB, 0, none⟩), .pointer (some ⟨SB, 0, none⟩)] pcs w
  pool : PoolAt P m w
  cC : w.cell? ⟨CB, 0, none⟩ = some (.int .i64 k)
  fC : w.frozen? ⟨CB, 0, none⟩ = false
  cS : w.cell? ⟨SB, 0, none⟩ = some (.int .u8 seed)
  hH : ∀ q, q < hl → w.cell? ⟨H, q, none⟩ = some (.int .u8 (Hb q))
  below : Below SB W w

variable {W w : World} {SB H CB R P hl n : Nat} {seed k m : Int} {Hb : Nat → Int} {pcs : Value}

/-- A cell behind the pool is written. -/
theorem AgSt.over (h : AgSt W SB H CB R P hl n seed Hb k m pcs w) {b : Nat} (hb : P < b) (o : Nat) (v : Value) : AgSt W SB H CB R P hl n seed Hb k m pcs (w.setCell ⟨b, o, none⟩ v) := by
  have h1 := h.o1; have h2 := h.o2; have h3 := h.o3; have h4 := h.o4
  have hc : ∀ x y, x ≤ P → (w.setCell ⟨b, o, none⟩ v).cell? ⟨x, y, none⟩ = w.cell? ⟨x, y, none⟩ := fun x y hx => World.cell?_setCell_other _ _ _ _ (fun e => by have := congrArg Addr.block e; simp at this; omega)
  refine ⟨h1, h2, h3, h4, by simpa using h.o5, ?_, ?_, (hc _ _ (by omega)).trans h.cC, by rw [World.frozen?_setCell]; exact h.fC, (hc _ _ (by omega)).trans h.cS, fun q hq => (hc _ _ (by omega)).trans (h.hH q hq), h.below.setCell (by show SB ≤ b; omega) _⟩
  · have r := h.reply
    exact ⟨by simpa using r.lt, (hc _ _ (by omega)).trans r.r1, (hc _ _ (by omega)).trans r.r2, (hc _ _ (by omega)).trans r.r3, (hc _ _ (by omega)).trans r.r4, by rw [World.frozen?_setCell]; exact r.f4⟩
  · have p := h.pool
    exact ⟨by simpa using p.lt, (hc _ _ (by omega)).trans p.c0, by rw [World.frozen?_setCell]; exact p.f0, (hc _ _ (by omega)).trans p.c9, (hc _ _ (by omega)).trans p.c11, by rw [World.frozen?_setCell]; exact p.f11⟩

/-- The pieces are dropped. -/
theorem AgSt.drop (h : AgSt W SB H CB R P hl n seed Hb k m pcs w) (v : Value) : AgSt W SB H CB R P hl n seed Hb k m v (w.setCell ⟨R, 4, none⟩ v) := by
  have h1 := h.o1; have h2 := h.o2; have h3 := h.o3; have h4 := h.o4
  have hc : ∀ x y, x ≠ R → (w.setCell ⟨R, 4, none⟩ v).cell? ⟨x, y, none⟩ = w.cell? ⟨x, y, none⟩ := fun x y hx => World.cell?_setCell_other _ _ _ _ (fun e => hx (congrArg Addr.block e).symm)
  have hr : ∀ y, y ≠ 4 → (w.setCell ⟨R, 4, none⟩ v).cell? ⟨R, y, none⟩ = w.cell? ⟨R, y, none⟩ := fun y hy => World.cell?_setCell_other _ _ _ _ (fun e => hy (congrArg Addr.off e).symm)
  refine ⟨h1, h2, h3, h4, by simpa using h.o5, ?_, ?_, (hc _ _ (by omega)).trans h.cC, by rw [World.frozen?_setCell]; exact h.fC, (hc _ _ (by omega)).trans h.cS, fun q hq => (hc _ _ (by omega)).trans (h.hH q hq), h.below.setCell (by show SB ≤ R; omega) _⟩
  · have r := h.reply
    exact ⟨by simpa using r.lt, (hr _ (by omega)).trans r.r1, (hr _ (by omega)).trans r.r2, (hr _ (by omega)).trans r.r3, World.cell?_setCell_same _ _ _ r.r4, by rw [World.frozen?_setCell]; exact r.f4⟩
  · have p := h.pool
    exact ⟨by simpa using p.lt, (hc _ _ (by omega)).trans p.c0, by rw [World.frozen?_setCell]; exact p.f0, (hc _ _ (by omega)).trans p.c9, (hc _ _ (by omega)).trans p.c11, by rw [World.frozen?_setCell]; exact p.f11⟩

/-- A piece is laid. -/
theorem AgSt.laid (h : AgSt W SB H CB R P hl n seed Hb k m pcs w) {C gg cap s : Nat} {w' : World} (hP : Pieced C gg cap R P s hl n m seed Hb (AgainFP CB w.heap.size k seed) w w') :
    ∃ k2, (k2 = k ∨ k2 = k + 1) ∧ AgSt W SB H CB R P hl n seed Hb k2 (m + 1) (.slice (some ⟨gg, 0, none⟩) 1 cap) w' ∧ After C gg cap R P s hl n m seed Hb [CB] w w' := by
  have h1 := h.o1; have h2 := h.o2; have h3 := h.o3; have h4 := h.o4; have h5 := h.o5
  have hA := after_of (S := [CB]) hP (by omega) (by omega) (by omega) (by simp; omega) (by simp; omega) (fun _ _ _ _ _ hf => again_kept hf)
  obtain ⟨k2, hk, cC, fC⟩ := again_count hP (by omega) (by omega) (by omega) h.cC h.fC
  have hsz := hA.sz
  refine ⟨k2, hk, ⟨h1, h2, h3, h4, by omega, hA.reply h.reply, hA.pool, cC, fC, (hA.kept.cell (p := ⟨SB, 0, none⟩) (by show SB < _; omega) (by simp; omega)).trans h.cS, fun q hq => (hA.kept.cell (p := ⟨H, q, none⟩) (by show H < _; omega) (by simp; omega)).trans (h.hH q hq), ?_⟩, hA⟩
  refine hA.kept.below h.below (by omega) ?_
  intro x hx
  simp only [List.mem_cons, List.not_mem_nil, or_false] at hx
  omega

theorem AgSt.fillok (h : AgSt W SB H CB R P hl n seed Hb k m pcs w) (hk0 : 0 ≤ k) (hk : k ≤ 100) : ∀ wg, Kept [P] w wg → w.heap.size < wg.heap.size →
    FillOk 12 #[.pointer (some ⟨CB, 0, none⟩), .pointer (some ⟨SB, 0, none⟩)] w.heap.size [CB] seed wg (AgainFP CB w.heap.size k seed) := by
  intro wg hK hsz
  have h1 := h.o1; have h2 := h.o2; have h3 := h.o3; have h4 := h.o4; have h5 := h.o5
  exact again_fillok CB SB w.heap.size k seed wg hk0 hk (by omega) (by omega) (by omega) (by omega) ((hK.cell (p := ⟨CB, 0, none⟩) (by show CB < _; omega) (by simp; omega)).trans h.cC) ((hK.frozen (p := ⟨CB, 0, none⟩) (by show CB < _; omega) (by simp; omega)).trans h.fC) ((hK.cell (p := ⟨SB, 0, none⟩) (by show SB < _; omega) (by simp; omega)).trans h.cS)

theorem enter12 : ∀ (args : Array Value) (w : World), (callFunc 12 args).run Yba.prog w = .ok (.enter 12 args) w := enters_of Yba.func12 (by kernel_rfl) rfl

/-- The first piece. -/
theorem AgSt.first (h : AgSt W SB H CB R P hl n seed Hb 0 0 (.slice none 0 0) w) {s : Nat} (hhl : hl ≤ 1024) (hn : n ≤ 2047) (hs : s ≤ hl + n) :
    Calls Yba.prog 10 #[.pointer (some ⟨R, 0, none⟩), .pointer (some ⟨P, 0, none⟩), .int .i64 s] w fun e w' =>
      ∃ C gg cap, e = .returned (.tuple #[.pointer (some ⟨C, 0, none⟩), .nilIface]) ∧ ∃ k2, (k2 = 0 ∨ k2 = 0 + 1) ∧ AgSt W SB H CB R P hl n seed Hb k2 (0 + 1) (.slice (some ⟨gg, 0, none⟩) 1 cap) w' ∧ After C gg cap R P s hl n 0 seed Hb [CB] w w' := by
  have h1 := h.o1; have h2 := h.o2; have h3 := h.o3; have h4 := h.o4; have h5 := h.o5
  refine (piece_fresh R P H hl n s 12 _ [CB] 0 seed (AgainFP CB w.heap.size 0 seed) Hb w hhl hn hs (by omega) (by omega) h.reply h.pool (by omega) (by omega) (by omega) (by simp; omega) enter12 (h.fillok (by omega) (by omega)) h.hH).mono ?_
  rintro _ w' ⟨C, gg, cap, rfl, hP⟩
  exact ⟨C, gg, cap, rfl, h.laid hP⟩

/-- The second piece, the first one's buffer being gone. -/
theorem AgSt.second {C0 g0 cap0 : Nat} (h : AgSt W SB H CB R P hl n seed Hb k 1 (.slice (some ⟨g0, 0, none⟩) 1 cap0) w) (hk0 : 0 ≤ k) (hk : k ≤ 100) (hg0 : w.cell? ⟨g0, 0, none⟩ = some (.pointer (some ⟨C0, 0, none⟩))) (k0 : w.cell? ⟨C0, 0, none⟩ = some (.slice none 0 0)) (k3 : w.cell? ⟨C0, 3, none⟩ = some (.bool false)) (hPC : P ≠ C0)
    {s : Nat} (hhl : hl ≤ 1024) (hn : n ≤ 2047) (hs : s ≤ hl + n) :
    Calls Yba.prog 10 #[.pointer (some ⟨R, 0, none⟩), .pointer (some ⟨P, 0, none⟩), .int .i64 s] w fun e w' =>
      ∃ C gg cap, e = .returned (.tuple #[.pointer (some ⟨C, 0, none⟩), .nilIface]) ∧ ∃ k2, (k2 = k ∨ k2 = k + 1) ∧ AgSt W SB H CB R P hl n seed Hb k2 (1 + 1) (.slice (some ⟨gg, 0, none⟩) 1 cap) w' ∧ After C gg cap R P s hl n 1 seed Hb [CB] (w.setCell ⟨R, 4, none⟩ (.slice none 0 0)) w' := by
  have h1 := h.o1; have h2 := h.o2; have h3 := h.o3; have h4 := h.o4; have h5 := h.o5
  have hd := h.drop (.slice none 0 0)
  have hsz : (w.setCell ⟨R, 4, none⟩ (.slice none 0 0)).heap.size = w.heap.size := World.size_setCell _ _ _
  refine (piece_taken R P H hl n s C0 g0 cap0 12 _ [CB] 1 seed (AgainFP CB w.heap.size k seed) Hb w hhl hn hs (by omega) (by omega) h.reply hg0 k0 k3 hPC h.pool (by omega) (by omega) (by omega) (by omega) (by simp; omega) enter12 (fun wg hK hz => ?_) h.hH).mono ?_
  · have := hd.fillok hk0 hk wg hK (by rw [hsz]; exact hz)
    rw [hsz] at this
    exact this
  rintro _ w' ⟨C, gg, cap, rfl, hP⟩
  exact ⟨C, gg, cap, rfl, hd.laid (by rw [hsz]; exact hP)⟩

/-- The state at the first piece. -/
theorem agst_start {W w2 : World} {SB H CB R P hl n : Nat} {seed : Int} {Hb : Nat → Int} (e1 : CB = w2.heap.size) (e2 : R = CB + 1) (e3 : P = CB + 2) (o1 : SB < H) (o2 : H < CB) (cS : w2.cell? ⟨SB, 0, none⟩ = some (.int .u8 seed)) (hH : ∀ q, q < hl → w2.cell? ⟨H, q, none⟩ = some (.int .u8 (Hb q))) (hb : Below SB W w2) :
    AgSt W SB H CB R P hl n seed Hb 0 0 (.slice none 0 0) (((w2.alloc (.cells #[.int .i64 0] 3)).alloc (.cells #[.bool false, .slice (some ⟨H, 0, none⟩) hl hl, .int .i64 n, .func (.func 12) #[] #[.pointer (some ⟨CB, 0, none⟩), .pointer (some ⟨SB, 0, none⟩)], .slice none 0 0] 33)).alloc (.cells (poolCells P) 55)) := by
  subst e1 e2 e3
  obtain ⟨wa, hwa⟩ : ∃ wa, wa = w2.alloc (.cells #[.int .i64 0] 3) := ⟨_, rfl⟩
  obtain ⟨wb, hwb⟩ : ∃ wb, wb = wa.alloc (.cells #[.bool false, .slice (some ⟨H, 0, none⟩) hl hl, .int .i64 n, .func (.func 12) #[] #[.pointer (some ⟨w2.heap.size, 0, none⟩), .pointer (some ⟨SB, 0, none⟩)], .slice none 0 0] 33) := ⟨_, rfl⟩
  rw [← hwa, ← hwb]
  have sa : wa.heap.size = w2.heap.size + 1 := by rw [hwa]; simp
  have sb : wb.heap.size = w2.heap.size + 2 := by rw [hwb]; simp [sa]
  obtain ⟨wc, hwc⟩ : ∃ wc, wc = wb.alloc (.cells (poolCells (w2.heap.size + 2)) 55) := ⟨_, rfl⟩
  rw [← hwc]
  have sc : wc.heap.size = w2.heap.size + 3 := by rw [hwc]; simp [sb]
  have b0 : ∀ x, x < w2.heap.size → wc.heap[x]? = w2.heap[x]? := fun x hx => by rw [hwc, Below.heap_alloc _ _ _ (by omega), hwb, Below.heap_alloc _ _ _ (by omega), hwa, Below.heap_alloc _ _ _ hx]
  have b1 : wc.heap[w2.heap.size]? = some (.cells #[.int .i64 0] 3) := by rw [hwc, Below.heap_alloc _ _ _ (by omega), hwb, Below.heap_alloc _ _ _ (by omega), hwa]; exact heap_alloc_new w2 _
  have b2 : wc.heap[w2.heap.size + 1]? = some (.cells #[.bool false, .slice (some ⟨H, 0, none⟩) hl hl, .int .i64 n, .func (.func 12) #[] #[.pointer (some ⟨w2.heap.size, 0, none⟩), .pointer (some ⟨SB, 0, none⟩)], .slice none 0 0] 33) := by
    rw [hwc, Below.heap_alloc _ _ _ (by omega), hwb, ← sa]; exact heap_alloc_new wa _
  have b3 : wc.heap[w2.heap.size + 2]? = some (.cells (poolCells (w2.heap.size + 2)) 55) := by rw [hwc, ← sb]; exact heap_alloc_new wb _
  refine ⟨o1, o2, by omega, by omega, by omega, ⟨by omega, ?_, ?_, ?_, ?_, ?_⟩, ⟨by omega, ?_, ?_, ?_, ?_, ?_⟩, ?_, ?_, ?_, ?_, ?_⟩
  · simp [World.cell?, b2]
  · simp [World.cell?, b2]
  · simp [World.cell?, b2]
  · simp [World.cell?, b2]
  · exact frozen_of_row wc _ 4 _ 33 b2
  · simp [World.cell?, b3, poolCells]
  · exact frozen_of_row wc _ 0 _ 55 b3
  · simp [World.cell?, b3, poolCells]
  · simp [World.cell?, b3, poolCells]
  · exact frozen_of_row wc _ 11 _ 55 b3
  · simp [World.cell?, b1]
  · exact frozen_of_row wc _ 0 _ 3 b1
  · exact (World.cell?_of_block (a := ⟨SB, 0, none⟩) (b0 SB (by omega))).trans cS
  · intro q hq
    exact (World.cell?_of_block (a := ⟨H, q, none⟩) (b0 H (by omega))).trans (hH q hq)
  · rw [hwc, hwb, hwa]
    exact ((hb.alloc (by omega) _).alloc (by simp; omega) _).alloc (by simp; omega) _
end Go.Proofs.Ybulkgzk
