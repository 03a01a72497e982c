/-
  OWN TEXT. What a piece that was laid leaves, told of the world behind it.
-/
import Derived.Test.YbulkgzkPiece
namespace Go.Proofs.Ybulkgzk
open Go.RowKit Go.MuLone

/-- From w to w' a first piece (in block C, its buffer in block w.heap.size) has been laid. -/
structure After (C gg cap R P s hl n : Nat) (m seed : Int) (Hb : Nat → Int) (S : List Nat) (w w' : World) : Prop where
  sz : w.heap.size < w'.heap.size
  kept : Kept (P :: R :: S) w w'
  pool : PoolAt P (m + 1) w'
  gtC : w.heap.size < C
  ltC : C < w'.heap.size
  gtg : w.heap.size < gg
  ne : gg ≠ C
  r4 : w'.cell? ⟨R, 4, none⟩ = some (.slice (some ⟨gg, 0, none⟩) 1 cap)
  g0 : w'.cell? ⟨gg, 0, none⟩ = some (.pointer (some ⟨C, 0, none⟩))
  c0 : w'.cell? ⟨C, 0, none⟩ = some (.slice (some ⟨w.heap.size, 0, none⟩) 262176 262176)
  c1 : w'.cell? ⟨C, 1, none⟩ = some (.int .i64 s)
  c2 : w'.cell? ⟨C, 2, none⟩ = some (.int .i64 ((hl + n : Nat) : Int))
  c3 : w'.cell? ⟨C, 3, none⟩ = some (.bool false)
  f0 : w'.frozen? ⟨C, 0, none⟩ = false
  hC : ∃ c, w'.heap[C]? = some (.cells c 59 (0, 0))
  rc : ∀ o, o ≠ 4 → w'.cell? ⟨R, o, none⟩ = w.cell? ⟨R, o, none⟩
  rf : ∀ o, w'.frozen? ⟨R, o, none⟩ = w.frozen? ⟨R, o, none⟩
  bytes : ∀ i, i < hl + n - s → w'.cell? ⟨w.heap.size, i, none⟩ = some (.int .u8 (byteF Hb hl seed (s + i)))

theorem after_of {C gg cap R P s hl n : Nat} {m seed : Int} {Hb : Nat → Int} {S : List Nat} {FP : World → Nat → Nat → Int → World → Prop} {w w' : World} (h : Pieced C gg cap R P s hl n m seed Hb FP w w')
    (hR : R < w.heap.size) (hP : P < w.heap.size) (hRP : R ≠ P) (hRS : R ∉ S) (hPS : P ∉ S) (hFP : ∀ w1 off len pos w2, FP w1 off len pos w2 → Kept (w.heap.size :: S) w1 w2) : After C gg cap R P s hl n m seed Hb S w w' := by
  obtain ⟨wg, wf, hKg, hPg, hBg, ⟨a1, a2, a3, a4, a5, r4, g0, c0, c1, c2, c3, f0, hC, rc, rf, hKa⟩, hby, hor⟩ := h
  have hF : (wf.os = wg.os ∧ wf.tape = wg.tape ∧ wf.output = wg.output) ∧ wg.heap.size ≤ wf.heap.size ∧ ∀ k, k < w.heap.size → k ∉ S → wf.heap[k]? = wg.heap[k]? := by
    rcases hor with ⟨_, w1, off, hb, hf⟩ | ⟨_, hb⟩
    · have hk := hFP _ _ _ _ _ hf
      refine ⟨⟨hk.os.trans hb.os, hk.tape.trans hb.tape, hk.output.trans hb.output⟩, Nat.le_trans hb.size hk.size, fun k hk1 hk2 => ?_⟩
      exact (hk.block k (by have := hb.size; omega) (by simp [hk2]; omega)).trans (hb.block k hk1)
    · exact ⟨⟨hb.os, hb.tape, hb.output⟩, hb.size, fun k hk1 _ => hb.block k hk1⟩
  obtain ⟨⟨e1, e2, e3⟩, hsz, hbl⟩ := hF
  have hRb : wf.heap[R]? = w.heap[R]? := (hbl R hR hRS).trans (hKg.block R hR (by simpa using hRP))
  have hPb : w'.heap[P]? = wg.heap[P]? := (hKa.block P (by omega) (by simpa using fun e => hRP e.symm)).trans (hbl P hP hPS)
  have hPc : ∀ o, w'.cell? ⟨P, o, none⟩ = wg.cell? ⟨P, o, none⟩ := fun o => World.cell?_of_block (a := ⟨P, o, none⟩) hPb
  have hPf : ∀ o, w'.frozen? ⟨P, o, none⟩ = wg.frozen? ⟨P, o, none⟩ := fun o => World.frozen?_of_block (a := ⟨P, o, none⟩) hPb
  have hsa := hKa.size
  refine ⟨by omega, ?_, ⟨by omega, (hPc 0).trans hPg.c0, (hPf 0).trans hPg.f0, (hPc 9).trans hPg.c9, (hPc 11).trans hPg.c11, (hPf 11).trans hPg.f11⟩, by omega, a2, by omega, a5, r4, g0, c0, c1, c2, c3, f0, hC, ?_, ?_, ?_⟩
  · refine ⟨hKa.os.trans (e1.trans hKg.os), hKa.tape.trans (e2.trans hKg.tape), hKa.output.trans (e3.trans hKg.output), by omega, fun k hk hn => ?_⟩
    simp only [List.mem_cons, not_or] at hn
    exact (hKa.block k (by omega) (by simpa using hn.2.1)).trans ((hbl k hk hn.2.2).trans (hKg.block k hk (by simpa using hn.1)))
  · intro o ho
    exact (rc o ho).trans (World.cell?_of_block (a := ⟨R, o, none⟩) hRb)
  · intro o
    exact (rf o).trans (World.frozen?_of_block (a := ⟨R, o, none⟩) hRb)
  · intro i hi
    exact (hKa.cell (p := ⟨w.heap.size, i, none⟩) (by show w.heap.size < _; omega) (by simp; omega)).trans (hby i hi)

/-- The reply behind the piece. -/
theorem After.reply {C gg cap R P s hl n : Nat} {m seed : Int} {Hb : Nat → Int} {S : List Nat} {w w' : World} (h : After C gg cap R P s hl n m seed Hb S w w') {H g : Nat} {cb : Array Value} {pcs : Value} (hR : ReplyAt R H hl n g cb pcs w) :
    ReplyAt R H hl n g cb (.slice (some ⟨gg, 0, none⟩) 1 cap) w' :=
  ⟨Nat.lt_of_lt_of_le hR.lt (Nat.le_of_lt h.sz), (h.rc 1 (by omega)).trans hR.r1, (h.rc 2 (by omega)).trans hR.r2, (h.rc 3 (by omega)).trans hR.r3, h.r4, (h.rf 4).trans hR.f4⟩

/-- What the fill of 'LawS0387AAgain' leaves: the count is one up, the bytes lie there. -/
def AgainFP (CB B : Nat) (k seed : Int) (w1 : World) (off len : Nat) (pos : Int) (w2 : World) : Prop := Filled (w1.setCell ⟨CB, 0, none⟩ (.int .i64 (k + 1))) B off seed pos len w2

theorem again_kept {CB B : Nat} {k seed : Int} {w1 w2 : World} {off len : Nat} {pos : Int} (h : AgainFP CB B k seed w1 off len pos w2) : Kept (B :: [CB]) w1 w2 :=
  ((Kept.refl [B, CB] w1).setCell (p := ⟨CB, 0, none⟩) (.inl (by simp)) _).trans (h.2.2.2.mono (by simp))

theorem again_fillok (CB SB B : Nat) (k seed : Int) (wg : World) (hk0 : 0 ≤ k) (hk : k ≤ 100) (hCB : CB < B) (hSB : SB < B) (hCS : CB ≠ SB) (hB : B ≤ wg.heap.size)
    (cC : wg.cell? ⟨CB, 0, none⟩ = some (.int .i64 k)) (fC : wg.frozen? ⟨CB, 0, none⟩ = false) (cS : wg.cell? ⟨SB, 0, none⟩ = some (.int .u8 seed)) :
    FillOk 12 #[.pointer (some ⟨CB, 0, none⟩), .pointer (some ⟨SB, 0, none⟩)] B [CB] seed wg (AgainFP CB B k seed) := by
  refine ⟨fun off len cap pos w1 h1 h2 h3 h4 hb hth => ?_, fun w1 off len pos w2 h => ⟨h.1, fun o ho => ?_, again_kept h⟩⟩
  · have := hb.size
    exact (fill_again B off len cap CB SB pos seed k w1 h3 h4 h2 hk0 hk hth (by omega) (by omega) hCS (by omega) ((hb.cell (p := ⟨CB, 0, none⟩) hCB).trans cC) ((hb.frozen (p := ⟨CB, 0, none⟩) hCB).trans fC) ((hb.cell (p := ⟨SB, 0, none⟩) hSB).trans cS))
  · rw [h.2.1 o (.inl ho)]
    exact World.cell?_setCell_other _ _ _ _ (fun e => by have := congrArg Addr.block e; simp at this; omega)

/-- The count behind a piece. -/
theorem again_count {C gg cap R P s hl n CB : Nat} {k m seed : Int} {Hb : Nat → Int} {w w' : World} (h : Pieced C gg cap R P s hl n m seed Hb (AgainFP CB w.heap.size k seed) w w') (hCB : CB < w.heap.size) (hCP : CB ≠ P) (hCR : CB ≠ R)
    (cC : w.cell? ⟨CB, 0, none⟩ = some (.int .i64 k)) (fC : w.frozen? ⟨CB, 0, none⟩ = false) : ∃ k2, (k2 = k ∨ k2 = k + 1) ∧ w'.cell? ⟨CB, 0, none⟩ = some (.int .i64 k2) ∧ w'.frozen? ⟨CB, 0, none⟩ = false := by
  obtain ⟨wg, wf, hKg, hPg, hBg, ⟨a1, a2, a3, a4, a5, r4, g0, c0, c1, c2, c3, f0, hC, rc, rf, hKa⟩, hby, hor⟩ := h
  have cg := (hKg.cell (p := ⟨CB, 0, none⟩) hCB (by simpa using hCP)).trans cC
  have fg := (hKg.frozen (p := ⟨CB, 0, none⟩) hCB (by simpa using hCP)).trans fC
  rcases hor with ⟨_, w1, off, hb, hf⟩ | ⟨_, hb⟩
  · have hk := again_kept hf
    have s1 := hb.size
    have s2 := hk.size
    have c1 : (w1.setCell ⟨CB, 0, none⟩ (.int .i64 (k + 1))).cell? ⟨CB, 0, none⟩ = some (.int .i64 (k + 1)) := World.cell?_setCell_same _ _ _ ((hb.cell (p := ⟨CB, 0, none⟩) hCB).trans cg)
    have f1 : (w1.setCell ⟨CB, 0, none⟩ (.int .i64 (k + 1))).frozen? ⟨CB, 0, none⟩ = false := by rw [World.frozen?_setCell]; exact (hb.frozen (p := ⟨CB, 0, none⟩) hCB).trans fg
    have cf := (hf.2.2.2.cell (p := ⟨CB, 0, none⟩) (by show CB < _; simp; omega) (by simp; omega)).trans c1
    have ff := (hf.2.2.2.frozen (p := ⟨CB, 0, none⟩) (by show CB < _; simp; omega) (by simp; omega)).trans f1
    exact ⟨k + 1, .inr rfl, (hKa.cell (p := ⟨CB, 0, none⟩) (by show CB < _; omega) (by simpa using hCR)).trans cf, (hKa.frozen (p := ⟨CB, 0, none⟩) (by show CB < _; omega) (by simpa using hCR)).trans ff⟩
  · have s1 := hb.size
    exact ⟨k, .inl rfl, (hKa.cell (p := ⟨CB, 0, none⟩) (by show CB < _; omega) (by simpa using hCR)).trans ((hb.cell (p := ⟨CB, 0, none⟩) hCB).trans cg), (hKa.frozen (p := ⟨CB, 0, none⟩) (by show CB < _; omega) (by simpa using hCR)).trans ((hb.frozen (p := ⟨CB, 0, none⟩) hCB).trans fg)⟩
end Go.Proofs.Ybulkgzk
