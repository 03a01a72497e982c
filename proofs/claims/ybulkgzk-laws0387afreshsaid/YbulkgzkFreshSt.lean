/-
  OWN TEXT. The state of 'LawS0387AFresh' at its piece, and the three ways behind it.
-/
import Derived.Test.YbulkgzkAddFail
import Derived.Test.YbulkgzkAddNo
import Derived.Test.YbulkgzkAgainSt
namespace Go.Proofs.Ybulkgzk
open Go.RowKit Go.MuLone

set_option maxHeartbeats 400000 in
theorem errnew_any (s : ByteArray) (w : World) : Calls Yba.prog 6 #[.string s] w fun e w' => e = .returned (.iface 80 (.pointer (some ⟨w.heap.size, 0, none⟩))) ∧ w' = w.alloc (.cells #[.string s] 82) := by
  go_enter Yba.func6, Yba.ntmps6
  go_wp2
  go_ret
  exact ⟨rfl, rfl⟩

/-- What a piece leaves whose fill failed. -/
def Failed (P CB GP GL : Nat) (m pos : Int) (len : Nat) (w w' : World) : Prop :=
  ∃ wg w1, Kept [P] w wg ∧ w.heap.size < wg.heap.size ∧ wg.cell? ⟨P, 11, none⟩ = some (.int .i64 (m + 1)) ∧ Below w.heap.size wg w1 ∧ PutAt P w.heap.size (marked CB GP GL pos len w1) w'

set_option maxRecDepth 100000 in
set_option maxHeartbeats 2000000 in
/-- A reply that holds no piece, and a fill that fails. -/
theorem piece_fail (R P H hl n s : Nat) (g : Nat) (cb : Array Value) (CB GP GL : Nat) (te : TypeId) (ep : Option Addr) (m : Int) (Hb : Nat → Int) (w : World) (hhl : hl ≤ 1024) (hn : n ≤ 2047) (hs : s ≤ hl + n) (hm0 : 0 ≤ m) (hm : m < 16)
    (hR : ReplyAt R H hl n g cb (.slice none 0 0) w) (hP : PoolAt P m w) (hI : PoolIdle P w) (hHw : H < w.heap.size) (hRP : R ≠ P) (hHP : H ≠ P) (hPC : P ≠ CB) (hPG : P ≠ GP) (hPL : P ≠ GL) (eg : ∀ args w, (callFunc g args).run Yba.prog w = .ok (.enter g args) w)
    (hfail : ∀ wg, Kept [P] w wg → w.heap.size < wg.heap.size → FillNo g cb w.heap.size CB GP GL te ep wg) (hyes : max s hl < hl + n) (hH : ∀ q, q < hl → w.cell? ⟨H, q, none⟩ = some (.int .u8 (Hb q))) :
    Calls Yba.prog 10 #[.pointer (some ⟨R, 0, none⟩), .pointer (some ⟨P, 0, none⟩), .int .i64 s] w fun e w' =>
      e = .returned (.tuple #[.pointer none, .iface te (.pointer ep)]) ∧ Failed P CB GP GL m ((max s hl : Nat) - hl : Int) (hl + n - max s hl) w w' := by
  have r4 := hR.r4
  have hPR : P ≠ R := fun e => hRP e.symm
  go_enter Yba.func10, Yba.ntmps10
  go_wp2_with fail
  refine (get_any P m w hP.c0 hP.f0 hP.c9 hP.c11 hP.f11 hm0 hm hP.lt).mono ?_
  rintro _ wg ⟨rfl, hown, h11, hg, hc, hf⟩
  have hKg := kept_of_grown hg
  have hRg := reply_kept hR hKg (by simpa using hRP)
  have hIg := idle_of hI hc hf
  have hBg : w.heap.size < wg.heap.size := (hown.lt _ rfl).2
  obtain ⟨cur, hB, hcur⟩ := made_buffer hown
  have hHg : ∀ q, q < hl → wg.cell? ⟨H, q, none⟩ = some (.int .u8 (Hb q)) := fun q hq => (hKg.cell (p := ⟨H, q, none⟩) (by exact hHw) (by simpa using hHP)).trans (hH q hq)
  have hadd : Calls Yba.prog 16 #[.pointer (some ⟨R, 0, none⟩), .pointer (some ⟨P, 0, none⟩), .slice (some ⟨w.heap.size, 0, none⟩) 262176 262176, .int .i64 s] wg fun e w' =>
      e = .returned (.iface te (.pointer ep)) ∧ ∃ w1, Below w.heap.size wg w1 ∧ PutAt P w.heap.size (marked CB GP GL ((max s hl : Nat) - hl : Int) (hl + n - max s hl) w1) w' := by
    by_cases hsh : s < hl
    · exact addfail_both R P w.heap.size H hl n s g cb CB GP GL te ep cur Hb wg hhl hn hs hsh (by omega) hR.lt hP.lt hBg hPC hPG hPL eg (hfail wg hKg hBg) hRg.r1 hRg.r2 hRg.r3 hIg hB hcur hHg
    · exact addfail_fill R P w.heap.size H hl n s g cb CB GP GL te ep cur Hb wg hhl hn hs hsh (by omega) hR.lt hP.lt hBg hPC hPG hPL eg (hfail wg hKg hBg) hRg.r1 hRg.r2 hRg.r3 hIg hB hcur hHg
  have HF : Hid (Kept [P] w wg ∧ w.heap.size < wg.heap.size ∧ wg.cell? ⟨P, 11, none⟩ = some (.int .i64 (m + 1))) := ⟨hKg, hBg, h11⟩
  clear hown h11 hg hc hf hB hHg hKg hRg hIg
  go_wp2_with fail
  refine hadd.mono ?_
  rintro _ w' ⟨rfl, w1, hb1, hput⟩
  clear hadd
  go_wp2
  go_ret2
  exact ⟨rfl, wg, w1, HF.out.1, HF.out.2.1, HF.out.2.2, hb1, hput⟩

/-- What the fill of 'LawS0387AFresh' leaves where it works. -/
def FreshFP (CB GP GL B : Nat) (seed : Int) (w1 : World) (off len : Nat) (pos : Int) (w2 : World) : Prop := Filled (marked CB GP GL pos len w1) B off seed pos len w2

theorem fresh_kept {CB GP GL B : Nat} {seed : Int} {w1 w2 : World} {off len : Nat} {pos : Int} (h : FreshFP CB GP GL B seed w1 off len pos w2) : Kept (B :: [CB, GP, GL]) w1 w2 :=
  (marked_kept.mono (by simp)).trans (h.2.2.2.mono (by simp))

/-- The closure's captured words. -/
def frCb (SB FB CB GP GL EB : Nat) : Array Value := #[.pointer (some ⟨CB, 0, none⟩), .pointer (some ⟨GP, 0, none⟩), .pointer (some ⟨GL, 0, none⟩), .pointer (some ⟨FB, 0, none⟩), .pointer (some ⟨EB, 0, none⟩), .pointer (some ⟨SB, 0, none⟩)]

theorem FrAt.kept {SB FB CB GP GL EB : Nat} {seed : Int} {fail : Bool} {ev : Value} {w w' : World} (h : FrAt SB FB CB GP GL EB seed fail ev w) (hk : ∀ k, k ≤ EB → w'.heap[k]? = w.heap[k]?) (hz : w.heap.size ≤ w'.heap.size) : FrAt SB FB CB GP GL EB seed fail ev w' := by
  obtain ⟨o1, o2, o3, o4, o5, o6, cC, fC, cP, fP, cL, fL, cF, cE, cS⟩ := h
  have hc : ∀ k, k ≤ EB → w'.cell? ⟨k, 0, none⟩ = w.cell? ⟨k, 0, none⟩ := fun k h => World.cell?_of_block (a := ⟨k, 0, none⟩) (hk k h)
  have hf : ∀ k, k ≤ EB → w'.frozen? ⟨k, 0, none⟩ = w.frozen? ⟨k, 0, none⟩ := fun k h => World.frozen?_of_block (a := ⟨k, 0, none⟩) (hk k h)
  exact ⟨o1, o2, o3, o4, o5, by omega, (hc _ (by omega)).trans cC, (hf _ (by omega)).trans fC, (hc _ (by omega)).trans cP, (hf _ (by omega)).trans fP, (hc _ (by omega)).trans cL, (hf _ (by omega)).trans fL, (hc _ (by omega)).trans cF, (hc _ (by omega)).trans cE, (hc _ (by omega)).trans cS⟩

theorem fresh_fillok {SB FB CB GP GL EB B : Nat} {seed : Int} {ev : Value} {wg : World} (hat : FrAt SB FB CB GP GL EB seed false ev wg) (hB : EB < B) : FillOk 7 (frCb SB FB CB GP GL EB) B [CB, GP, GL] seed wg (FreshFP CB GP GL B seed) := by
  refine ⟨fun off len cap pos w1 h1 h2 h3 h4 hb hth => ?_, fun w1 off len pos w2 h => ⟨h.1, fun o ho => ?_, fresh_kept h⟩⟩
  · exact fill_fresh B off len cap SB FB CB GP GL EB pos seed ev w1 h3 h4 h2 (hat.kept (fun k hk => hb.block k (by omega)) hb.size) hB hth
  · have := hat.o3; have := hat.o4; have := hat.o5
    rw [h.2.1 o (.inl ho)]
    exact marked_other (by omega) (by omega) (by omega) o

theorem fresh_fillno {SB FB CB GP GL EB B : Nat} {seed : Int} {te : TypeId} {ep : Option Addr} {wg : World} (hat : FrAt SB FB CB GP GL EB seed true (.iface te (.pointer ep)) wg) (hB : EB < B) : FillNo 7 (frCb SB FB CB GP GL EB) B CB GP GL te ep wg :=
  fun off len cap pos w1 hb => fill_fails B off len cap SB FB CB GP GL EB pos seed te ep w1 (hat.kept (fun k hk => hb.block k (by omega)) hb.size)

theorem enter7 : ∀ (args : Array Value) (w : World), (callFunc 7 args).run Yba.prog w = .ok (.enter 7 args) w := enters_of Yba.func7 (by kernel_rfl) rfl

/-- The state at the piece. -/
structure FrSt (W : World) (SB FB H CB GP GL DB EB R P hl n : Nat) (seed : Int) (fail : Bool) (Hb : Nat → Int) (w : World) : Prop where
  fr : FrAt SB FB CB GP GL EB seed fail (.iface 80 (.pointer (some ⟨DB, 0, none⟩))) w
  o1 : FB < H
  o2 : H < CB
  o3 : EB < R
  o4 : R < P
  reply : ReplyAt R H hl n 7 (frCb SB FB CB GP GL EB) (.slice none 0 0) w
  pool : PoolAt P 0 w
  idle : PoolIdle P w
  hH : ∀ q, q < hl → w.cell? ⟨H, q, none⟩ = some (.int .u8 (Hb q))
  below : Below SB W w

variable {W w : World} {SB FB H CB GP GL DB EB R P hl n : Nat} {seed : Int} {fail : Bool} {Hb : Nat → Int}

theorem FrSt.fr_of (h : FrSt W SB FB H CB GP GL DB EB R P hl n seed fail Hb w) {wg : World} (hK : Kept [P] w wg) : FrAt SB FB CB GP GL EB seed fail (.iface 80 (.pointer (some ⟨DB, 0, none⟩))) wg := by
  have h3 := h.o3; have h4 := h.o4; have h6 := h.fr.o6
  exact h.fr.kept (fun k hk => hK.block k (by omega) (by simp; omega)) hK.size

/-- What the walk reads behind a piece that was laid. -/
structure FrDone (W : World) (SB FB H CB GP GL R P hl n C gg cap s : Nat) (B : Nat) (seed : Int) (fail : Bool) (Hb : Nat → Int) (w' : World) : Prop where
  cF : w'.cell? ⟨FB, 0, none⟩ = some (.bool fail)
  cS : w'.cell? ⟨SB, 0, none⟩ = some (.int .u8 seed)
  hH : ∀ q, q < hl → w'.cell? ⟨H, q, none⟩ = some (.int .u8 (Hb q))
  pool : PoolAt P 1 w'
  r4 : w'.cell? ⟨R, 4, none⟩ = some (.slice (some ⟨gg, 0, none⟩) 1 cap)
  g0 : w'.cell? ⟨gg, 0, none⟩ = some (.pointer (some ⟨C, 0, none⟩))
  c0 : w'.cell? ⟨C, 0, none⟩ = some (.slice (some ⟨B, 0, none⟩) 262176 262176)
  c1 : w'.cell? ⟨C, 1, none⟩ = some (.int .i64 s)
  c2 : w'.cell? ⟨C, 2, none⟩ = some (.int .i64 ((hl + n : Nat) : Int))
  c3 : w'.cell? ⟨C, 3, none⟩ = some (.bool false)
  bytes : ∀ i, i < hl + n - s → w'.cell? ⟨B, i, none⟩ = some (.int .u8 (byteF Hb hl seed (s + i)))
  below : Below SB W w'

theorem FrSt.done (h : FrSt W SB FB H CB GP GL DB EB R P hl n seed fail Hb w) {C gg cap s : Nat} {w' : World} (hA : After C gg cap R P s hl n 0 seed Hb [CB, GP, GL] w w') : FrDone W SB FB H CB GP GL R P hl n C gg cap s w.heap.size seed fail Hb w' := by
  have f1 := h.fr.o1; have f2 := h.fr.o2; have f3 := h.fr.o3; have f4 := h.fr.o4; have f5 := h.fr.o5; have f6 := h.fr.o6
  have h1 := h.o1; have h2 := h.o2; have h3 := h.o3; have h4 := h.o4; have h5 := h.pool.lt
  refine ⟨(hA.kept.cell (p := ⟨FB, 0, none⟩) (by show FB < _; omega) (by simp; omega)).trans h.fr.cF, (hA.kept.cell (p := ⟨SB, 0, none⟩) (by show SB < _; omega) (by simp; omega)).trans h.fr.cS,
    fun q hq => (hA.kept.cell (p := ⟨H, q, none⟩) (by show H < _; omega) (by simp; omega)).trans (h.hH q hq), hA.pool, hA.r4, hA.g0, hA.c0, hA.c1, hA.c2, hA.c3, hA.bytes, ?_⟩
  refine hA.kept.below h.below (by omega) ?_
  intro x hx
  simp only [List.mem_cons, List.not_mem_nil, or_false] at hx
  omega

/-- No byte of the payload is asked for: the count stays. -/
theorem FrSt.call_no (h : FrSt W SB FB H CB GP GL DB EB R P hl n seed fail Hb w) {s : Nat} (hhl : hl ≤ 1024) (hn : n ≤ 2047) (hs : s ≤ hl + n) (hno : ¬ max s hl < hl + n) :
    Calls Yba.prog 10 #[.pointer (some ⟨R, 0, none⟩), .pointer (some ⟨P, 0, none⟩), .int .i64 s] w fun e w' =>
      ∃ C gg cap, e = .returned (.tuple #[.pointer (some ⟨C, 0, none⟩), .nilIface]) ∧ FrDone W SB FB H CB GP GL R P hl n C gg cap s w.heap.size seed fail Hb w' ∧ w'.cell? ⟨CB, 0, none⟩ = some (.int .i64 0) := by
  have f1 := h.fr.o1; have f2 := h.fr.o2; have f3 := h.fr.o3; have f4 := h.fr.o4; have f5 := h.fr.o5; have f6 := h.fr.o6
  have h1 := h.o1; have h2 := h.o2; have h3 := h.o3; have h4 := h.o4; have h5 := h.pool.lt
  refine (piece_no R P H hl n s 7 _ [] 0 seed (fun _ _ _ _ _ => False) Hb w hhl hn hs (by omega) (by omega) h.reply h.pool (by omega) (by omega) (by omega) (by simp) enter7 hno h.hH).mono ?_
  rintro _ w' ⟨C, gg, cap, rfl, hP⟩
  have hA := after_of (S := [CB, GP, GL]) hP (by omega) (by omega) (by omega) (by simp; omega) (by simp; omega) (fun _ _ _ _ _ hf => hf.elim)
  have hA2 := after_of (S := []) hP (by omega) (by omega) (by omega) (by simp) (by simp) (fun _ _ _ _ _ hf => hf.elim)
  exact ⟨C, gg, cap, rfl, h.done hA, (hA2.kept.cell (p := ⟨CB, 0, none⟩) (by show CB < _; omega) (by simp; omega)).trans h.fr.cC⟩

/-- The fill works: its three marks. -/
theorem FrSt.call_ok (h : FrSt W SB FB H CB GP GL DB EB R P hl n seed false Hb w) {s : Nat} (hhl : hl ≤ 1024) (hn : n ≤ 2047) (hs : s ≤ hl + n) (hyes : max s hl < hl + n) :
    Calls Yba.prog 10 #[.pointer (some ⟨R, 0, none⟩), .pointer (some ⟨P, 0, none⟩), .int .i64 s] w fun e w' =>
      ∃ C gg cap, e = .returned (.tuple #[.pointer (some ⟨C, 0, none⟩), .nilIface]) ∧ FrDone W SB FB H CB GP GL R P hl n C gg cap s w.heap.size seed false Hb w' ∧
        w'.cell? ⟨CB, 0, none⟩ = some (.int .i64 1) ∧ w'.cell? ⟨GP, 0, none⟩ = some (.int .i64 ((max s hl : Nat) - hl : Int)) ∧ w'.cell? ⟨GL, 0, none⟩ = some (.int .i64 ((hl + n - max s hl : Nat) : Int)) := by
  have f1 := h.fr.o1; have f2 := h.fr.o2; have f3 := h.fr.o3; have f4 := h.fr.o4; have f5 := h.fr.o5; have f6 := h.fr.o6
  have h1 := h.o1; have h2 := h.o2; have h3 := h.o3; have h4 := h.o4; have h5 := h.pool.lt
  refine (piece_fresh R P H hl n s 7 _ [CB, GP, GL] 0 seed (FreshFP CB GP GL w.heap.size seed) Hb w hhl hn hs (by omega) (by omega) h.reply h.pool (by omega) (by omega) (by omega) (by simp; omega) enter7 (fun wg hK _ => fresh_fillok (h.fr_of hK) (by omega)) h.hH).mono ?_
  rintro _ w' ⟨C, gg, cap, rfl, hP⟩
  have hA := after_of (S := [CB, GP, GL]) hP (by omega) (by omega) (by omega) (by simp; omega) (by simp; omega) (fun _ _ _ _ _ hf => fresh_kept hf)
  refine ⟨C, gg, cap, rfl, h.done hA, ?_⟩
  obtain ⟨wg, wf, hKg, hPg, hBg, ⟨a1, a2, a3, a4, a5, r4, g0, c0, c1, c2, c3, f0, hC, rc, rf, hKa⟩, hby, hor⟩ := hP
  have hfg := h.fr_of hKg
  rcases hor with ⟨_, w1, off, hb, hf⟩ | ⟨hno, _⟩
  · have s1 := hb.size
    have s2 := (fresh_kept hf).size
    have m3 := marked_cells (pos := ((max s hl : Nat) - hl : Int)) (len := hl + n - max s hl) (show CB ≠ GP by omega) (show CB ≠ GL by omega) (show GP ≠ GL by omega) ((hb.cell (p := ⟨CB, 0, none⟩) (by show CB < _; omega)).trans hfg.cC) ((hb.cell (p := ⟨GP, 0, none⟩) (by show GP < _; omega)).trans hfg.cP) ((hb.cell (p := ⟨GL, 0, none⟩) (by show GL < _; omega)).trans hfg.cL)
    have hk : ∀ x, x < w.heap.size → x ≠ R → w'.cell? ⟨x, 0, none⟩ = (marked CB GP GL ((max s hl : Nat) - hl : Int) (hl + n - max s hl) w1).cell? ⟨x, 0, none⟩ := fun x hx hne =>
      (hKa.cell (p := ⟨x, 0, none⟩) (by show x < _; omega) (by simpa using hne)).trans (hf.2.2.2.cell (p := ⟨x, 0, none⟩) (by rw [marked_size]; show x < _; omega) (by simp; omega))
    exact ⟨(hk _ (by omega) (by omega)).trans m3.1, (hk _ (by omega) (by omega)).trans m3.2.1, (hk _ (by omega) (by omega)).trans m3.2.2⟩
  · exact absurd hyes hno

/-- The fill fails. -/
theorem FrSt.call_fail (h : FrSt W SB FB H CB GP GL DB EB R P hl n seed true Hb w) {s : Nat} (hhl : hl ≤ 1024) (hn : n ≤ 2047) (hs : s ≤ hl + n) (hyes : max s hl < hl + n) :
    Calls Yba.prog 10 #[.pointer (some ⟨R, 0, none⟩), .pointer (some ⟨P, 0, none⟩), .int .i64 s] w fun e w' =>
      e = .returned (.tuple #[.pointer none, .iface 80 (.pointer (some ⟨DB, 0, none⟩))]) ∧ ((w'.cell? ⟨CB, 0, none⟩ = some (.int .i64 1) ∧ w'.cell? ⟨GP, 0, none⟩ = some (.int .i64 ((max s hl : Nat) - hl : Int)) ∧ w'.cell? ⟨GL, 0, none⟩ = some (.int .i64 ((hl + n - max s hl : Nat) : Int))) ∧
        (w'.cell? ⟨FB, 0, none⟩ = some (.bool true) ∧ w'.cell? ⟨EB, 0, none⟩ = some (.iface 80 (.pointer (some ⟨DB, 0, none⟩))) ∧ w'.cell? ⟨R, 4, none⟩ = some (.slice none 0 0)) ∧
        (∃ g cap B, w'.cell? ⟨P, 9, none⟩ = some (.slice (some ⟨g, 0, none⟩) 1 cap) ∧ w'.cell? ⟨g, 0, none⟩ = some (.slice (some ⟨B, 0, none⟩) 262176 262176)) ∧ w'.cell? ⟨P, 11, none⟩ = some (.int .i64 1) ∧ Below SB W w') := by
  have f1 := h.fr.o1; have f2 := h.fr.o2; have f3 := h.fr.o3; have f4 := h.fr.o4; have f5 := h.fr.o5; have f6 := h.fr.o6
  have h1 := h.o1; have h2 := h.o2; have h3 := h.o3; have h4 := h.o4; have h5 := h.pool.lt
  refine (piece_fail R P H hl n s 7 _ CB GP GL 80 (some ⟨DB, 0, none⟩) 0 Hb w hhl hn hs (by omega) (by omega) h.reply h.pool h.idle (by omega) (by omega) (by omega) (by omega) (by omega) (by omega) enter7 (fun wg hK _ => fresh_fillno (h.fr_of hK) (by omega)) hyes h.hH).mono ?_
  rintro _ w' ⟨rfl, wg, w1, hKg, hBg, h11, hb, g, cap, hgs, p9, pg, p11, hKp⟩
  refine ⟨rfl, ?_⟩
  have hfg := h.fr_of hKg
  have s1 := hb.size
  have s3 := hKp.size
  rw [marked_size] at s3
  have m3 := marked_cells (pos := ((max s hl : Nat) - hl : Int)) (len := hl + n - max s hl) (show CB ≠ GP by omega) (show CB ≠ GL by omega) (show GP ≠ GL by omega) ((hb.cell (p := ⟨CB, 0, none⟩) (by show CB < _; omega)).trans hfg.cC) ((hb.cell (p := ⟨GP, 0, none⟩) (by show GP < _; omega)).trans hfg.cP) ((hb.cell (p := ⟨GL, 0, none⟩) (by show GL < _; omega)).trans hfg.cL)
  have hk : ∀ x o, x < w.heap.size → x ≠ P → w'.cell? ⟨x, o, none⟩ = (marked CB GP GL ((max s hl : Nat) - hl : Int) (hl + n - max s hl) w1).cell? ⟨x, o, none⟩ := fun x o hx hne =>
    hKp.cell (p := ⟨x, o, none⟩) (by rw [marked_size]; show x < _; omega) (by simpa using hne)
  have ho : ∀ x o, x < w.heap.size → x ≠ P → x ≠ CB → x ≠ GP → x ≠ GL → w'.cell? ⟨x, o, none⟩ = w.cell? ⟨x, o, none⟩ := fun x o hx n1 n2 n3 n4 =>
    (hk x o hx n1).trans ((marked_other n2 n3 n4 o).trans ((hb.cell (p := ⟨x, o, none⟩) hx).trans (hKg.cell (p := ⟨x, o, none⟩) hx (by simpa using n1))))
  refine ⟨⟨(hk _ _ (by omega) (by omega)).trans m3.1, (hk _ _ (by omega) (by omega)).trans m3.2.1, (hk _ _ (by omega) (by omega)).trans m3.2.2⟩,
    ⟨(ho _ _ (by omega) (by omega) (by omega) (by omega) (by omega)).trans h.fr.cF, (ho _ _ (by omega) (by omega) (by omega) (by omega) (by omega)).trans h.fr.cE, (ho _ _ (by omega) (by omega) (by omega) (by omega) (by omega)).trans h.reply.r4⟩, ⟨g, cap, _, p9, pg⟩, ?_, ?_⟩
  · rw [p11, marked_other (by omega) (by omega) (by omega)]
    exact (hb.cell (p := ⟨P, 11, none⟩) h5).trans h11
  · refine hKp.below ?_ (by rw [marked_size]; omega) (by simp; omega)
    refine marked_kept.below ?_ (by omega) (by simp; omega)
    exact (hKg.below h.below (by omega) (by simp; omega)).trans (hb.mono (by omega))
end Go.Proofs.Ybulkgzk
