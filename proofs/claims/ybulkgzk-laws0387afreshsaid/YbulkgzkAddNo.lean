/-
  OWN TEXT. '(*reply).add' and '(*reply).piece' where no byte is asked of the fill, whatever the fill does.
-/
import Derived.Test.YbulkgzkPiece
namespace Go.Proofs.Ybulkgzk
open Go.RowKit Go.MuLone

set_option linter.unusedVariables false in
set_option maxRecDepth 100000 in
set_option maxHeartbeats 4000000 in
theorem addno_head (R P B H hl n s : Nat) (g : Nat) (cb : Array Value) (S : List Nat) (seed : Int) (FP : World → Nat → Nat → Int → World → Prop) (cur : List Value) (Hb : Nat → Int) (w : World) (hhl : hl ≤ 1024) (hn : n ≤ 2047) (hs : s ≤ hl + n) (hsh : s < hl) (hn0 : n = 0)
    (hRB : R < B) (hBw : B < w.heap.size) (hRS : R ∉ S) (eg : ∀ args w, (callFunc g args).run Yba.prog w = .ok (.enter g args) w)
    (r1 : w.cell? ⟨R, 1, none⟩ = some (.slice (some ⟨H, 0, none⟩) hl hl)) (r2 : w.cell? ⟨R, 2, none⟩ = some (.int .i64 n)) (r3 : w.cell? ⟨R, 3, none⟩ = some (.func (.func g) #[] cb)) (r4 : w.cell? ⟨R, 4, none⟩ = some (.slice none 0 0)) (f4 : w.frozen? ⟨R, 4, none⟩ = false)
    (hB : w.heap[B]? = some (.cells cur.toArray 5 (0, 0))) (hcur : cur.length = 262176) (hH : ∀ q, q < hl → w.cell? ⟨H, q, none⟩ = some (.int .u8 (Hb q))) :
    Calls Yba.prog 16 #[.pointer (some ⟨R, 0, none⟩), .pointer (some ⟨P, 0, none⟩), .slice (some ⟨B, 0, none⟩) 262176 262176, .int .i64 s] w fun e w' =>
      e = .returned .nilIface ∧ ∃ wf, Added R B s (hl + n) wf w' ∧ (∀ i, i < hl + n - s → wf.cell? ⟨B, i, none⟩ = some (.int .u8 (byteF Hb hl seed (s + i)))) ∧
        ((max s hl < hl + n ∧ ∃ w1 off, Below B w w1 ∧ FP w1 off (hl + n - max s hl) ((max s hl : Nat) - hl : Int) wf) ∨ (¬ max s hl < hl + n ∧ Below B w wf)) := by
  have HN : Hid (n = 0) := hn0
  obtain ⟨i0, hi, hz0, hz1, hz2⟩ := info_parts info36
  have hmin : min ((hl : Int) + (n : Int)) ((s : Int) + 262176) = (hl : Int) + n := by omega
  obtain ⟨kk, hkk⟩ : ∃ kk, kk = hl - s := ⟨_, rfl⟩
  obtain ⟨d, hd⟩ : ∃ d, d = kk + n := ⟨_, rfl⟩
  have hd1 : (hl : Int) + (n : Int) - (s : Int) = (d : Int) := by omega
  have hd2 : (d : Int) ≤ 262176 := by omega
  have hwd : IntKind.i64.wrap (d : Int) = (d : Int) := by rw [IntKind.wrap_i64]; omega
  have hsh2 : (s : Int) < (hl : Int) := by omega
  have hkn : hl - s = kk := hkk.symm
  have hsl : s ≤ hl := by omega
  have hsne : ¬ hl = s := by omega
  obtain ⟨X, hX⟩ : ∃ X : List Value, X = (List.range kk).map fun i => .int .u8 (Hb (s + i)) := ⟨_, rfl⟩
  have hXl : X.length = kk := by rw [hX]; simp
  have hX1 : ∀ v ∈ X, v.oneCell' = true := by
    intro v hv
    rw [hX] at hv
    obtain ⟨i, _, rfl⟩ := List.mem_map.1 hv
    rfl
  have hXs : ∀ j v, X[j]? = some v → w.cell? ⟨H, s + j, none⟩ = some v := by
    intro j v hv
    rw [hX] at hv
    have hj : j < kk := by have := (List.getElem?_eq_some_iff.1 hv).1; simpa using this
    rw [hH (s + j) (by omega), ← hv]
    simp [hj]
  have HX : Hid (X = (List.range kk).map fun i => .int .u8 (Hb (s + i))) := hX
  have HXL : Hid (X.length = kk) := hXl
  have HX1 : Hid (∀ v ∈ X, v.oneCell' = true) := hX1
  have HXS : Hid (∀ j v, X[j]? = some v → w.cell? ⟨H, s + j, none⟩ = some v) := hXs
  have HB : Hid (w.heap[B]? = some (.cells cur.toArray 5 (0, 0))) := hB
  have HCUR : Hid (cur.length = 262176) := hcur
  have HKK : Hid (kk = hl - s) := hkk
  have HD : Hid (d = kk + n) := hd
  clear hX hX1 hXs hB hcur hkk hd hXl hH
  have hn1 : ¬ (hl : Int) < (hl : Int) + (n : Int) := by omega
  clear hn0
  go_enter Yba.func16, Yba.ntmps16
  go_wp2_with (go_at_call 27; refine (len_reply R H hl hl n _ (by exact r1) (by exact r2) (by omega) (by omega) hhl).mono ?_; rintro e w' ⟨rfl, q, rfl⟩)
  go_region_law (refine step_copy_splice rfl (.tmp 30) (.tmp 36) 22 22 rfl 5 Yba.underlying22 size5 (some ⟨B, 0, none⟩) (some ⟨H, s, none⟩) d 262176 kk kk (by simp [Act.eval, Act.put]) (by simp [Act.eval, Act.put]) B 0 cur 5 HB.out X (by rw [HXL.out]; have := HD.out; show kk = min kk d; omega) (fun _ => ⟨rfl, _, rfl, fun j v hv => by rw [WideShapes.add_plain]; exact HXS.out j v hv⟩) (by have := HXL.out; have := HCUR.out; have := HKK.out; omega) HX1.out B w (below_drewN (Below.refl _ _) _) (Nat.le_refl _) ?_; intro w2 HB2 hb2)
  have hXl := HXL.out
  have hsk : (s : Int) + (kk : Int) = (hl : Int) := by have := HKK.out; omega
  have r1' := (hb2.cell (p := ⟨R, 1, none⟩) (by exact hRB)).trans r1
  have r3' := (hb2.cell (p := ⟨R, 3, none⟩) (by exact hRB)).trans r3
  have r4' := (hb2.cell (p := ⟨R, 4, none⟩) (by exact hRB)).trans r4
  have f4' := (hb2.frozen (p := ⟨R, 4, none⟩) (by exact hRB)).trans f4
  have r4s : (w2.cell? ⟨R, 4, none⟩).isSome = true := by rw [r4']; rfl
  have hw2 : w.heap.size ≤ w2.heap.size := hb2.size
  have hRw : R < w2.heap.size := by omega
  go_wp2_with (first | (at_builtin; refine wpList_append_own _ rfl (.tmp 73) (.tmp 79) 31 rfl (w2.heap.size + 1) 36 i0 _ 1 8 Yba.underlying31 hi hz0 hz1 hz2 rfl (by decide) (.slice none 0 0) 0 [] rfl (World.ownsRow_nil _ _ _ _) ⟨w2.heap.size + 1, 0, none⟩ 1 1 [.pointer (some ⟨w2.heap.size, 0, none⟩)] rfl rfl (news1 w2 _ _ _) (one1 _) (by unfold maxLen; omega) (by omega) (by simp) ?_; intro v4 w4 hown4 hgrow4 hnil4; obtain ⟨hA, g4, cap4, rfl⟩ := added_of (R := R) (B := B) (s := s) (total := hl + n) (T := (hl : Int) + n) (by simp) hRw r4s hown4 hgrow4; have r4w : w4.cell? ⟨R, 4, none⟩ = some (.slice none 0 0) := (added_old hgrow4 hRw).1.trans r4'; have f4w : w4.frozen? ⟨R, 4, none⟩ = false := (added_old hgrow4 hRw).2.trans f4'; clear hown4 hgrow4 hnil4) | fail)
  go_ret
  have hn0 := HN.out
  refine ⟨rfl, w2, hA, fun i hi => ?_, .inr ⟨by omega, hb2⟩⟩
  have hkk := HKK.out
  rw [splice_head HB2.out (by omega), HX.out]
  simp only [byteF]
  rw [if_pos (by omega)]
  simp [show i < kk by omega]

set_option maxRecDepth 100000 in
set_option maxHeartbeats 4000000 in
set_option linter.unusedVariables false in
set_option maxRecDepth 100000 in
set_option maxHeartbeats 4000000 in
theorem addno_none (R P B H hl n s : Nat) (g : Nat) (cb : Array Value) (S : List Nat) (seed : Int) (FP : World → Nat → Nat → Int → World → Prop) (cur : List Value) (Hb : Nat → Int) (w : World) (hhl : hl ≤ 1024) (hn : n ≤ 2047) (hs : s ≤ hl + n) (hsh : ¬ s < hl) (hn0 : ¬ s < hl + n)
    (hRB : R < B) (hBw : B < w.heap.size) (hRS : R ∉ S) (eg : ∀ args w, (callFunc g args).run Yba.prog w = .ok (.enter g args) w)
    (r1 : w.cell? ⟨R, 1, none⟩ = some (.slice (some ⟨H, 0, none⟩) hl hl)) (r2 : w.cell? ⟨R, 2, none⟩ = some (.int .i64 n)) (r3 : w.cell? ⟨R, 3, none⟩ = some (.func (.func g) #[] cb)) (r4 : w.cell? ⟨R, 4, none⟩ = some (.slice none 0 0)) (f4 : w.frozen? ⟨R, 4, none⟩ = false)
    (hB : w.heap[B]? = some (.cells cur.toArray 5 (0, 0))) (hcur : cur.length = 262176) (hH : ∀ q, q < hl → w.cell? ⟨H, q, none⟩ = some (.int .u8 (Hb q))) :
    Calls Yba.prog 16 #[.pointer (some ⟨R, 0, none⟩), .pointer (some ⟨P, 0, none⟩), .slice (some ⟨B, 0, none⟩) 262176 262176, .int .i64 s] w fun e w' =>
      e = .returned .nilIface ∧ ∃ wf, Added R B s (hl + n) wf w' ∧ (∀ i, i < hl + n - s → wf.cell? ⟨B, i, none⟩ = some (.int .u8 (byteF Hb hl seed (s + i)))) ∧
        ((max s hl < hl + n ∧ ∃ w1 off, Below B w w1 ∧ FP w1 off (hl + n - max s hl) ((max s hl : Nat) - hl : Int) wf) ∨ (¬ max s hl < hl + n ∧ Below B w wf)) := by
  obtain ⟨i0, hi, hz0, hz1, hz2⟩ := info_parts info36
  have hmin : min ((hl : Int) + (n : Int)) ((s : Int) + 262176) = (hl : Int) + n := by omega
  obtain ⟨d, hd⟩ : ∃ d, d = hl + n - s := ⟨_, rfl⟩
  obtain ⟨p, hp⟩ : ∃ p, p = s - hl := ⟨_, rfl⟩
  have hd1 : (hl : Int) + (n : Int) - (s : Int) = (d : Int) := by omega
  have hd2 : (d : Int) ≤ 262176 := by omega
  have hd3 : d ≤ 262176 := by omega
  have hd4 : d ≤ 4096 := by omega
  have hp1 : (s : Int) - (hl : Int) = (p : Int) := by omega
  have hp2 : p ≤ 4096 := by omega
  have hwd : IntKind.i64.wrap (d : Int) = (d : Int) := by rw [IntKind.wrap_i64]; omega
  have hwp : IntKind.i64.wrap (p : Int) = (p : Int) := by rw [IntKind.wrap_i64]; omega
  have hws : IntKind.i64.wrap (s : Int) = (s : Int) := by rw [IntKind.wrap_i64]; omega
  have hsh2 : ¬ (s : Int) < (hl : Int) := by omega
  have HB : Hid (w.heap[B]? = some (.cells cur.toArray 5 (0, 0))) := hB
  have HCUR : Hid (cur.length = 262176) := hcur
  have HD : Hid (d = hl + n - s) := hd
  have HP : Hid (p = s - hl) := hp
  clear hB hcur hd hp
  have hn1 : ¬ (s : Int) < (hl : Int) + (n : Int) := by omega
  go_enter Yba.func16, Yba.ntmps16
  go_wp2_with (first | (go_at_call 27; refine (len_reply R H hl hl n _ (by exact r1) (by exact r2) (by omega) (by omega) hhl).mono ?_; rintro e w' ⟨rfl, q, rfl⟩; have hb2 : Below B w (w.drewN q) := below_drewN (Below.refl _ _) q; have hw2 : w.heap.size ≤ (w.drewN q).heap.size := Nat.le_refl _; generalize w.drewN q = w2 at hb2 hw2 ⊢; have r1' := (hb2.cell (p := ⟨R, 1, none⟩) (by exact hRB)).trans r1; have r4' := (hb2.cell (p := ⟨R, 4, none⟩) (by exact hRB)).trans r4; have f4' := (hb2.frozen (p := ⟨R, 4, none⟩) (by exact hRB)).trans f4; have hRw : R < w2.heap.size := (by omega); have r4s : (w2.cell? ⟨R, 4, none⟩).isSome = true := (by rw [r4']; rfl)) | (at_builtin; refine wpList_append_own _ rfl (.tmp 73) (.tmp 79) 31 rfl (w2.heap.size + 1) 36 i0 _ 1 8 Yba.underlying31 hi hz0 hz1 hz2 rfl (by decide) (.slice none 0 0) 0 [] rfl (World.ownsRow_nil _ _ _ _) ⟨w2.heap.size + 1, 0, none⟩ 1 1 [.pointer (some ⟨w2.heap.size, 0, none⟩)] rfl rfl (news1 w2 _ _ _) (one1 _) (by unfold maxLen; omega) (by omega) (by simp) ?_; intro v4 w4 hown4 hgrow4 hnil4; obtain ⟨hA, g4, cap4, rfl⟩ := added_of (R := R) (B := B) (s := s) (total := hl + n) (T := (hl : Int) + n) (by simp) hRw r4s hown4 hgrow4; have r4w : w4.cell? ⟨R, 4, none⟩ = some (.slice none 0 0) := (added_old hgrow4 hRw).1.trans r4'; have f4w : w4.frozen? ⟨R, 4, none⟩ = false := (added_old hgrow4 hRw).2.trans f4'; clear hown4 hgrow4 hnil4) | fail)
  go_ret
  exact ⟨rfl, w2, hA, fun i hi => absurd hi (by omega), .inr ⟨by omega, hb2⟩⟩

theorem addno (R P B H hl n s : Nat) (g : Nat) (cb : Array Value) (S : List Nat) (seed : Int) (FP : World → Nat → Nat → Int → World → Prop) (cur : List Value) (Hb : Nat → Int) (w : World) (hhl : hl ≤ 1024) (hn : n ≤ 2047) (hs : s ≤ hl + n) (hno : ¬ max s hl < hl + n)
    (hRB : R < B) (hBw : B < w.heap.size) (hRS : R ∉ S) (eg : ∀ args w, (callFunc g args).run Yba.prog w = .ok (.enter g args) w)
    (r1 : w.cell? ⟨R, 1, none⟩ = some (.slice (some ⟨H, 0, none⟩) hl hl)) (r2 : w.cell? ⟨R, 2, none⟩ = some (.int .i64 n)) (r3 : w.cell? ⟨R, 3, none⟩ = some (.func (.func g) #[] cb)) (r4 : w.cell? ⟨R, 4, none⟩ = some (.slice none 0 0)) (f4 : w.frozen? ⟨R, 4, none⟩ = false)
    (hB : w.heap[B]? = some (.cells cur.toArray 5 (0, 0))) (hcur : cur.length = 262176) (hH : ∀ q, q < hl → w.cell? ⟨H, q, none⟩ = some (.int .u8 (Hb q))) :
    Calls Yba.prog 16 #[.pointer (some ⟨R, 0, none⟩), .pointer (some ⟨P, 0, none⟩), .slice (some ⟨B, 0, none⟩) 262176 262176, .int .i64 s] w fun e w' =>
      e = .returned .nilIface ∧ ∃ wf, Added R B s (hl + n) wf w' ∧ (∀ i, i < hl + n - s → wf.cell? ⟨B, i, none⟩ = some (.int .u8 (byteF Hb hl seed (s + i)))) ∧
        ((max s hl < hl + n ∧ ∃ w1 off, Below B w w1 ∧ FP w1 off (hl + n - max s hl) ((max s hl : Nat) - hl : Int) wf) ∨ (¬ max s hl < hl + n ∧ Below B w wf)) := by
  by_cases hsh : s < hl
  · exact addno_head R P B H hl n s g cb S seed FP cur Hb w hhl hn hs hsh (by omega) hRB hBw hRS eg r1 r2 r3 r4 f4 hB hcur hH
  · exact addno_none R P B H hl n s g cb S seed FP cur Hb w hhl hn hs hsh (by omega) hRB hBw hRS eg r1 r2 r3 r4 f4 hB hcur hH

set_option maxRecDepth 100000 in
set_option maxHeartbeats 2000000 in
/-- A reply that holds no piece: a new buffer is laid, and no byte is asked of the fill. -/
theorem piece_no (R P H hl n s : Nat) (g : Nat) (cb : Array Value) (S : List Nat) (m seed : Int) (FP : World → Nat → Nat → Int → World → Prop) (Hb : Nat → Int) (w : World) (hhl : hl ≤ 1024) (hn : n ≤ 2047) (hs : s ≤ hl + n) (hm0 : 0 ≤ m) (hm : m < 16)
    (hR : ReplyAt R H hl n g cb (.slice none 0 0) w) (hP : PoolAt P m w) (hHw : H < w.heap.size) (hRP : R ≠ P) (hHP : H ≠ P) (hRS : R ∉ S) (eg : ∀ args w, (callFunc g args).run Yba.prog w = .ok (.enter g args) w)
    (hno : ¬ max s hl < hl + n) (hH : ∀ q, q < hl → w.cell? ⟨H, q, none⟩ = some (.int .u8 (Hb q))) :
    Calls Yba.prog 10 #[.pointer (some ⟨R, 0, none⟩), .pointer (some ⟨P, 0, none⟩), .int .i64 s] w fun e w' =>
      ∃ C gg cap, e = .returned (.tuple #[.pointer (some ⟨C, 0, none⟩), .nilIface]) ∧ Pieced C gg cap R P s hl n m seed Hb FP w w' := by
  have r4 := hR.r4
  have hPR : P ≠ R := fun e => hRP e.symm
  go_enter Yba.func10, Yba.ntmps10
  go_wp2_with fail
  refine (get_any P m w hP.c0 hP.f0 hP.c9 hP.c11 hP.f11 hm0 hm hP.lt).mono ?_
  rintro _ wg ⟨rfl, hown, h11, hg, hc, hf⟩
  have hKg := kept_of_grown hg
  have hPg := pool_got hP h11 hg hc hf
  have hRg := reply_kept hR hKg (by simpa using hRP)
  have hBg : w.heap.size < wg.heap.size := (hown.lt _ rfl).2
  obtain ⟨cur, hB, hcur⟩ := made_buffer hown
  have hHg : ∀ q, q < hl → wg.cell? ⟨H, q, none⟩ = some (.int .u8 (Hb q)) := fun q hq => (hKg.cell (p := ⟨H, q, none⟩) (by exact hHw) (by simpa using hHP)).trans (hH q hq)
  have hadd := addno R P w.heap.size H hl n s g cb S seed FP cur Hb wg hhl hn hs hno hR.lt hBg hRS eg hRg.r1 hRg.r2 hRg.r3 hRg.r4 hRg.f4 hB hcur hHg
  clear hown h11 hg hc hf hB hHg
  go_wp2_with fail
  refine hadd.mono ?_
  rintro _ w' ⟨rfl, wf, ⟨C, gg, cap, hA⟩, hby, hor⟩
  have hA2 : AddedAt C gg cap R w.heap.size s (hl + n) wf w' := hA
  obtain ⟨_, _, _, _, _, a4, a5, _⟩ := hA
  clear hadd
  go_wp2
  go_ret2
  exact ⟨C, gg, cap, rfl, wg, wf, hKg, hPg, hBg, hA2, hby, hor⟩
end Go.Proofs.Ybulkgzk
