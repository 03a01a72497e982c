/-
  OWN TEXT. '(*reply).add' by its contract, where no byte of the head is left to send; and all cases together.
-/
import Derived.Test.YbulkgzkAddHead
namespace Go.Proofs.Ybulkgzk
open Go.RowKit Go.MuLone

theorem bytes_fill {B hl n s d p : Nat} {seed : Int} {Hb : Nat → Int} {w3 : World} (hd : d = hl + n - s) (hp : p = s - hl) (hs : ¬ s < hl)
    (h1 : ∀ j, j < d → w3.cell? ⟨B, 0 + j, none⟩ = some (.int .u8 (payF seed ((p : Int) + j)))) : ∀ i, i < hl + n - s → w3.cell? ⟨B, i, none⟩ = some (.int .u8 (byteF Hb hl seed (s + i))) := by
  intro i hi
  have := h1 i (by omega)
  rw [Nat.zero_add] at this
  rw [this]
  simp only [byteF]
  rw [if_neg (by omega)]
  congr 3
  omega

set_option linter.unusedVariables false in
set_option maxRecDepth 100000 in
set_option maxHeartbeats 4000000 in
theorem add_fill (R P B H hl n s : Nat) (g : Nat) (cb : Array Value) (S : List Nat) (seed : Int) (FP : World → Nat → Nat → Int → World → Prop) (cur : List Value) (Hb : Nat → Int) (w : World) (hhl : hl ≤ 1024) (hn : n ≤ 2047) (hs : s ≤ hl + n) (hsh : ¬ s < hl) (hn0 : s < hl + n)
    (hRB : R < B) (hBw : B < w.heap.size) (hRS : R ∉ S) (eg : ∀ args w, (callFunc g args).run Yba.prog w = .ok (.enter g args) w) (hfill : FillOk g cb B S seed w FP)
    (r1 : w.cell? ⟨R, 1, none⟩ = some (.slice (some ⟨H, 0, none⟩) hl hl)) (r2 : w.cell? ⟨R, 2, none⟩ = some (.int .i64 n)) (r3 : w.cell? ⟨R, 3, none⟩ = some (.func (.func g) #[] cb)) (r4 : w.cell? ⟨R, 4, none⟩ = some (.slice none 0 0)) (f4 : w.frozen? ⟨R, 4, none⟩ = false)
    (hB : w.heap[B]? = some (.cells cur.toArray 5 (0, 0))) (hcur : cur.length = 262176) (hH : ∀ q, q < hl → w.cell? ⟨H, q, none⟩ = some (.int .u8 (Hb q))) :
    Calls Yba.prog 16 #[.pointer (some ⟨R, 0, none⟩), .pointer (some ⟨P, 0, none⟩), .slice (some ⟨B, 0, none⟩) 262176 262176, .int .i64 s] w fun e w' =>
      e = .returned .nilIface ∧ ∃ wf, Added R B s (hl + n) wf w' ∧ (∀ i, i < hl + n - s → wf.cell? ⟨B, i, none⟩ = some (.int .u8 (byteF Hb hl seed (s + i)))) ∧
        ((max s hl < hl + n ∧ ∃ w1 off, Below B w w1 ∧ FP w1 off (hl + n - max s hl) ((max s hl : Nat) - hl : Int) wf) ∨ (¬ max s hl < hl + n ∧ Below B w wf)) := by
  obtain ⟨i0, hi, hz0, hz1, hz2⟩ := info_parts info36
  have hmin : min ((hl : Int) + (n : Int)) ((s : Int) + 262176) = (hl : Int) + n := by omega
  obtain ⟨d, hd⟩ : ∃ d, d = hl + n - s := ⟨_, rfl⟩
  obtain ⟨p, hp⟩ : ∃ p, p = s - hl := ⟨_, rfl⟩
  have hd1 : (hl : Int) + (n : Int) - (s : Int) = (d : Int) := by omega
  have hd2 : (d : Int) ≤ 262176 := by omega
  have hd3 : d ≤ 262176 := by omega
  have hd4 : d ≤ 4096 := by omega
  have hp1 : (s : Int) - (hl : Int) = (p : Int) := by omega
  have hp2 : p ≤ 4096 := by omega
  have hwd : IntKind.i64.wrap (d : Int) = (d : Int) := by rw [IntKind.wrap_i64]; omega
  have hwp : IntKind.i64.wrap (p : Int) = (p : Int) := by rw [IntKind.wrap_i64]; omega
  have hws : IntKind.i64.wrap (s : Int) = (s : Int) := by rw [IntKind.wrap_i64]; omega
  have hsh2 : ¬ (s : Int) < (hl : Int) := by omega
  have HB : Hid (w.heap[B]? = some (.cells cur.toArray 5 (0, 0))) := hB
  have HCUR : Hid (cur.length = 262176) := hcur
  have HD : Hid (d = hl + n - s) := hd
  have HP : Hid (p = s - hl) := hp
  clear hB hcur hd hp
  have hn1 : (s : Int) < (hl : Int) + (n : Int) := by omega
  go_enter Yba.func16, Yba.ntmps16
  go_wp2_with (go_at_call 27; refine (len_reply R H hl hl n _ (by exact r1) (by exact r2) (by omega) (by omega) hhl).mono ?_; rintro e w' ⟨rfl, q, rfl⟩)
  have hb2 : Below B w (w.drewN q) := below_drewN (Below.refl _ _) q
  have HB2 : Hid ((w.drewN q).heap[B]? = some (.cells cur.toArray 5 (0, 0))) := HB.out
  have hw2 : w.heap.size ≤ (w.drewN q).heap.size := Nat.le_refl _
  generalize w.drewN q = w2 at hb2 HB2 hw2 ⊢
  have r1' := (hb2.cell (p := ⟨R, 1, none⟩) (by exact hRB)).trans r1
  have r3' := (hb2.cell (p := ⟨R, 3, none⟩) (by exact hRB)).trans r3
  have r4' := (hb2.cell (p := ⟨R, 4, none⟩) (by exact hRB)).trans r4
  have f4' := (hb2.frozen (p := ⟨R, 4, none⟩) (by exact hRB)).trans f4
  have hRw : R < w2.heap.size := by omega
  have HTH : ∀ j, j < d → (w2.cell? ⟨B, 0 + j, none⟩).isSome = true ∧ w2.frozen? ⟨B, 0 + j, none⟩ = false := fun j hj => there_row HB2.out _ (by rw [HCUR.out]; omega)
  have HF : Hid (∀ (off len cap : Nat) (pos : Int) (w1 : World), off + len ≤ 262176 → len ≤ 4096 → 0 ≤ pos → pos ≤ 4096 → Below B w w1 → (∀ j, j < len → (w1.cell? ⟨B, off + j, none⟩).isSome = true ∧ w1.frozen? ⟨B, off + j, none⟩ = false) →
      Calls Yba.prog g (#[.slice (some ⟨B, off, none⟩) len cap, .int .i64 pos] ++ cb) w1 fun e w2 => e = .returned .nilIface ∧ FP w1 off len pos w2) := hfill.1
  have HTH2 : Hid (∀ j, j < d → (w2.cell? ⟨B, 0 + j, none⟩).isSome = true ∧ w2.frozen? ⟨B, 0 + j, none⟩ = false) := HTH
  clear HTH hH
  go_region_with (go_at_fn g; refine (HF.out 0 d _ p _ (by omega) (by omega) (by omega) (by omega) (below_drewN hb2 _) HTH2.out).mono ?_; rintro e w3 ⟨rfl, hfp⟩; obtain ⟨q1, q4, q4f, hR3⟩ := fill_keeps hfill hfp hRB hRS (show R < _ from hRw) r4' f4')
  all_goals
    have r4s3 : (w3.cell? ⟨R, 4, none⟩).isSome = true := by rw [q4]; rfl
    go_wp2_with (first | (at_builtin; refine wpList_append_own _ rfl (.tmp 73) (.tmp 79) 31 rfl (w3.heap.size + 1) 36 i0 _ 1 8 Yba.underlying31 hi hz0 hz1 hz2 rfl (by decide) (.slice none 0 0) 0 [] rfl (World.ownsRow_nil _ _ _ _) ⟨w3.heap.size + 1, 0, none⟩ 1 1 [.pointer (some ⟨w3.heap.size, 0, none⟩)] rfl rfl (news1 w3 _ _ _) (one1 _) (by unfold maxLen; omega) (by omega) (by simp) ?_; intro v4 w4 hown4 hgrow4 hnil4; obtain ⟨hA, g4, cap4, rfl⟩ := added_of (R := R) (B := B) (s := s) (total := hl + n) (T := (hl : Int) + n) (by simp) hR3 r4s3 hown4 hgrow4; have r4w : w4.cell? ⟨R, 4, none⟩ = some (.slice none 0 0) := (added_old hgrow4 hR3).1.trans q4; have f4w : w4.frozen? ⟨R, 4, none⟩ = false := (added_old hgrow4 hR3).2.trans q4f; clear hown4 hgrow4 hnil4) | fail)
    go_ret
    have hdd := HD.out
    have hpp := HP.out
    refine ⟨rfl, w3, hA, ?_, .inl ⟨by omega, _, 0, below_drewN hb2 1, ?_⟩⟩
    · exact bytes_fill hdd hpp hsh (hfill.2 _ _ _ _ _ hfp).1
    · rw [show hl + n - max s hl = d by omega, show ((max s hl : Nat) : Int) - (hl : Int) = (p : Int) by omega]
      exact hfp

set_option linter.unusedVariables false in
set_option maxRecDepth 100000 in
set_option maxHeartbeats 4000000 in
theorem add_none (R P B H hl n s : Nat) (g : Nat) (cb : Array Value) (S : List Nat) (seed : Int) (FP : World → Nat → Nat → Int → World → Prop) (cur : List Value) (Hb : Nat → Int) (w : World) (hhl : hl ≤ 1024) (hn : n ≤ 2047) (hs : s ≤ hl + n) (hsh : ¬ s < hl) (hn0 : ¬ s < hl + n)
    (hRB : R < B) (hBw : B < w.heap.size) (hRS : R ∉ S) (eg : ∀ args w, (callFunc g args).run Yba.prog w = .ok (.enter g args) w) (hfill : FillOk g cb B S seed w FP)
    (r1 : w.cell? ⟨R, 1, none⟩ = some (.slice (some ⟨H, 0, none⟩) hl hl)) (r2 : w.cell? ⟨R, 2, none⟩ = some (.int .i64 n)) (r3 : w.cell? ⟨R, 3, none⟩ = some (.func (.func g) #[] cb)) (r4 : w.cell? ⟨R, 4, none⟩ = some (.slice none 0 0)) (f4 : w.frozen? ⟨R, 4, none⟩ = false)
    (hB : w.heap[B]? = some (.cells cur.toArray 5 (0, 0))) (hcur : cur.length = 262176) (hH : ∀ q, q < hl → w.cell? ⟨H, q, none⟩ = some (.int .u8 (Hb q))) :
    Calls Yba.prog 16 #[.pointer (some ⟨R, 0, none⟩), .pointer (some ⟨P, 0, none⟩), .slice (some ⟨B, 0, none⟩) 262176 262176, .int .i64 s] w fun e w' =>
      e = .returned .nilIface ∧ ∃ wf, Added R B s (hl + n) wf w' ∧ (∀ i, i < hl + n - s → wf.cell? ⟨B, i, none⟩ = some (.int .u8 (byteF Hb hl seed (s + i)))) ∧
        ((max s hl < hl + n ∧ ∃ w1 off, Below B w w1 ∧ FP w1 off (hl + n - max s hl) ((max s hl : Nat) - hl : Int) wf) ∨ (¬ max s hl < hl + n ∧ Below B w wf)) := by
  obtain ⟨i0, hi, hz0, hz1, hz2⟩ := info_parts info36
  have hmin : min ((hl : Int) + (n : Int)) ((s : Int) + 262176) = (hl : Int) + n := by omega
  obtain ⟨d, hd⟩ : ∃ d, d = hl + n - s := ⟨_, rfl⟩
  obtain ⟨p, hp⟩ : ∃ p, p = s - hl := ⟨_, rfl⟩
  have hd1 : (hl : Int) + (n : Int) - (s : Int) = (d : Int) := by omega
  have hd2 : (d : Int) ≤ 262176 := by omega
  have hd3 : d ≤ 262176 := by omega
  have hd4 : d ≤ 4096 := by omega
  have hp1 : (s : Int) - (hl : Int) = (p : Int) := by omega
  have hp2 : p ≤ 4096 := by omega
  have hwd : IntKind.i64.wrap (d : Int) = (d : Int) := by rw [IntKind.wrap_i64]; omega
  have hwp : IntKind.i64.wrap (p : Int) = (p : Int) := by rw [IntKind.wrap_i64]; omega
  have hws : IntKind.i64.wrap (s : Int) = (s : Int) := by rw [IntKind.wrap_i64]; omega
  have hsh2 : ¬ (s : Int) < (hl : Int) := by omega
  have HB : Hid (w.heap[B]? = some (.cells cur.toArray 5 (0, 0))) := hB
  have HCUR : Hid (cur.length = 262176) := hcur
  have HD : Hid (d = hl + n - s) := hd
  have HP : Hid (p = s - hl) := hp
  clear hB hcur hd hp
  have hn1 : ¬ (s : Int) < (hl : Int) + (n : Int) := by omega
  go_enter Yba.func16, Yba.ntmps16
  go_wp2_with (first | (go_at_call 27; refine (len_reply R H hl hl n _ (by exact r1) (by exact r2) (by omega) (by omega) hhl).mono ?_; rintro e w' ⟨rfl, q, rfl⟩; have hb2 : Below B w (w.drewN q) := below_drewN (Below.refl _ _) q; have hw2 : w.heap.size ≤ (w.drewN q).heap.size := Nat.le_refl _; generalize w.drewN q = w2 at hb2 hw2 ⊢; have r1' := (hb2.cell (p := ⟨R, 1, none⟩) (by exact hRB)).trans r1; have r4' := (hb2.cell (p := ⟨R, 4, none⟩) (by exact hRB)).trans r4; have f4' := (hb2.frozen (p := ⟨R, 4, none⟩) (by exact hRB)).trans f4; have hRw : R < w2.heap.size := (by omega); have r4s : (w2.cell? ⟨R, 4, none⟩).isSome = true := (by rw [r4']; rfl)) | (at_builtin; refine wpList_append_own _ rfl (.tmp 73) (.tmp 79) 31 rfl (w2.heap.size + 1) 36 i0 _ 1 8 Yba.underlying31 hi hz0 hz1 hz2 rfl (by decide) (.slice none 0 0) 0 [] rfl (World.ownsRow_nil _ _ _ _) ⟨w2.heap.size + 1, 0, none⟩ 1 1 [.pointer (some ⟨w2.heap.size, 0, none⟩)] rfl rfl (news1 w2 _ _ _) (one1 _) (by unfold maxLen; omega) (by omega) (by simp) ?_; intro v4 w4 hown4 hgrow4 hnil4; obtain ⟨hA, g4, cap4, rfl⟩ := added_of (R := R) (B := B) (s := s) (total := hl + n) (T := (hl : Int) + n) (by simp) hRw r4s hown4 hgrow4; have r4w : w4.cell? ⟨R, 4, none⟩ = some (.slice none 0 0) := (added_old hgrow4 hRw).1.trans r4'; have f4w : w4.frozen? ⟨R, 4, none⟩ = false := (added_old hgrow4 hRw).2.trans f4'; clear hown4 hgrow4 hnil4) | fail)
  go_ret
  exact ⟨rfl, w2, hA, fun i hi => absurd hi (by omega), .inr ⟨by omega, hb2⟩⟩

theorem add_ok (R P B H hl n s : Nat) (g : Nat) (cb : Array Value) (S : List Nat) (seed : Int) (FP : World → Nat → Nat → Int → World → Prop) (cur : List Value) (Hb : Nat → Int) (w : World) (hhl : hl ≤ 1024) (hn : n ≤ 2047) (hs : s ≤ hl + n)
    (hRB : R < B) (hBw : B < w.heap.size) (hRS : R ∉ S) (eg : ∀ args w, (callFunc g args).run Yba.prog w = .ok (.enter g args) w) (hfill : FillOk g cb B S seed w FP)
    (r1 : w.cell? ⟨R, 1, none⟩ = some (.slice (some ⟨H, 0, none⟩) hl hl)) (r2 : w.cell? ⟨R, 2, none⟩ = some (.int .i64 n)) (r3 : w.cell? ⟨R, 3, none⟩ = some (.func (.func g) #[] cb)) (r4 : w.cell? ⟨R, 4, none⟩ = some (.slice none 0 0)) (f4 : w.frozen? ⟨R, 4, none⟩ = false)
    (hB : w.heap[B]? = some (.cells cur.toArray 5 (0, 0))) (hcur : cur.length = 262176) (hH : ∀ q, q < hl → w.cell? ⟨H, q, none⟩ = some (.int .u8 (Hb q))) :
    Calls Yba.prog 16 #[.pointer (some ⟨R, 0, none⟩), .pointer (some ⟨P, 0, none⟩), .slice (some ⟨B, 0, none⟩) 262176 262176, .int .i64 s] w fun e w' =>
      e = .returned .nilIface ∧ ∃ wf, Added R B s (hl + n) wf w' ∧ (∀ i, i < hl + n - s → wf.cell? ⟨B, i, none⟩ = some (.int .u8 (byteF Hb hl seed (s + i)))) ∧
        ((max s hl < hl + n ∧ ∃ w1 off, Below B w w1 ∧ FP w1 off (hl + n - max s hl) ((max s hl : Nat) - hl : Int) wf) ∨ (¬ max s hl < hl + n ∧ Below B w wf)) := by
  by_cases hsh : s < hl
  · by_cases hn0 : n = 0
    · exact add_headonly R P B H hl n s g cb S seed FP cur Hb w hhl hn hs hsh hn0 hRB hBw hRS eg hfill r1 r2 r3 r4 f4 hB hcur hH
    · exact add_both R P B H hl n s g cb S seed FP cur Hb w hhl hn hs hsh hn0 hRB hBw hRS eg hfill r1 r2 r3 r4 f4 hB hcur hH
  · by_cases hn0 : s < hl + n
    · exact add_fill R P B H hl n s g cb S seed FP cur Hb w hhl hn hs hsh hn0 hRB hBw hRS eg hfill r1 r2 r3 r4 f4 hB hcur hH
    · exact add_none R P B H hl n s g cb S seed FP cur Hb w hhl hn hs hsh hn0 hRB hBw hRS eg hfill r1 r2 r3 r4 f4 hB hcur hH
end Go.Proofs.Ybulkgzk
