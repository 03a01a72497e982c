/-
  OWN TEXT. '(*reply).len' and the law's own fill by their contracts.
-/
import Derived.Test.YbulkgzkPool
namespace Go.Proofs.Ybulkgzk
open Go.RowKit Go.MuLone

set_option maxHeartbeats 400000 in
theorem len_reply (R H hl hc : Nat) (n : Int) (w : World) (c1 : w.cell? ⟨R, 1, none⟩ = some (.slice (some ⟨H, 0, none⟩) hl hc)) (c2 : w.cell? ⟨R, 2, none⟩ = some (.int .i64 n)) (hn0 : 0 ≤ n) (hn : n ≤ 2047) (hhl : hl ≤ 1024) :
    Calls Yba.prog 27 #[.pointer (some ⟨R, 0, none⟩)] w fun e w' => e = .returned (.int .i64 ((hl : Int) + n)) ∧ ∃ q, w' = w.drewN q := by
  go_enter Yba.func27, Yba.ntmps27
  go_wp2
  go_quiet (fail)
  go_wp2
  go_ret
  exact ⟨rfl, _, rfl⟩

/-- k bytes of the payload from pos on lie in block B from off on; all else is as in w0. -/
def Filled (w0 : World) (B off : Nat) (seed pos : Int) (k : Nat) (w : World) : Prop :=
  (∀ j, j < k → w.cell? ⟨B, off + j, none⟩ = some (.int .u8 (payF seed (pos + j)))) ∧ (∀ o, o < off ∨ off + k ≤ o → w.cell? ⟨B, o, none⟩ = w0.cell? ⟨B, o, none⟩) ∧
    (∀ o, w.frozen? ⟨B, o, none⟩ = w0.frozen? ⟨B, o, none⟩) ∧ Kept [B] w0 w

theorem filled_zero (w0 : World) (B off : Nat) (seed pos : Int) : Filled w0 B off seed pos 0 w0 := ⟨fun j hj => absurd hj (by omega), fun _ _ => rfl, fun _ => rfl, Kept.refl _ _⟩

theorem filled_succ {w0 w : World} {B off k : Nat} {seed pos : Int} (h : Filled w0 B off seed pos k w) (hs : (w.cell? ⟨B, off + k, none⟩).isSome = true) :
    Filled w0 B off seed pos (k + 1) (w.setCell ⟨B, off + k, none⟩ (.int .u8 (payF seed (pos + k)))) := by
  obtain ⟨u, hu⟩ := Option.isSome_iff_exists.1 hs
  obtain ⟨h1, h2, h3, h4⟩ := h
  refine ⟨fun j hj => ?_, fun o ho => ?_, fun o => by rw [World.frozen?_setCell]; exact h3 o, h4.setCell (.inl (by simp)) _⟩
  · by_cases e : j = k
    · subst e; exact World.cell?_setCell_same _ _ _ hu
    · rw [World.cell?_setCell_other _ _ _ _ (fun h => e (by have := congrArg Addr.off h; simp at this; omega))]
      exact h1 j (by omega)
  · rw [World.cell?_setCell_other _ _ _ _ (fun h => by have := congrArg Addr.off h; simp at this; omega)]
    exact h2 o (by omega)

set_option maxHeartbeats 1000000 in
/-- The fill of 'LawS0387AAgain'. -/
theorem fill_again (B off n c CB SB : Nat) (pos seed k : Int) (w : World) (hp0 : 0 ≤ pos) (hp1 : pos ≤ 4096) (hn : n ≤ 4096) (hk0 : 0 ≤ k) (hk : k ≤ 100)
    (hth : ∀ j, j < n → (w.cell? ⟨B, off + j, none⟩).isSome = true ∧ w.frozen? ⟨B, off + j, none⟩ = false) (hBC : B ≠ CB) (hBS : B ≠ SB) (hCS : CB ≠ SB) (hS : SB < w.heap.size)
    (cC : w.cell? ⟨CB, 0, none⟩ = some (.int .i64 k)) (fC : w.frozen? ⟨CB, 0, none⟩ = false) (cS : w.cell? ⟨SB, 0, none⟩ = some (.int .u8 seed)) :
    Calls Yba.prog 12 #[.slice (some ⟨B, off, none⟩) n c, .int .i64 pos, .pointer (some ⟨CB, 0, none⟩), .pointer (some ⟨SB, 0, none⟩)] w fun e w' =>
      e = .returned .nilIface ∧ Filled (w.setCell ⟨CB, 0, none⟩ (.int .i64 (k + 1))) B off seed pos n w' := by
  have hSC : SB ≠ CB := fun e => hCS e.symm
  go_enter Yba.func12, Yba.ntmps12
  go_wp2
  obtain ⟨w0, hw0⟩ : ∃ w0, w0 = w.setCell ⟨CB, 0, none⟩ (.int .i64 (k + 1)) := ⟨_, rfl⟩
  have cS0 : w0.cell? ⟨SB, 0, none⟩ = some (.int .u8 seed) := by rw [hw0, World.cell?_setCell_other _ _ _ _ (fun h => hCS (congrArg Addr.block h))]; exact cS
  have hS0 : SB < w0.heap.size := by rw [hw0]; simpa using hS
  have hth0 : ∀ j, j < n → (w0.cell? ⟨B, off + j, none⟩).isSome = true ∧ w0.frozen? ⟨B, off + j, none⟩ = false := by
    intro j hj
    rw [hw0, World.cell?_setCell_other _ _ _ _ (fun h => hBC (congrArg Addr.block h).symm), World.frozen?_setCell]
    exact hth j hj
  rw [← hw0]
  have HW : Hid (w0 = w.setCell ⟨CB, 0, none⟩ (.int .i64 (k + 1))) := hw0
  clear hw0 hth cC fC cS
  go_loopw [7] (fun t wr => ∃ i : Nat, i ≤ n ∧ t = .int .i64 i ∧ Filled w0 B off seed pos i wr) (fun t _ => n - (intOf t).toNat)
  case atStart => exact ⟨0, Nat.zero_le _, rfl, filled_zero _ _ _ _ _⟩
  case round =>
    obtain ⟨i, hi, rfl, hF⟩ := hrel
    by_cases hlt : i < n
    · have cSr : wr.cell? ⟨SB, 0, none⟩ = some (.int .u8 seed) := (hF.2.2.2.cell (by exact hS0) (by simpa using fun e => hBS e.symm)).trans cS0
      have hsome : (wr.cell? ⟨B, off + i, none⟩).isSome = true := by rw [hF.2.1 (off + i) (by omega)]; exact (hth0 i hlt).1
      have hfz : wr.frozen? ⟨B, off + i, none⟩ = false := by rw [hF.2.2.1]; exact (hth0 i hlt).2
      obtain ⟨u, hu⟩ := Option.isSome_iff_exists.1 hsome
      have hF2 := filled_succ hF hsome
      have HF2 : Hid (Filled w0 B off seed pos (i + 1) (wr.setCell ⟨B, off + i, none⟩ (.int .u8 (payF seed (pos + i))))) := hF2
      clear hth0 hF hF2 hsome
      go_wp2_with (go_at_call 8; refine (pay_any _ _ _).mono ?_; rintro e w' ⟨rfl, rfl⟩)
      go_roundw
      case rel => exact ⟨i + 1, by omega, by go_num, HF2.out⟩
      case measure => simp [intOf]; omega
    · obtain rfl : i = n := by omega
      go_wp2
      go_ret
      exact ⟨rfl, HW.out ▸ hF⟩

/-- Byte q of a reply: of its head, or of its payload. -/
def byteF (Hb : Nat → Int) (hl : Nat) (seed : Int) (q : Nat) : Int := if q < hl then Hb q else payF seed ((q : Int) - hl)

set_option maxHeartbeats 1000000 in
/-- 'zzs0387acheck' on a piece that holds what it should. -/
theorem check_any (C B H hl hc s total : Nat) (seed : Int) (Hb : Nat → Int) (w : World) (hs : s ≤ total) (ht : total ≤ 4096) (hhl : hl ≤ 1024)
    (c0 : w.cell? ⟨C, 0, none⟩ = some (.slice (some ⟨B, 0, none⟩) 262176 262176)) (c1 : w.cell? ⟨C, 1, none⟩ = some (.int .i64 s)) (c2 : w.cell? ⟨C, 2, none⟩ = some (.int .i64 total)) (c3 : w.cell? ⟨C, 3, none⟩ = some (.bool false))
    (hH : ∀ q, q < hl → w.cell? ⟨H, q, none⟩ = some (.int .u8 (Hb q))) (hB : ∀ i, i < total - s → w.cell? ⟨B, i, none⟩ = some (.int .u8 (byteF Hb hl seed (s + i)))) :
    Calls Yba.prog 11 #[.pointer (some ⟨C, 0, none⟩), .slice (some ⟨H, 0, none⟩) hl hc, .int .u8 seed, .int .i64 s, .int .i64 total] w fun e w' => e = .returned (.bool true) ∧ w' = w := by
  go_enter Yba.func11, Yba.ntmps11
  go_wp2
  go_loop [11] (fun t => ∃ i : Nat, i ≤ total - s ∧ t = .int .i64 i) (fun t => total - (intOf t).toNat)
  case atStart => exact ⟨0, Nat.zero_le _, rfl⟩
  case round =>
    obtain ⟨i, hi, rfl⟩ := hrel
    by_cases hlt : i < total - s
    · have hb := hB i hlt
      have hlt2 : (i : Int) < (total : Int) - (s : Int) := by omega
      have hix : (i : Int) < 262176 := by omega
      by_cases hq : s + i < hl
      · have hq2 : (s : Int) + (i : Int) < (hl : Int) := by omega
        have hh := hH (s + i) hq
        have e1 : byteF Hb hl seed (s + i) = Hb (s + i) := if_pos hq
        rw [e1] at hb
        clear e1 hH hB
        go_wp2
        go_round
        case rel => exact ⟨i + 1, by omega, by go_num⟩
        case measure => simp [intOf]; omega
      · have hq2 : ¬ (s : Int) + (i : Int) < (hl : Int) := by omega
        have e1 : byteF Hb hl seed (s + i) = payF seed ((s : Int) + (i : Int) - hl) := by unfold byteF; rw [if_neg hq]; simp
        rw [e1] at hb
        clear e1 hH hB
        go_wp2_with (go_at_call 8; refine (pay_any _ _ _).mono ?_; rintro e w' ⟨rfl, rfl⟩)
        go_round
        case rel => exact ⟨i + 1, by omega, by go_num⟩
        case measure => simp [intOf]; omega
    · have hlt2 : ¬ (i : Int) < (total : Int) - (s : Int) := by omega
      clear hH hB
      go_wp2
      go_ret
      exact ⟨rfl, rfl⟩
end Go.Proofs.Ybulkgzk
