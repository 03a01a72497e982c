/-
  OWN TEXT. The fill of 'LawS0387AFresh' by its two contracts.
-/
import Derived.Test.YbulkgzkFill
namespace Go.Proofs.Ybulkgzk
open Go.RowKit Go.MuLone

/-- The three marks that the fill of 'LawS0387AFresh' leaves. -/
def marked (CB GP GL : Nat) (pos : Int) (len : Nat) (w : World) : World := ((w.setCell ⟨CB, 0, none⟩ (.int .i64 1)).setCell ⟨GP, 0, none⟩ (.int .i64 pos)).setCell ⟨GL, 0, none⟩ (.int .i64 len)

theorem marked_other {CB GP GL : Nat} {pos : Int} {len : Nat} {w : World} {x : Nat} (h1 : x ≠ CB) (h2 : x ≠ GP) (h3 : x ≠ GL) (o : Nat) : (marked CB GP GL pos len w).cell? ⟨x, o, none⟩ = w.cell? ⟨x, o, none⟩ := by
  unfold marked
  rw [World.cell?_setCell_other _ _ _ _ (fun e => h3 (congrArg Addr.block e).symm), World.cell?_setCell_other _ _ _ _ (fun e => h2 (congrArg Addr.block e).symm), World.cell?_setCell_other _ _ _ _ (fun e => h1 (congrArg Addr.block e).symm)]

theorem marked_frozen {CB GP GL : Nat} {pos : Int} {len : Nat} {w : World} (a : Addr) : (marked CB GP GL pos len w).frozen? a = w.frozen? a := by
  unfold marked
  rw [World.frozen?_setCell, World.frozen?_setCell, World.frozen?_setCell]

theorem marked_size {CB GP GL : Nat} {pos : Int} {len : Nat} {w : World} : (marked CB GP GL pos len w).heap.size = w.heap.size := by
  unfold marked
  simp

theorem marked_kept {CB GP GL : Nat} {pos : Int} {len : Nat} {w : World} : Kept [CB, GP, GL] w (marked CB GP GL pos len w) :=
  (((Kept.refl _ w).setCell (p := ⟨CB, 0, none⟩) (.inl (by simp)) _).setCell (p := ⟨GP, 0, none⟩) (.inl (by simp)) _).setCell (p := ⟨GL, 0, none⟩) (.inl (by simp)) _

theorem marked_cells {CB GP GL : Nat} {pos : Int} {len : Nat} {w : World} {u v x : Value} (h1 : CB ≠ GP) (h2 : CB ≠ GL) (h3 : GP ≠ GL) (c1 : w.cell? ⟨CB, 0, none⟩ = some u) (c2 : w.cell? ⟨GP, 0, none⟩ = some v) (c3 : w.cell? ⟨GL, 0, none⟩ = some x) :
    (marked CB GP GL pos len w).cell? ⟨CB, 0, none⟩ = some (.int .i64 1) ∧ (marked CB GP GL pos len w).cell? ⟨GP, 0, none⟩ = some (.int .i64 pos) ∧ (marked CB GP GL pos len w).cell? ⟨GL, 0, none⟩ = some (.int .i64 len) := by
  have n1 : ∀ {a b : Nat}, a ≠ b → (⟨a, 0, none⟩ : Addr) ≠ ⟨b, 0, none⟩ := fun h e => h (congrArg Addr.block e)
  unfold marked
  refine ⟨?_, ?_, ?_⟩
  · rw [World.cell?_setCell_other _ _ _ _ (n1 h2.symm), World.cell?_setCell_other _ _ _ _ (n1 h1.symm)]; exact World.cell?_setCell_same _ _ _ c1
  · rw [World.cell?_setCell_other _ _ _ _ (n1 h3.symm)]
    exact World.cell?_setCell_same _ _ _ ((World.cell?_setCell_other _ _ _ _ (n1 h1)).trans c2)
  · exact World.cell?_setCell_same _ _ _ ((World.cell?_setCell_other _ _ _ _ (n1 h3)).trans ((World.cell?_setCell_other _ _ _ _ (n1 h2)).trans c3))

/-- The blocks that the fill of 'LawS0387AFresh' knows, and what lies in them at its call. -/
structure FrAt (SB FB CB GP GL EB : Nat) (seed : Int) (fail : Bool) (ev : Value) (w : World) : Prop where
  o1 : SB < FB
  o2 : FB < CB
  o3 : CB < GP
  o4 : GP < GL
  o5 : GL < EB
  o6 : EB < w.heap.size
  cC : w.cell? ⟨CB, 0, none⟩ = some (.int .i64 0)
  fC : w.frozen? ⟨CB, 0, none⟩ = false
  cP : w.cell? ⟨GP, 0, none⟩ = some (.int .i64 0)
  fP : w.frozen? ⟨GP, 0, none⟩ = false
  cL : w.cell? ⟨GL, 0, none⟩ = some (.int .i64 0)
  fL : w.frozen? ⟨GL, 0, none⟩ = false
  cF : w.cell? ⟨FB, 0, none⟩ = some (.bool fail)
  cE : w.cell? ⟨EB, 0, none⟩ = some ev
  cS : w.cell? ⟨SB, 0, none⟩ = some (.int .u8 seed)

set_option maxHeartbeats 1000000 in
/-- The fill of 'LawS0387AFresh', where it works. -/
theorem fill_fresh (B off n c SB FB CB GP GL EB : Nat) (pos seed : Int) (ev : Value) (w : World) (hp0 : 0 ≤ pos) (hp1 : pos ≤ 4096) (hn : n ≤ 4096) (hat : FrAt SB FB CB GP GL EB seed false ev w) (hB : EB < B)
    (hth : ∀ j, j < n → (w.cell? ⟨B, off + j, none⟩).isSome = true ∧ w.frozen? ⟨B, off + j, none⟩ = false) :
    Calls Yba.prog 7 #[.slice (some ⟨B, off, none⟩) n c, .int .i64 pos, .pointer (some ⟨CB, 0, none⟩), .pointer (some ⟨GP, 0, none⟩), .pointer (some ⟨GL, 0, none⟩), .pointer (some ⟨FB, 0, none⟩), .pointer (some ⟨EB, 0, none⟩), .pointer (some ⟨SB, 0, none⟩)] w fun e w' =>
      e = .returned .nilIface ∧ Filled (marked CB GP GL pos n w) B off seed pos n w' := by
  obtain ⟨o1, o2, o3, o4, o5, o6, cC, fC, cP, fP, cL, fL, cF, cE, cS⟩ := hat
  have n1 : CB ≠ GP := by omega
  have n2 : CB ≠ GL := by omega
  have n3 : GP ≠ GL := by omega
  have n4 : GP ≠ CB := by omega
  have n5 : GL ≠ CB := by omega
  have n6 : GL ≠ GP := by omega
  have n7 : FB ≠ CB := by omega
  have n8 : FB ≠ GP := by omega
  have n9 : FB ≠ GL := by omega
  have m7 : CB ≠ FB := by omega
  have m8 : GP ≠ FB := by omega
  have m9 : GL ≠ FB := by omega
  obtain ⟨w0, hw0⟩ : ∃ w0, w0 = marked CB GP GL pos n w := ⟨_, rfl⟩
  have cS0 : w0.cell? ⟨SB, 0, none⟩ = some (.int .u8 seed) := by rw [hw0, marked_other (by omega) (by omega) (by omega)]; exact cS
  have hS0 : SB < w0.heap.size := by rw [hw0, marked_size]; omega
  have hth0 : ∀ j, j < n → (w0.cell? ⟨B, off + j, none⟩).isSome = true ∧ w0.frozen? ⟨B, off + j, none⟩ = false := by
    intro j hj
    rw [hw0, marked_other (by omega) (by omega) (by omega), marked_frozen]
    exact hth j hj
  have HBS : Hid (SB ≠ B) := show SB ≠ B by omega
  rw [← hw0]
  have hw1 : ((w.setCell ⟨CB, 0, none⟩ (.int .i64 1)).setCell ⟨GP, 0, none⟩ (.int .i64 pos)).setCell ⟨GL, 0, none⟩ (.int .i64 n) = w0 := hw0.symm
  have HW : Hid (((w.setCell ⟨CB, 0, none⟩ (.int .i64 1)).setCell ⟨GP, 0, none⟩ (.int .i64 pos)).setCell ⟨GL, 0, none⟩ (.int .i64 n) = w0) := hw1
  clear hw0 hw1 hth o1 o2 o3 o4 o5 o6 hB
  go_enter Yba.func7, Yba.ntmps7
  go_wp2
  rw [HW.out]
  clear cC fC cP fP cL fL cF cE cS n1 n2 n3 n4 n5 n6 n7 n8 n9 m7 m8 m9 HW
  go_loopw [11] (fun t wr => ∃ i : Nat, i ≤ n ∧ t = .int .i64 i ∧ Filled w0 B off seed pos i wr) (fun t _ => n - (intOf t).toNat)
  case atStart => exact ⟨0, Nat.zero_le _, rfl, filled_zero _ _ _ _ _⟩
  case round =>
    obtain ⟨i, hi, rfl, hF⟩ := hrel
    by_cases hlt : i < n
    · have cSr : wr.cell? ⟨SB, 0, none⟩ = some (.int .u8 seed) := (hF.2.2.2.cell (by exact hS0) (by simpa using HBS.out)).trans cS0
      have hsome : (wr.cell? ⟨B, off + i, none⟩).isSome = true := by rw [hF.2.1 (off + i) (by omega)]; exact (hth0 i hlt).1
      have hfz : wr.frozen? ⟨B, off + i, none⟩ = false := by rw [hF.2.2.1]; exact (hth0 i hlt).2
      obtain ⟨u, hu⟩ := Option.isSome_iff_exists.1 hsome
      have hF2 := filled_succ hF hsome
      have HF2 : Hid (Filled w0 B off seed pos (i + 1) (wr.setCell ⟨B, off + i, none⟩ (.int .u8 (payF seed (pos + i))))) := hF2
      clear hth0 hF hF2 hsome
      go_wp2_with (go_at_call 8; refine (pay_any _ _ _).mono ?_; rintro e w' ⟨rfl, rfl⟩)
      go_roundw
      case rel => exact ⟨i + 1, by omega, by go_num, HF2.out⟩
      case measure => simp [intOf]; omega
    · obtain rfl : i = n := by omega
      go_wp2
      go_ret
      exact ⟨rfl, hF⟩

set_option maxHeartbeats 1000000 in
/-- The fill of 'LawS0387AFresh', where it fails. -/
theorem fill_fails (B off n c SB FB CB GP GL EB : Nat) (pos seed : Int) (te : TypeId) (ep : Option Addr) (w : World) (hat : FrAt SB FB CB GP GL EB seed true (.iface te (.pointer ep)) w) :
    Calls Yba.prog 7 #[.slice (some ⟨B, off, none⟩) n c, .int .i64 pos, .pointer (some ⟨CB, 0, none⟩), .pointer (some ⟨GP, 0, none⟩), .pointer (some ⟨GL, 0, none⟩), .pointer (some ⟨FB, 0, none⟩), .pointer (some ⟨EB, 0, none⟩), .pointer (some ⟨SB, 0, none⟩)] w fun e w' =>
      e = .returned (.iface te (.pointer ep)) ∧ w' = marked CB GP GL pos n w := by
  obtain ⟨o1, o2, o3, o4, o5, o6, cC, fC, cP, fP, cL, fL, cF, cE, cS⟩ := hat
  have n1 : CB ≠ GP := by omega
  have n2 : CB ≠ GL := by omega
  have n3 : GP ≠ GL := by omega
  have n4 : GP ≠ CB := by omega
  have n5 : GL ≠ CB := by omega
  have n6 : GL ≠ GP := by omega
  have n7 : FB ≠ CB := by omega
  have n8 : FB ≠ GP := by omega
  have n9 : FB ≠ GL := by omega
  have m7 : CB ≠ FB := by omega
  have m8 : GP ≠ FB := by omega
  have m9 : GL ≠ FB := by omega
  have k7 : CB ≠ EB := by omega
  have k8 : GP ≠ EB := by omega
  have k9 : GL ≠ EB := by omega
  have l7 : EB ≠ CB := by omega
  have l8 : EB ≠ GP := by omega
  have l9 : EB ≠ GL := by omega
  go_enter Yba.func7, Yba.ntmps7
  go_wp2
  go_ret
  exact ⟨rfl, rfl⟩
end Go.Proofs.Ybulkgzk
