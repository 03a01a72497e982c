/-
  OWN TEXT. '(*reply).add' where the fill fails.
-/
import Derived.Test.YbulkgzkAddHead
import Derived.Test.YbulkgzkPut
import Derived.Test.YbulkgzkFillFr
namespace Go.Proofs.Ybulkgzk
open Go.RowKit Go.MuLone

/-- What 'put' asks of a pool. -/
structure PoolIdle (P : Nat) (w : World) : Prop where
  c0 : w.cell? ⟨P, 0, none⟩ = some (.int .i32 0)
  f0 : w.frozen? ⟨P, 0, none⟩ = false
  c9 : w.cell? ⟨P, 9, none⟩ = some (.slice none 0 0)
  f9 : w.frozen? ⟨P, 9, none⟩ = false
  c3 : w.cell? ⟨P, 3, none⟩ = some (.int .u32 0)
  c4 : w.cell? ⟨P, 4, none⟩ = some (.int .u32 0)
  c8 : w.cell? ⟨P, 8, none⟩ = some (.int .u64 0)
  f8 : w.frozen? ⟨P, 8, none⟩ = false

theorem idle_of {P : Nat} {w w' : World} (h : PoolIdle P w) (hc : ∀ o, o ≠ 11 → w'.cell? ⟨P, o, none⟩ = w.cell? ⟨P, o, none⟩) (hf : ∀ o, w'.frozen? ⟨P, o, none⟩ = w.frozen? ⟨P, o, none⟩) : PoolIdle P w' :=
  ⟨(hc 0 (by omega)).trans h.c0, (hf 0).trans h.f0, (hc 9 (by omega)).trans h.c9, (hf 9).trans h.f9, (hc 3 (by omega)).trans h.c3, (hc 4 (by omega)).trans h.c4, (hc 8 (by omega)).trans h.c8, (hf 8).trans h.f8⟩

/-- What the law asks of a fill that fails. -/
def FillNo (g : Nat) (cb : Array Value) (B CB GP GL : Nat) (te : TypeId) (ep : Option Addr) (w : World) : Prop :=
  ∀ (off len cap : Nat) (pos : Int) (w1 : World), Below B w w1 →
    Calls Yba.prog g (#[.slice (some ⟨B, off, none⟩) len cap, .int .i64 pos] ++ cb) w1 fun e w2 => e = .returned (.iface te (.pointer ep)) ∧ Hid (w2 = marked CB GP GL pos len w1)

/-- 'put' behind a fill that failed. -/
theorem put_after {P B CB GP GL : Nat} {pos : Int} {len : Nat} {w w1 : World} (hP : PoolIdle P w) (hPB : P < B) (hBw : B < w.heap.size) (hPC : P ≠ CB) (hPG : P ≠ GP) (hPL : P ≠ GL) (hb : Below B w w1) :
    Calls Yba.prog 26 #[.pointer (some ⟨P, 0, none⟩), .slice (some ⟨B, 0, none⟩) 262176 262176] (marked CB GP GL pos len w1) fun e w' => e = .returned (.tuple #[]) ∧ PutAt P B (marked CB GP GL pos len w1) w' := by
  have hi := idle_of (w' := marked CB GP GL pos len w1) hP (fun o _ => (marked_other hPC hPG hPL o).trans (hb.cell (p := ⟨P, o, none⟩) hPB)) (fun o => (marked_frozen _).trans (hb.frozen (p := ⟨P, o, none⟩) hPB))
  exact put_any P B _ hi.c0 hi.f0 hi.c9 hi.f9 hi.c3 hi.c4 hi.c8 hi.f8 (by rw [marked_size]; have := hb.size; omega)

set_option linter.unusedVariables false in
set_option maxRecDepth 100000 in
set_option maxHeartbeats 4000000 in
theorem addfail_fill (R P B H hl n s : Nat) (g : Nat) (cb : Array Value) (CB GP GL : Nat) (te : TypeId) (ep : Option Addr) (cur : List Value) (Hb : Nat → Int) (w : World) (hhl : hl ≤ 1024) (hn : n ≤ 2047) (hs : s ≤ hl + n) (hsh : ¬ s < hl) (hn0 : s < hl + n)
    (hRB : R < B) (hPB : P < B) (hBw : B < w.heap.size) (hPC : P ≠ CB) (hPG : P ≠ GP) (hPL : P ≠ GL) (eg : ∀ args w, (callFunc g args).run Yba.prog w = .ok (.enter g args) w) (hfail : FillNo g cb B CB GP GL te ep w)
    (r1 : w.cell? ⟨R, 1, none⟩ = some (.slice (some ⟨H, 0, none⟩) hl hl)) (r2 : w.cell? ⟨R, 2, none⟩ = some (.int .i64 n)) (r3 : w.cell? ⟨R, 3, none⟩ = some (.func (.func g) #[] cb)) (hP : PoolIdle P w)
    (hB : w.heap[B]? = some (.cells cur.toArray 5 (0, 0))) (hcur : cur.length = 262176) (hH : ∀ q, q < hl → w.cell? ⟨H, q, none⟩ = some (.int .u8 (Hb q))) :
    Calls Yba.prog 16 #[.pointer (some ⟨R, 0, none⟩), .pointer (some ⟨P, 0, none⟩), .slice (some ⟨B, 0, none⟩) 262176 262176, .int .i64 s] w fun e w' =>
      e = .returned (.iface te (.pointer ep)) ∧ ∃ w1, Below B w w1 ∧ PutAt P B (marked CB GP GL ((max s hl : Nat) - hl : Int) (hl + n - max s hl) w1) w' := by
  have hmin : min ((hl : Int) + (n : Int)) ((s : Int) + 262176) = (hl : Int) + n := by omega
  obtain ⟨d, hd⟩ : ∃ d, d = hl + n - s := ⟨_, rfl⟩
  obtain ⟨p, hp⟩ : ∃ p, p = s - hl := ⟨_, rfl⟩
  have hd1 : (hl : Int) + (n : Int) - (s : Int) = (d : Int) := by omega
  have hd2 : (d : Int) ≤ 262176 := by omega
  have hd3 : d ≤ 262176 := by omega
  have hd4 : d ≤ 4096 := by omega
  have hp1 : (s : Int) - (hl : Int) = (p : Int) := by omega
  have hp2 : p ≤ 4096 := by omega
  have hwd : IntKind.i64.wrap (d : Int) = (d : Int) := by rw [IntKind.wrap_i64]; omega
  have hwp : IntKind.i64.wrap (p : Int) = (p : Int) := by rw [IntKind.wrap_i64]; omega
  have hws : IntKind.i64.wrap (s : Int) = (s : Int) := by rw [IntKind.wrap_i64]; omega
  have hsh2 : ¬ (s : Int) < (hl : Int) := by omega
  have HB : Hid (w.heap[B]? = some (.cells cur.toArray 5 (0, 0))) := hB
  have HCUR : Hid (cur.length = 262176) := hcur
  have HD : Hid (d = hl + n - s) := hd
  have HP : Hid (p = s - hl) := hp
  clear hB hcur hd hp
  have hn1 : (s : Int) < (hl : Int) + (n : Int) := by omega
  go_enter Yba.func16, Yba.ntmps16
  go_wp2_with (go_at_call 27; refine (len_reply R H hl hl n _ (by exact r1) (by exact r2) (by omega) (by omega) hhl).mono ?_; rintro e w' ⟨rfl, q, rfl⟩)
  have hb2 : Below B w (w.drewN q) := below_drewN (Below.refl _ _) q
  have HB2 : Hid ((w.drewN q).heap[B]? = some (.cells cur.toArray 5 (0, 0))) := HB.out
  have hw2 : w.heap.size ≤ (w.drewN q).heap.size := Nat.le_refl _
  generalize w.drewN q = w2 at hb2 HB2 hw2 ⊢
  have r1' := (hb2.cell (p := ⟨R, 1, none⟩) (by exact hRB)).trans r1
  have r3' := (hb2.cell (p := ⟨R, 3, none⟩) (by exact hRB)).trans r3
  have hRw : R < w2.heap.size := by omega
  have HF : Hid (FillNo g cb B CB GP GL te ep w) := hfail
  clear hH hfail
  go_region_with (go_at_fn g; refine (HF.out 0 d _ p _ (below_drewN hb2 _)).mono ?_; rintro e w3 ⟨rfl, HW3⟩)
  all_goals
    have hput := put_after (CB := CB) (GP := GP) (GL := GL) (pos := p) (len := d) hP hPB hBw hPC hPG hPL (below_drewN hb2 1)
    rw [← HW3.out] at hput
    go_wp2_with (go_at_call 26; refine hput.mono ?_; rintro e w4 ⟨rfl, hpt⟩)
    go_ret
    have hdd := HD.out
    have hpp := HP.out
    refine ⟨rfl, _, below_drewN hb2 1, ?_⟩
    rw [show hl + n - max s hl = d by omega, show ((max s hl : Nat) : Int) - (hl : Int) = (p : Int) by omega, ← HW3.out]
    exact hpt

set_option linter.unusedVariables false in
set_option maxRecDepth 100000 in
set_option maxHeartbeats 4000000 in
theorem addfail_both (R P B H hl n s : Nat) (g : Nat) (cb : Array Value) (CB GP GL : Nat) (te : TypeId) (ep : Option Addr) (cur : List Value) (Hb : Nat → Int) (w : World) (hhl : hl ≤ 1024) (hn : n ≤ 2047) (hs : s ≤ hl + n) (hsh : s < hl) (hn0 : ¬ n = 0)
    (hRB : R < B) (hPB : P < B) (hBw : B < w.heap.size) (hPC : P ≠ CB) (hPG : P ≠ GP) (hPL : P ≠ GL) (eg : ∀ args w, (callFunc g args).run Yba.prog w = .ok (.enter g args) w) (hfail : FillNo g cb B CB GP GL te ep w)
    (r1 : w.cell? ⟨R, 1, none⟩ = some (.slice (some ⟨H, 0, none⟩) hl hl)) (r2 : w.cell? ⟨R, 2, none⟩ = some (.int .i64 n)) (r3 : w.cell? ⟨R, 3, none⟩ = some (.func (.func g) #[] cb)) (hP : PoolIdle P w)
    (hB : w.heap[B]? = some (.cells cur.toArray 5 (0, 0))) (hcur : cur.length = 262176) (hH : ∀ q, q < hl → w.cell? ⟨H, q, none⟩ = some (.int .u8 (Hb q))) :
    Calls Yba.prog 16 #[.pointer (some ⟨R, 0, none⟩), .pointer (some ⟨P, 0, none⟩), .slice (some ⟨B, 0, none⟩) 262176 262176, .int .i64 s] w fun e w' =>
      e = .returned (.iface te (.pointer ep)) ∧ ∃ w1, Below B w w1 ∧ PutAt P B (marked CB GP GL ((max s hl : Nat) - hl : Int) (hl + n - max s hl) w1) w' := by
  have hmin : min ((hl : Int) + (n : Int)) ((s : Int) + 262176) = (hl : Int) + n := by omega
  obtain ⟨kk, hkk⟩ : ∃ kk, kk = hl - s := ⟨_, rfl⟩
  obtain ⟨d, hd⟩ : ∃ d, d = kk + n := ⟨_, rfl⟩
  have hd1 : (hl : Int) + (n : Int) - (s : Int) = (d : Int) := by omega
  have hd2 : (d : Int) ≤ 262176 := by omega
  have hwd : IntKind.i64.wrap (d : Int) = (d : Int) := by rw [IntKind.wrap_i64]; omega
  have hsh2 : (s : Int) < (hl : Int) := by omega
  have hkn : hl - s = kk := hkk.symm
  have hsl : s ≤ hl := by omega
  have hsne : ¬ hl = s := by omega
  obtain ⟨X, hX⟩ : ∃ X : List Value, X = (List.range kk).map fun i => .int .u8 (Hb (s + i)) := ⟨_, rfl⟩
  have hXl : X.length = kk := by rw [hX]; simp
  have hX1 : ∀ v ∈ X, v.oneCell' = true := by
    intro v hv
    rw [hX] at hv
    obtain ⟨i, _, rfl⟩ := List.mem_map.1 hv
    rfl
  have hXs : ∀ j v, X[j]? = some v → w.cell? ⟨H, s + j, none⟩ = some v := by
    intro j v hv
    rw [hX] at hv
    have hj : j < kk := by have := (List.getElem?_eq_some_iff.1 hv).1; simpa using this
    rw [hH (s + j) (by omega), ← hv]
    simp [hj]
  have HX : Hid (X = (List.range kk).map fun i => .int .u8 (Hb (s + i))) := hX
  have HXL : Hid (X.length = kk) := hXl
  have HX1 : Hid (∀ v ∈ X, v.oneCell' = true) := hX1
  have HXS : Hid (∀ j v, X[j]? = some v → w.cell? ⟨H, s + j, none⟩ = some v) := hXs
  have HB : Hid (w.heap[B]? = some (.cells cur.toArray 5 (0, 0))) := hB
  have HCUR : Hid (cur.length = 262176) := hcur
  have HKK : Hid (kk = hl - s) := hkk
  have HD : Hid (d = kk + n) := hd
  clear hX hX1 hXs hB hcur hkk hd hXl hH
  go_enter Yba.func16, Yba.ntmps16
  go_wp2_with (go_at_call 27; refine (len_reply R H hl hl n _ (by exact r1) (by exact r2) (by omega) (by omega) hhl).mono ?_; rintro e w' ⟨rfl, q, rfl⟩)
  go_region_law (refine step_copy_splice rfl (.tmp 30) (.tmp 36) 22 22 rfl 5 Yba.underlying22 size5 (some ⟨B, 0, none⟩) (some ⟨H, s, none⟩) d 262176 kk kk (by simp [Act.eval, Act.put]) (by simp [Act.eval, Act.put]) B 0 cur 5 HB.out X (by rw [HXL.out]; have := HD.out; show kk = min kk d; omega) (fun _ => ⟨rfl, _, rfl, fun j v hv => by rw [WideShapes.add_plain]; exact HXS.out j v hv⟩) (by have := HXL.out; have := HCUR.out; have := HKK.out; omega) HX1.out B w (below_drewN (Below.refl _ _) _) (Nat.le_refl _) ?_; intro w2 HB2 hb2)
  have hXl := HXL.out
  have hsk : (s : Int) + (kk : Int) = (hl : Int) := by have := HKK.out; omega
  have r1' := (hb2.cell (p := ⟨R, 1, none⟩) (by exact hRB)).trans r1
  have r3' := (hb2.cell (p := ⟨R, 3, none⟩) (by exact hRB)).trans r3
  have hw2 : w.heap.size ≤ w2.heap.size := hb2.size
  have hRw : R < w2.heap.size := by omega
  have hn1 : (hl : Int) < (hl : Int) + (n : Int) := by omega
  have hwh : IntKind.i64.wrap (hl : Int) = (hl : Int) := by rw [IntKind.wrap_i64]; omega
  have hw0 : IntKind.i64.wrap 0 = 0 := by rw [IntKind.wrap_i64]; rfl
  have hkne : ¬ 262176 = kk := by have := HKK.out; omega
  have hkd : kk ≤ d := by have := HD.out; omega
  have hdk : d - kk = n := by have := HD.out; omega
  have hkk2 : (kk : Int) ≤ (d : Int) := by omega
  have hd3 : d ≤ 262176 := by omega
  have HF : Hid (FillNo g cb B CB GP GL te ep w) := hfail
  clear hfail
  go_wp2_with fail
  go_region_with (go_at_fn g; refine (HF.out kk n _ 0 _ (below_drewN hb2 _)).mono ?_; rintro e w3 ⟨rfl, HW3⟩)
  all_goals
    have hput := put_after (CB := CB) (GP := GP) (GL := GL) (pos := 0) (len := n) hP hPB hBw hPC hPG hPL (below_drewN hb2 1)
    rw [← HW3.out] at hput
    go_wp2_with (go_at_call 26; refine hput.mono ?_; rintro e w4 ⟨rfl, hpt⟩)
    go_ret
    have hkk := HKK.out
    have hdd := HD.out
    refine ⟨rfl, _, below_drewN hb2 1, ?_⟩
    rw [show hl + n - max s hl = n by omega, show ((max s hl : Nat) : Int) - (hl : Int) = 0 by omega, ← HW3.out]
    exact hpt

end Go.Proofs.Ybulkgzk
