/-
  OWN TEXT. 'Rows.LawS0383AItemsSaid': the walk and the row.
-/
import Derived.Test.YbulkgxgItemsAt
import Derived.ProofKit
import Derived.OpenShut
import Derived.ShutString
import Derived.ChangeOld
import Derived.Below
import Derived.Deep.SlicePairs
import Derived.Deep.QuietTactic
import Derived.BigQuiet
namespace Go.Proofs.Ybulkgxg.lawS0383AItems
open Go.ChangeShapes Go.WideShapes Go.ChangeAt Go.RowKit

theorem own : ownKnob Yba.prog.godebug = none := by kernel_rfl
theorem laidOut : laidOutB Yba.prog = true := by kernel_rfl

set_option maxHeartbeats 1000000 in
theorem walk (ao : Option Addr) (n c : Nat) (K0 K1 : Nat → ByteArray) (w : World) (hmax : n ≤ maxLen) (hkeys : KeysAt K0 K1 w ao n) :
    Calls Yba.prog 3 #[.slice ao n c] w fun e w' => e = .returned (.bool true) ∧ Below w.heap.size w w' := by
  unfold maxLen at hmax
  by_cases hbig : n ≤ 1024
  · have hcon := items_any ao n c K0 K1 w hbig hkeys
    have HK : Hid (KeysAt K0 K1 w ao n) := hkeys
    clear hkeys
    go_enter Yba.func3, Yba.ntmps3
    go_wp2_with (first | (go_at_call 5; refine hcon.mono ?_; rintro e w1 ⟨rfl, hI, hbel⟩) | fail)
    go_loopw [4] (fun i wr => ∃ k q : Nat, k ≤ n ∧ i = .int .i64 k ∧ wr = w1.drewN q) (fun i _ => n - (intOf i).toNat)
    case atStart => exact ⟨0, 0, Nat.zero_le _, rfl, rfl⟩
    case round =>
      obtain ⟨k, q, hk, rfl, rfl⟩ := hrel
      by_cases hlt : k < n
      · rcases HK.out with h0 | ⟨b, off, rfl, hb, hkc⟩
        · omega
        have g0 : w1.cell? ⟨b, off + k * 2, none⟩ = some (.string (K0 k)) := (hbel.cell (by exact hb)).trans (hkc k hlt).1
        have g1 : w1.cell? ⟨b, off + k * 2 + 1, none⟩ = some (.string (K1 k)) := (hbel.cell (by exact hb)).trans (hkc k hlt).2
        obtain ⟨z, c0, c1, c2, f0, f1, f2⟩ := (⟨hI.1, hI.2 k hlt⟩ : _ ∧ _)
        rw [if_pos hlt] at c1 c2
        clear hkc hI hcon
        go_wp2
        go_quiet (fail)
        go_wp2
        go_roundw
        case rel => exact ⟨k + 1, q + nq, by omega, by go_num, rfl⟩
        case measure => simp [intOf]; omega
      · go_wp2
        go_ret
        exact ⟨rfl, below_drewN hbel _⟩
  · go_enter Yba.func3, Yba.ntmps3
    go_wp2
    go_ret
    exact ⟨rfl, Below.refl _ _⟩

/-- A slice of keys that came in, as the walk wants it. -/
theorem open_keys {H : Type} {enc : TypeId × Value → H} {W : World} {fuel : Nat} {a0 : Option Addr} {len cap : Nat} {x : DataW H × List MemPlace}
    (h : DataW.trod enc Yba.prog W 0 (fun _ => true) true fuel 22 [.slice a0 len cap] = some x) : len ≤ maxLen ∧ ∃ K0 K1, KeysAt K0 K1 W a0 len := by
  rcases Deep.open_slice_pairs Yba.underlying22 Yba.underlying26 (by kernel_rfl) rfl rfl (by kernel_rfl) (by kernel_rfl) h with ⟨hcs, _⟩ | ⟨a, l, c, m, f, V0, V1, D0, D1, P0, P1, hcs, _, hl, hm, hmm, _, hx⟩
  · simp at hcs
    obtain ⟨rfl, rfl, rfl⟩ := hcs
    exact ⟨Nat.zero_le _, fun _ => ByteArray.empty, fun _ => ByteArray.empty, .inl rfl⟩
  · simp at hcs
    obtain ⟨rfl, rfl, rfl⟩ := hcs
    refine ⟨Nat.le_trans hl hm, ?_⟩
    simp only [if_true] at hmm
    obtain ⟨K0, hK0⟩ := Deep.choose_lt (n := len) (p := fun i s => V0 i = .string s) (fun i hi => by
      obtain ⟨s, hs, _⟩ := DataW.trod_string Yba.underlying9 (hx i (by omega)).2.2.1
      exact ⟨s, by simpa using hs⟩)
    obtain ⟨K1, hK1⟩ := Deep.choose_lt (n := len) (p := fun i s => V1 i = .string s) (fun i hi => by
      obtain ⟨s, hs, _⟩ := DataW.trod_string Yba.underlying9 (hx i (by omega)).2.2.2
      exact ⟨s, by simpa using hs⟩)
    refine ⟨K0, K1, ?_⟩
    by_cases h0 : len = 0
    · exact .inl h0
    · obtain ⟨b, off, spot⟩ := a
      have hc := (hx 0 (by omega)).1
      have hspot : spot = none := by simpa [Addr.add] using World.cell?_spot hc
      subst hspot
      refine .inr ⟨b, off, rfl, by simpa [Addr.add] using World.block_lt_of_cell? W _ hc, fun i hi => ?_⟩
      obtain ⟨c0, c1, _⟩ := hx i (by omega)
      rw [hK0 i hi, add_plain] at c0
      rw [hK1 i hi, add_plain, ← Nat.add_assoc] at c1
      exact ⟨c0, c1⟩

set_option maxRecDepth 100000 in
theorem lifted (os : Os) (started : os.Started) (H : Type) (enc : TypeId × Value → H) :
    ReturnsInHanded {} Yba.checked os 3 .any (Rows.lawS0383AItemsSpec.pre6 enc Yba.prog Yba.f3 Rows.lawS0383AItemsRow.domain false) (Rows.lawS0383AItemsSpec.post enc Yba.prog Yba.f3 false true false false) := by
  refine returnsInHanded_of_change (C := Yba.checked) own started (by kernel_rfl) Yba.func3
    (ChangeSpec.witness6 (enc := enc) (C := Yba.checked) false ⟨#[], #[.slice none 0 0], []⟩ 8 (by kernel_rfl) (by kernel_rfl) (by kernel_rfl) (by kernel_rfl)) ?_
  intro W base args ds gs before hval0 hW hcnd _
  have hval : ∀ (j : Nat) t v, Yba.f3.params[j]? = some t → args[j]? = some v → Value.okWide Yba.prog W .any base t v := hval0
  have hW' := hW
  obtain ⟨p, q, hA0, hV, rfl, hfz, hnd⟩ := hW
  have hA : DataW.TrodAll enc Yba.prog W 0 (fun _ => true) true Yba.f3.params.toList args.toList ds p := hA0
  rw [Yba.params3] at hA hval
  obtain ⟨v0, vs0, d0, ds0, p0, q0, hargs, rfl, rfl, h0, r0⟩ := trodAll_cons hA
  obtain ⟨rfl, rfl, rfl⟩ := trodAll_nil r0
  obtain rfl : args = #[v0] := by cases args; simp_all
  obtain ⟨rfl, rfl⟩ := trodVars_none hV
  obtain ⟨a0, len0, cap0, rfl⟩ := okWide_slice Yba.underlying22 (hval 0 22 v0 rfl rfl)
  have k0 := h0
  have lt0 : ∀ x ∈ p0, x.block < W.heap.size := by obtain ⟨m, hm⟩ := k0; exact DataW.trod_lt m _ _ _ hm
  obtain ⟨hml, K0, K1, hK⟩ : len0 ≤ maxLen ∧ ∃ K0 K1, KeysAt K0 K1 W a0 len0 := by
    obtain ⟨fuel, hf⟩ := h0
    exact open_keys (by simpa [Value.cells] using hf)
  clear hA0 hval0
  refine (walk a0 len0 cap0 K0 K1 W hml hK).mono fun e W' ⟨he, bel⟩ => ?_
  subst he
  exact ⟨_, rfl, _, _, _, [], _, [], hW', trodAll_mk1 (shut_bool Yba.underlying4 _), (trodAll_cons_mk (Below.trod laidOut (by kernel_rfl) (of_decide_eq_true (by kernel_rfl)) k0 bel lt0) trodAll_mk0), rfl, bel.frame _, fun h => by cases h⟩

theorem over : Rows.lawS0383AItemsRow.holds Yba.pinned (OpenSpec.ofChange Rows.lawS0383AItemsSpec) :=
  OpenClaim.holds_of_wide 3 Yba.f3 rfl rfl rfl rfl rfl rfl rfl ⟨rfl, rfl, rfl, rfl, rfl⟩ rfl rfl rfl rfl rfl (by kernel_rfl) Yba.func3 (by kernel_rfl)
    (of_decide_eq_true (by kernel_rfl)) (by unfold Func.isWrapper; first | (rw [if_pos (by decide +kernel)]; kernel_rfl) | (rw [if_neg (by decide +kernel)]; exact ⟨rfl, rfl⟩))
    (fun os started H enc _ => lifted os started H enc)

/-- THE STATEMENT -/
theorem proved : Rows.LawS0383AItemsSaid := over
#print axioms proved
end Go.Proofs.Ybulkgxg.lawS0383AItems
