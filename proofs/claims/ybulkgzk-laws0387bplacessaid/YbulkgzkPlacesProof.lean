/-
  OWN TEXT. 'Rows.LawS0387BPlacesSaid': the row.
-/
import Derived.Test.YbulkgzkPlacesWalk
import Derived.ProofKit
import Derived.OpenShut
import Derived.ShutString
import Derived.ChangeOld
import Derived.Below
import Derived.SizedLaws
import Derived.Deep.Strs
namespace Go.Proofs.Ybulkgzk.lawS0387BPlaces
open Go.ChangeShapes Go.WideShapes Go.ChangeAt Go.RowKit

theorem own : ownKnob Yba.prog.godebug = none := by kernel_rfl
theorem laidOut : laidOutB Yba.prog = true := by kernel_rfl

theorem mem_weightsAll {H : Type} {P : Program} {e : TypeId} {d : DataW H} {n : Nat} (hn : n ∈ d.weights P e) : ∀ {l : List (DataW H)}, d ∈ l → n ∈ DataW.weightsAll P e l
  | x :: r, h => by
    rw [DataW.weightsAll, List.mem_append]
    rcases List.mem_cons.1 h with rfl | h
    · exact .inl hn
    · exact .inr (mem_weightsAll hn h)

/-- A slice of strings that came in, as the walk wants it. -/
theorem open_names {H : Type} {enc : TypeId × Value → H} {W : World} {fuel : Nat} {a0 : Option Addr} {len cap : Nat} {x : DataW H × List MemPlace}
    (h : DataW.trod enc Yba.prog W 0 (fun _ => true) true fuel 61 [.slice a0 len cap] = some x) (hsz : ∀ n ∈ x.1.weights Yba.prog 61, n ≤ reachBytes) :
    len ≤ maxLen ∧ ∃ Sx, StrsAt Sx W a0 len ∧ ∀ i, (Sx i).size ≤ 140737488351232 := by
  rcases Deep.open_strs Yba.underlying61 Yba.underlying9 (by kernel_rfl) h with ⟨hcs, _⟩ | ⟨a, l, c, m, Sx, hcs, _, hl, hm, hmm, hx, hc⟩
  · simp at hcs
    obtain ⟨rfl, rfl, rfl⟩ := hcs
    exact ⟨Nat.zero_le _, fun _ => ByteArray.empty, .inl rfl, fun _ => by show 0 ≤ _; omega⟩
  · simp at hcs
    obtain ⟨rfl, rfl, rfl⟩ := hcs
    simp only [if_true] at hmm
    refine ⟨Nat.le_trans hl hm, fun i => if i < len then Sx i else ByteArray.empty, ?_, fun i => ?_⟩
    · by_cases h0 : len = 0
      · exact .inl h0
      · obtain ⟨b, off, spot⟩ := a
        have hc0 := (hc 0 (by omega)).1
        have hspot : spot = none := by simpa [Addr.add] using World.cell?_spot hc0
        subst hspot
        refine .inr ⟨b, off, rfl, by simpa [Addr.add] using World.block_lt_of_cell? W _ hc0, fun i hi => ?_⟩
        have := (hc i (by omega)).1
        rw [add_plain] at this
        simp only [hi, if_true]
        exact this
    · show (if i < len then Sx i else ByteArray.empty).size ≤ _
      by_cases hi : i < len
      · rw [if_pos hi]
        have := hsz (Sx i).data.toList.length (by
          rw [hx]
          simp only [DataW.weights, Yba.underlying61, List.mem_cons, List.mem_append]
          exact .inr (.inl (mem_weightsAll (d := .lit (.string (Sx i).data.toList)) (by simp [DataW.weights]) (List.mem_map.2 ⟨i, by simpa using hi, rfl⟩))))
        simp only [reachBytes, Array.length_toList] at this
        exact this
      · rw [if_neg hi]; show 0 ≤ _; omega

/-- A slice of bools that came in. -/
theorem open_flags {H : Type} {enc : TypeId × Value → H} {W : World} {fuel : Nat} {a0 : Option Addr} {len cap : Nat} {x : DataW H × List MemPlace}
    (h : DataW.trod enc Yba.prog W 0 (fun _ => true) true fuel 62 [.slice a0 len cap] = some x) : len ≤ maxLen ∧ ∃ Bx, BoolsAt Bx W a0 len := by
  rcases Deep.open_slice1 Yba.underlying62 (by kernel_rfl) h with ⟨hcs, _⟩ | ⟨a, l, c, m, f, V, D, Pl, hcs, _, hl, hm, hmm, _, hc⟩
  · simp at hcs
    obtain ⟨rfl, rfl, rfl⟩ := hcs
    exact ⟨Nat.zero_le _, fun _ => false, .inl rfl⟩
  · simp at hcs
    obtain ⟨rfl, rfl, rfl⟩ := hcs
    simp only [if_true] at hmm
    refine ⟨Nat.le_trans hl hm, ?_⟩
    obtain ⟨Bx, hBx⟩ := Deep.choose_lt (n := len) (p := fun i b => V i = .bool b) (fun i hi => by
      obtain ⟨b, hb, _⟩ := DataW.trod_bool Yba.underlying4 (hc i (by omega)).2
      exact ⟨b, by simpa using hb⟩)
    refine ⟨Bx, ?_⟩
    by_cases h0 : len = 0
    · exact .inl h0
    · obtain ⟨b, off, spot⟩ := a
      have hc0 := (hc 0 (by omega)).1
      have hspot : spot = none := by simpa [Addr.add] using World.cell?_spot hc0
      subst hspot
      refine .inr ⟨b, off, rfl, by simpa [Addr.add] using World.block_lt_of_cell? W _ hc0, fun i hi => ?_⟩
      have := (hc i (by omega)).1
      rw [add_plain, hBx i hi] at this
      exact this

set_option maxRecDepth 100000 in
theorem lifted (os : Os) (started : os.Started) (H : Type) (enc : TypeId × Value → H) :
    ReturnsInHanded {} Yba.checked os 5 .any (Rows.lawS0387BPlacesSpec.pre6 enc Yba.prog Yba.f5 Rows.lawS0387BPlacesRow.domain false) (Rows.lawS0387BPlacesSpec.post enc Yba.prog Yba.f5 false true false false) := by
  refine returnsInHanded_of_change_sized (C := Yba.checked) own started (by kernel_rfl) Yba.func5
    (ChangeSpec.witness6 (enc := enc) (C := Yba.checked) false ⟨#[], #[.slice none 0 0, .slice none 0 0, .int .u16 0, .int .u16 0], []⟩ 8 (by kernel_rfl) (by kernel_rfl) (by kernel_rfl) (by kernel_rfl)) ?_
  intro W base args ds gs before hval0 hW hcnd hsz0 _
  have hval : ∀ (j : Nat) t v, Yba.f5.params[j]? = some t → args[j]? = some v → Value.okWide Yba.prog W .any base t v := hval0
  have hsz : (DataW.weightsEach Yba.prog (Yba.f5.params.toList ++ Rows.lawS0387BPlacesSpec.plain.varTypes Yba.prog) (ds ++ gs)).all (· ≤ reachBytes) = true := hsz0
  have hW' := hW
  obtain ⟨p, q, hA0, hV, rfl, hfz, hnd⟩ := hW
  have hA : DataW.TrodAll enc Yba.prog W 0 (fun _ => true) true Yba.f5.params.toList args.toList ds p := hA0
  rw [Yba.params5] at hA hval hsz
  obtain ⟨v0, vs0, d0, ds0, p0, q0, hargs, rfl, rfl, h0, r0⟩ := trodAll_cons hA
  obtain ⟨v1, vs1, d1, ds1, p1, q1, rfl, rfl, rfl, h1, r1⟩ := trodAll_cons r0
  obtain ⟨v2, vs2, d2, ds2, p2, q2, rfl, rfl, rfl, h2, r2⟩ := trodAll_cons r1
  obtain ⟨v3, vs3, d3, ds3, p3, q3, rfl, rfl, rfl, h3, r3⟩ := trodAll_cons r2
  obtain ⟨rfl, rfl, rfl⟩ := trodAll_nil r3
  obtain rfl : args = #[v0, v1, v2, v3] := by cases args; simp_all
  obtain ⟨rfl, rfl⟩ := trodVars_none hV
  obtain ⟨a0, len0, cap0, rfl⟩ := okWide_slice Yba.underlying61 (hval 0 61 v0 rfl rfl)
  obtain ⟨a1, len1, cap1, rfl⟩ := okWide_slice Yba.underlying62 (hval 1 62 v1 rfl rfl)
  obtain ⟨a2, rfl, rfl, rfl, w2⟩ := open_int Yba.underlying23 (hval 2 23 v2 rfl rfl) h2
  obtain ⟨a3, rfl, rfl, rfl, w3⟩ := open_int Yba.underlying23 (hval 3 23 v3 rfl rfl) h3
  have k0 := h0
  have k1 := h1
  have lt0 : ∀ x ∈ p0, x.block < W.heap.size := by obtain ⟨m, hm⟩ := k0; exact DataW.trod_lt m _ _ _ hm
  have lt1 : ∀ x ∈ p1, x.block < W.heap.size := by obtain ⟨m, hm⟩ := k1; exact DataW.trod_lt m _ _ _ hm
  obtain ⟨hml0, Sx, hS, hSz⟩ : len0 ≤ maxLen ∧ ∃ Sx, StrsAt Sx W a0 len0 ∧ ∀ i, (Sx i).size ≤ 140737488351232 := by
    obtain ⟨fuel, hf⟩ := h0
    exact open_names (x := (d0, p0)) (by simpa [Value.cells] using hf) (fun n hn => by
      have := List.all_eq_true.1 hsz _ (DataW.weights_mem_each (j := 0) (t := 61) (d := d0) rfl rfl n hn)
      simpa using this)
  obtain ⟨hml1, Bx, hB⟩ : len1 ≤ maxLen ∧ ∃ Bx, BoolsAt Bx W a1 len1 := by
    obtain ⟨fuel, hf⟩ := h1
    exact open_flags (by simpa [Value.cells] using hf)
  clear hA0 hval0
  have b2 := bounds_u16 w2
  have b3 := bounds_u16 w3
  refine (walk a0 a1 len0 cap0 len1 cap1 Sx Bx a2 a3 W hml0 hml1 b2.1 b2.2 b3.1 b3.2 hS hB hSz).mono fun e W' ⟨he, bel⟩ => ?_
  subst he
  exact ⟨_, rfl, _, _, _, [], _, [], hW', trodAll_mk1 (shut_bool Yba.underlying4 _), (trodAll_cons_mk (Below.trod laidOut (by kernel_rfl) (of_decide_eq_true (by kernel_rfl)) k0 bel lt0) (trodAll_cons_mk (Below.trod laidOut (by kernel_rfl) (of_decide_eq_true (by kernel_rfl)) k1 bel lt1) (trodAll_cons_mk (shut_int Yba.underlying23 w2) (trodAll_cons_mk (shut_int Yba.underlying23 w3) trodAll_mk0)))), rfl, bel.frame _, fun h => by cases h⟩

theorem over : Rows.lawS0387BPlacesRow.holds Yba.pinned (OpenSpec.ofChange Rows.lawS0387BPlacesSpec) :=
  OpenClaim.holds_of_wide 5 Yba.f5 rfl rfl rfl rfl rfl rfl rfl ⟨rfl, rfl, rfl, rfl, rfl⟩ rfl rfl rfl rfl rfl (by kernel_rfl) Yba.func5 (by kernel_rfl)
    (of_decide_eq_true (by kernel_rfl)) (by unfold Func.isWrapper; first | (rw [if_pos (by decide +kernel)]; kernel_rfl) | (rw [if_neg (by decide +kernel)]; exact ⟨rfl, rfl⟩))
    (fun os started H enc _ => lifted os started H enc)

/-- THE STATEMENT -/
theorem proved : Rows.LawS0387BPlacesSaid := over
#print axioms proved
end Go.Proofs.Ybulkgzk.lawS0387BPlaces
