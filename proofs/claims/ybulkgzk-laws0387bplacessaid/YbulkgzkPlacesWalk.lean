/-
  OWN TEXT. The walk of 'rafsv5.LawS0387BPlaces'.
-/
import Derived.Test.YbulkgzkInodes
namespace Go.Proofs.Ybulkgzk.lawS0387BPlaces
open Go.RowKit

/-- Which inode is a directory; its name. -/
def dirOf (Bx : Nat → Bool) (m : Nat) : Nat → Bool
  | 0 => true
  | i + 1 => decide (i < m) && Bx i
def nameOf (Sx : Nat → ByteArray) : Nat → ByteArray
  | 0 => slash
  | i + 1 => Sx i

theorem inodes_alloc {D : Nat → Bool} {Nm : Nat → ByteArray} {total G : Nat} {w : World} (h : InodesAt D Nm total G w) (hG : G < w.heap.size) (o : Obj) : InodesAt D Nm total G (w.alloc o) := fun i hi =>
  ⟨(World.cell?_alloc_past o G _ hG).trans (h i hi).1, (World.cell?_alloc_past o G _ hG).trans (h i hi).2⟩

theorem len_file {D : Nat → Bool} {Nm : Nat → ByteArray} {i : Nat} (h : D i = false) : (placesAt D Nm i).length = 1 := by unfold placesAt; rw [h]; rfl
theorem len_dir {D : Nat → Bool} {Nm : Nat → ByteArray} {i : Nat} (h : D i = true) : (placesAt D Nm i).length = 2 := by unfold placesAt; rw [h]; rfl

theorem info4 : (Yba.prog.info? 4).map (fun i => (i.zero, i.size, i.bytes)) = some (some (.bool false), 1, 1) := by kernel_rfl

theorem made_bool {w : World} {B g k : Nat} (h : w.ownsRow B 4 1 (.slice (some ⟨g, 0, none⟩) k k) k (madeCells (Value.cells (.bool false)) (k * 1)).toList) (j : Nat) (hj : j < k) :
    w.cell? ⟨g, j, none⟩ = some (.bool false) ∧ w.frozen? ⟨g, j, none⟩ = false := by
  refine ⟨?_, h.frozenAt j⟩
  rw [h.cellAt j (by omega)]
  show (madeCells #[.bool false] (k * 1)).toList[j]? = _
  rw [toList_madeCells_one]
  simp [hj]

theorem marks_start (L : List Pl) (s : Nat) {w w' : World} {B k P : Nat} (h : w.ownsRow B 4 1 (.slice (some ⟨P, 0, none⟩) k k) k (madeCells (Value.cells (.bool false)) (k * 1)).toList)
    (h' : w'.ownsRow B 4 1 (.slice (some ⟨w.heap.size, 0, none⟩) k k) k (madeCells (Value.cells (.bool false)) (k * 1)).toList) (hg : w.grownBy w' none) : Marks L s k P w.heap.size 0 w' := by
  have hP := (h.lt P rfl).2
  have h2 := h.kept hg (.inr (by simp [Value.ownBlock]))
  refine ⟨(h2.lt P rfl).2, (h'.lt _ rfl).2, by omega, fun j hj => ?_⟩
  rw [seen_zero, seen_zero]
  exact ⟨(made_bool h2 j hj).1, (made_bool h' j hj).1, (made_bool h2 j hj).2, (made_bool h' j hj).2⟩

theorem size_setCells (b : Nat) : ∀ (cs : List Value) (o : Nat) (w : World), (w.setCells b o cs).heap.size = w.heap.size
  | [], _, _ => rfl
  | v :: r, o, w => by rw [World.setCells, size_setCells b r]; simp

set_option maxRecDepth 100000 in
set_option maxHeartbeats 4000000 in
theorem walk (a0 a1 : Option Addr) (n c0 m c1 : Nat) (Sx : Nat → ByteArray) (Bx : Nat → Bool) (a2 a3 : Int) (w : World) (hmax : n ≤ maxLen) (_hmax1 : m ≤ maxLen) (h20 : 0 ≤ a2) (h21 : a2 ≤ 65535) (h30 : 0 ≤ a3) (h31 : a3 ≤ 65535)
    (hS : StrsAt Sx w a0 n) (hB : BoolsAt Bx w a1 m) (hsz : ∀ i, (Sx i).size ≤ 140737488351232) :
    Calls Yba.prog 5 #[.slice a0 n c0, .slice a1 m c1, .int .u16 a2, .int .u16 a3] w fun e w' => e = .returned (.bool true) ∧ Below w.heap.size w w' := by
  unfold maxLen at hmax _hmax1
  by_cases hbig : n ≤ 256
  · obtain ⟨i0, z0, hi, hz0, hz1, hz2⟩ := info68_parts
    obtain ⟨i4, hi4, hy0, hy1, hy2⟩ := info_parts info4
    have hby : i0.bytes * (n + 1) ≤ 281474976710656 := by rw [hz2]; omega
    have hml : n + 1 ≤ maxLen := by unfold maxLen; omega
    have HS : Hid (StrsAt Sx w a0 n) := hS
    have HB : Hid (BoolsAt Bx w a1 m) := hB
    clear hS hB
    go_enter Yba.func5, Yba.ntmps5
    go_wp2_with (first | (at_make; refine wpList_make_full _ rfl _ _ 63 rfl w.heap.size 68 i0 z0 48 Yba.underlying63 hi hz0 hz1 _ _ _ _ (n + 1) rfl rfl (by omega) (by omega) hby hml (Nat.le_refl _) ?_; intro w1 hown hgrow; have hth := there_made hown; have hp0 : w.heap.size < w1.heap.size := (hown.lt _ rfl).2) | (with_reducible refine at_store_of (t := 68) (x := .tmp 37) (y := .tmp 36) ?_; go_loud (refine wpList_store_mid rfl 68 (.tmp 37) (.tmp 36) rfl w.heap.size 0 (inodeCells 0 1 16877 slash).toArray rfl rfl (there_cells (there_first hth (by omega)) _ _ _ _) (size_cells _ _ _ _) (inodeCells_one _ _ _ _) ?_)) | fail)
    have hbel : Below w.heap.size w w1 := (Below.refl _ _).grown hgrow (Nat.le_refl _) (fun k hk => by cases hk)
    have hF := fill_step (D := dirOf Bx m) (Nm := nameOf Sx) (k := 0) (cs := inodeCells 0 1 16877 slash) hth (fun i hi => by omega) (by omega) rfl rfl rfl
    have hb2 : Below w.heap.size w (w1.setCells w.heap.size 0 (inodeCells 0 1 16877 slash)) := below_setCells (Nat.le_refl _) _ _ _ hbel
    have hp2 : w.heap.size < (w1.setCells w.heap.size 0 (inodeCells 0 1 16877 slash)).heap.size := by rw [size_setCells]; exact hp0
    rw [Nat.zero_mul] at hF
    generalize w1.setCells w.heap.size 0 (inodeCells 0 1 16877 slash) = w2 at hF hb2 hp2 ⊢
    clear hown hgrow hth hbel hp0
    go_loopw [40] (fun t wr => ∃ k : Nat, k ≤ n ∧ t = .int .i64 k ∧ wr.there w.heap.size 0 ((n + 1) * 48) ∧ InodesAt (dirOf Bx m) (nameOf Sx) (k + 1) w.heap.size wr ∧ Below w.heap.size w wr ∧ w.heap.size < wr.heap.size) (fun t _ => n - (intOf t).toNat)
    case atStart => exact ⟨0, Nat.zero_le _, rfl, hF.1, hF.2, hb2, hp2⟩
    case round =>
      obtain ⟨k, hk, rfl, hth, hIk, hbk, hpk⟩ := hrel
      clear hF hb2 hp2
      by_cases hlt : k < n
      · rcases HS.out with h0 | ⟨b, off, rfl, hb, hsc⟩
        · omega
        have g0 : wr.cell? ⟨b, off + k, none⟩ = some (.string (Sx k)) := (hbk.cell (by exact hb)).trans (hsc k hlt)
        clear hsc
        have hta := there_at (k := k + 1) hth (by omega)
        by_cases hkm : k < m
        · rcases HB.out with h0 | ⟨b1, off1, rfl, hb1, hbc⟩
          · omega
          have g1 : wr.cell? ⟨b1, off1 + k, none⟩ = some (.bool (Bx k)) := (hbk.cell (by exact hb1)).trans (hbc k hkm)
          clear hbc
          cases hBk : Bx k
          · have HBk : Hid (Bx k = false) := hBk
            rw [hBk] at g1
            clear hBk
            go_wp2_with (first | (with_reducible refine at_store_of (t := 68) (x := .tmp 64) (y := .tmp 63) ?_; refine wpList_store_mid rfl 68 (.tmp 64) (.tmp 63) rfl w.heap.size ((k + 1) * 48) (inodeCells 1 ((k : Int) + 2) 33188 (Sx k)).toArray rfl rfl (there_cells hta _ _ _ _) (size_cells _ _ _ _) (inodeCells_one _ _ _ _) ?_) | fail)
            have hmd : modeOf (dirOf Bx m (k + 1)) = 33188 := by simp [dirOf, HBk.out, modeOf]
            have hF := fill_step (cs := inodeCells 1 ((k : Int) + 2) 33188 (Sx k)) hth hIk (by omega) rfl (by rw [hmd]; rfl) rfl
            have hb3 := below_setCells (Nat.le_refl w.heap.size) (inodeCells 1 ((k : Int) + 2) 33188 (Sx k)) ((k + 1) * 48) wr hbk
            go_roundw
            case rel => exact ⟨k + 1, by omega, by go_num, hF.1, hF.2, hb3, by rw [size_setCells]; exact hpk⟩
            case measure => simp [intOf]; omega
          · have HBk : Hid (Bx k = true) := hBk
            rw [hBk] at g1
            clear hBk
            go_wp2_with (first | (with_reducible refine at_store_of (t := 68) (x := .tmp 64) (y := .tmp 63) ?_; refine wpList_store_mid rfl 68 (.tmp 64) (.tmp 63) rfl w.heap.size ((k + 1) * 48) (inodeCells 1 ((k : Int) + 2) 16877 (Sx k)).toArray rfl rfl (there_cells hta _ _ _ _) (size_cells _ _ _ _) (inodeCells_one _ _ _ _) ?_) | fail)
            have hmd : modeOf (dirOf Bx m (k + 1)) = 16877 := by simp [dirOf, HBk.out, modeOf, hkm]
            have hF := fill_step (cs := inodeCells 1 ((k : Int) + 2) 16877 (Sx k)) hth hIk (by omega) rfl (by rw [hmd]; rfl) rfl
            have hb3 := below_setCells (Nat.le_refl w.heap.size) (inodeCells 1 ((k : Int) + 2) 16877 (Sx k)) ((k + 1) * 48) wr hbk
            go_roundw
            case rel => exact ⟨k + 1, by omega, by go_num, hF.1, hF.2, hb3, by rw [size_setCells]; exact hpk⟩
            case measure => simp [intOf]; omega
        · have hkm' : decide ((k : Int) < (m : Int)) = false := decide_eq_false (by omega)
          go_wp2_with (first | (with_reducible refine at_store_of (t := 68) (x := .tmp 64) (y := .tmp 63) ?_; refine wpList_store_mid rfl 68 (.tmp 64) (.tmp 63) rfl w.heap.size ((k + 1) * 48) (inodeCells 1 ((k : Int) + 2) 33188 (Sx k)).toArray rfl rfl (there_cells hta _ _ _ _) (size_cells _ _ _ _) (inodeCells_one _ _ _ _) ?_) | fail)
          have hmd : modeOf (dirOf Bx m (k + 1)) = 33188 := by simp [dirOf, modeOf, hkm]
          have hF := fill_step (cs := inodeCells 1 ((k : Int) + 2) 33188 (Sx k)) hth hIk (by omega) rfl (by rw [hmd]; rfl) rfl
          have hb3 := below_setCells (Nat.le_refl w.heap.size) (inodeCells 1 ((k : Int) + 2) 33188 (Sx k)) ((k + 1) * 48) wr hbk
          go_roundw
          case rel => exact ⟨k + 1, by omega, by go_num, hF.1, hF.2, hb3, by rw [size_setCells]; exact hpk⟩
          case measure => simp [intOf]; omega
      · obtain rfl : n = k := by omega
        have hm0 : 0 ≤ a2 % ((n : Int) + 1) := Int.emod_nonneg _ (by omega)
        have hm1 : a2 % ((n : Int) + 1) < (n : Int) + 1 := Int.emod_lt_of_pos _ (by omega)
        obtain ⟨s, hs⟩ : ∃ s : Nat, a2 % ((n : Int) + 1) = s := ⟨(a2 % ((n : Int) + 1)).toNat, by omega⟩
        rw [hs] at hm0 hm1
        have hsn : s ≤ n := by omega
        clear hm0 hm1
        have hm0 : 0 ≤ a3 % ((n : Int) + 1 - ((s : Int) + 1) + 2) := Int.emod_nonneg _ (by omega)
        have hm1 : a3 % ((n : Int) + 1 - ((s : Int) + 1) + 2) < (n : Int) + 1 - ((s : Int) + 1) + 2 := Int.emod_lt_of_pos _ (by omega)
        obtain ⟨q, hq⟩ : ∃ q : Nat, a3 % ((n : Int) + 1 - ((s : Int) + 1) + 2) = q := ⟨(a3 % ((n : Int) + 1 - ((s : Int) + 1) + 2)).toNat, by omega⟩
        rw [hq] at hm0 hm1
        have hqn : s + q ≤ n + 1 := by omega
        clear hm0 hm1
        have hnm : ∀ i, (nameOf Sx i).size ≤ 140737488351232 := fun i => by
          cases i with
          | zero => show slash.size ≤ _; decide
          | succ i => exact hsz i
        clear hth hlt HS HB
        go_wp2_with fail
        refine (places_any (dirOf Bx m) (nameOf Sx) (n + 1) w.heap.size wr.heap.size (wr.heap.size + 1) s q _ hqn (by omega) hnm ?g1 ?g2 ?g3 ?g4 ?g5 ?g6 ?g7).mono ?_
        case g1 => simp; omega
        case g2 => simp; omega
        case g3 => simp
        case g4 => exact inodes_alloc (inodes_alloc hIk hpk _) (by simp; omega) _
        case g5 => go_simp
        case g6 => go_simp
        case g7 => go_simp
        rintro _ w5 ⟨v, L, rfl, hres, hperm, hasc, hb5⟩
        have hbel5 : Below w.heap.size w w5 := ((hbk.alloc (by omega) _).alloc (by simp; omega) _).trans (hb5.mono (by simp; omega))
        have hI5 := inodes_below (inodes_alloc (inodes_alloc hIk hpk _) (by simp; omega) _) hb5 (by simp; omega)
        have hG5 : w.heap.size < w5.heap.size := by have := hb5.size; simp at this; omega
        clear hb5 hIk hbk hpk
        obtain ⟨ao, cap, rfl, hLc⟩ := hres
        have hlen := hperm.length_eq
        have HLEN : Hid (L.length = (placesUpTo (dirOf Bx m) (nameOf Sx) s q).length) := hlen
        have hl6 : L.length ≤ 600 := by have := placesUpTo_le (dirOf Bx m) (nameOf Sx) s q; omega
        clear hlen
        have HP : Hid (L.Perm (placesUpTo (dirOf Bx m) (nameOf Sx) s q)) := hperm
        clear hperm
        go_wp2
        go_loop [19, 20] (fun c t => ∃ j ix cn : Nat, j ≤ q ∧ Hid (ix = s + j) ∧ Hid (cn + j = (placesUpTo (dirOf Bx m) (nameOf Sx) s j).length + q) ∧ cn ≤ 1000 ∧ c = .int .i64 cn ∧ t = .int .i64 ((ix : Int) + 1)) (fun _ t => s + 1 + q - (intOf t).toNat)
        case atStart => exact ⟨0, s, q, Nat.zero_le _, show s = s + 0 by omega, show q + 0 = 0 + q by omega, by omega, by first | rfl | (rw [hq]), rfl⟩
        case round =>
          obtain ⟨j, ix, cn, hj, HX, HC, hcn, rfl, rfl⟩ := hrel
          by_cases hlt : j < q
          · have hix : ix < n + 1 := by have := HX.out; omega
            have hlt' : (ix : Int) + 1 < (s : Int) + 1 + (q : Int) := by have := HX.out; omega
            have g37 := (hI5 ix hix).1
            have hle := placesUpTo_le (dirOf Bx m) (nameOf Sx) s j
            cases hD : dirOf Bx m ix
            · have HD : Hid (dirOf Bx m ix = false) := hD
              rw [hD] at g37
              have g37' : w5.cell? ⟨w.heap.size, ix * 48 + 37, none⟩ = some (.int .u32 33188) := g37
              clear g37 hD
              go_wp2
              go_round
              case rel =>
                obtain rfl := HX.out
                exact ⟨j + 1, s + j + 1, cn, by omega, show s + j + 1 = s + (j + 1) by omega, by have h1 := HC.out; show cn + (j + 1) = _; rw [placesUpTo_succ, List.length_append, len_file HD.out]; omega, by omega, rfl, by go_num⟩
              case measure => have := HX.out; simp [intOf]; omega
            · have HD : Hid (dirOf Bx m ix = true) := hD
              rw [hD] at g37
              have g37' : w5.cell? ⟨w.heap.size, ix * 48 + 37, none⟩ = some (.int .u32 16877) := g37
              clear g37 hD
              have hcn2 : cn ≤ 900 := by have := HC.out; omega
              go_wp2
              go_round
              case rel =>
                obtain rfl := HX.out
                exact ⟨j + 1, s + j + 1, cn + 1, by omega, show s + j + 1 = s + (j + 1) by omega, by have h1 := HC.out; show cn + 1 + (j + 1) = _; rw [placesUpTo_succ, List.length_append, len_dir HD.out]; omega, by omega, by go_num, by go_num⟩
              case measure => have := HX.out; simp [intOf]; omega
          · have hlt' : ¬ (ix : Int) + 1 < (s : Int) + 1 + (q : Int) := by have := HX.out; omega
            obtain rfl : cn = L.length := by
              obtain rfl : j = q := by omega
              have h1 := HC.out
              have h2 := HLEN.out
              omega
            have hqb : i4.bytes * q ≤ 281474976710656 := by rw [hy2]; omega
            have hqm : q ≤ maxLen := by unfold maxLen; omega
            go_wp2_with (first | (at_make; refine wpList_make_full _ rfl (.tmp 113) (.tmp 113) 62 rfl w5.heap.size 4 i4 (.bool false) 1 Yba.underlying62 hi4 hy0 hy1 _ _ _ _ q rfl rfl rfl rfl hqb hqm (Nat.le_refl _) ?_; intro w6 hown6 hgrow6; have hz6 := hgrow6.size) | (at_make; refine wpList_make_full _ rfl (.tmp 115) (.tmp 115) 62 rfl w5.heap.size 4 i4 (.bool false) 1 Yba.underlying62 hi4 hy0 hy1 _ _ _ _ q rfl rfl rfl rfl hqb hqm hz6 ?_; intro w7 hown7 hgrow7) | fail)
            have hM0 := marks_start L s hown6 hown7 hgrow7
            have hb7 : Below w5.heap.size w5 w7 := ((Below.refl _ _).grown hgrow6 (Nat.le_refl _) (fun k hk => by cases hk)).grown hgrow7 hz6 (fun k hk => by cases hk)
            have hU6 : w5.heap.size ≤ w6.heap.size := hz6
            clear hown6 hown7 hgrow6 hgrow7 hz6
            go_loopw [119] (fun t wr => ∃ i : Nat, i ≤ L.length ∧ t = .int .i64 i ∧ Marks L s q w5.heap.size w6.heap.size i wr ∧ Below w5.heap.size w5 wr) (fun t _ => L.length - (intOf t).toNat)
            case atStart => exact ⟨0, Nat.zero_le _, rfl, hM0, hb7⟩
            case round =>
              obtain ⟨i, hi, rfl, hM, hbr⟩ := hrel
              clear hM0 hb7
              by_cases hil : i < L.length
              · rcases hLc with rfl | ⟨g, rfl, hg, hcells⟩
                · simp at hil
                obtain ⟨t, ht, hp⟩ := mem_placesUpTo (HP.out.mem_iff.1 (List.getElem_mem hil))
                obtain ⟨ix, hix⟩ : ∃ ix, ix = s + t := ⟨_, rfl⟩
                rw [← hix] at hp
                have hixn : ix < n + 1 := by omega
                have hjt : (ix : Int) + 1 - ((s : Int) + 1) = (t : Int) := by omega
                have hge : (s : Int) + 1 ≤ (ix : Int) + 1 := by omega
                have hlt3 : (ix : Int) + 1 < (s : Int) + 1 + (q : Int) := by omega
                have HIX : Hid (ix = s + t) := hix
                clear hix
                have g37 := (hbr.cell (p := ⟨w.heap.size, ix * 48 + 37, none⟩) (by exact hG5)).trans (hI5 ix hixn).1
                have g44 := (hbr.cell (p := ⟨w.heap.size, ix * 48 + 44, none⟩) (by exact hG5)).trans (hI5 ix hixn).2
                obtain ⟨d0, d1, d2⟩ := hcells i hil
                have d0' := (hbr.cell (p := ⟨g, i * 3, none⟩) (by exact hg)).trans d0
                have d1' := (hbr.cell (p := ⟨g, i * 3 + 1, none⟩) (by exact hg)).trans d1
                have d2' := (hbr.cell (p := ⟨g, i * 3 + 2, none⟩) (by exact hg)).trans d2
                clear d0 d1 d2
                have hM2 := hM
                obtain ⟨hPl, hUl, hPU, hMc⟩ := hM
                obtain ⟨mp, mu, fp, fu⟩ := hMc t ht
                clear hMc
                have hsn2 := hnm ix
                have hzr := hbr.size
                have hGr : w.heap.size < wr.heap.size := by omega
                have hgr : g < wr.heap.size := by omega
                clear hzr
                have hprev : i = 0 ∨ ∃ i', i = i' + 1 := by cases i with | zero => exact .inl rfl | succ i' => exact .inr ⟨i', rfl⟩
                rcases hp with hp | ⟨hD, hp⟩
                · have hk2 : key2 L[i] = (((s + t : Nat) : Int) + 1, false) := by rw [hp, HIX.out]; rfl
                  rw [seen_now HP.out (nodup_placesUpTo _ _ _ _) hil hk2] at mp
                  have HK2 : Hid (key2 L[i] = (((s + t : Nat) : Int) + 1, false)) := hk2
                  have hkey : L[i].2.2 = nameOf Sx ix := by rw [hp]
                  rw [hp] at d0' d1' d2'
                  clear hk2 hp
                  rcases hprev with rfl | ⟨i', rfl⟩
                  · clear hkey
                    go_wp2
                    go_quiet (fail)
                    go_wp2
                    go_quiet (fail)
                    go_wp2
                    go_roundw
                    case rel => exact ⟨_, hil, by go_num, marks_plain (marks_drewN (marks_alloc hM2 _) _) hil HK2.out, (below_drewN (hbr.alloc (by omega) _) _).setCell (by exact Nat.le_refl _) _⟩
                    case measure => simp [intOf]; omega
                  · have hpk := (hbr.cell (p := ⟨g, i' * 3 + 2, none⟩) (by exact hg)).trans (hcells i' (by omega)).2.2
                    have hgt := not_gtr L[i'].2.2.data.toList L[i' + 1].2.2.data.toList (hasc i' hil)
                    rw [hkey, ← ByteArray.toList_eq, ← ByteArray.toList_eq] at hgt
                    have hi0 : (0 : Int) < (i' : Int) + 1 := by omega
                    have hi1 : (i' : Int) < (L.length : Int) := by omega
                    have hi2 : IntKind.i64.wrap ((i' : Int) + 1 - 1) = (i' : Int) := by rw [IntKind.wrap_i64]; omega
                    clear hkey
                    generalize L[i'].2.2 = kp at hpk hgt
                    go_wp2
                    go_quiet (fail)
                    go_wp2
                    go_quiet (fail)
                    go_wp2
                    go_roundw
                    case rel => exact ⟨_, hil, by go_num, marks_plain (marks_drewN (marks_alloc hM2 _) _) hil HK2.out, (below_drewN (hbr.alloc (by omega) _) _).setCell (by exact Nat.le_refl _) _⟩
                    case measure => simp [intOf]; omega
                · have hk2 : key2 L[i] = (((s + t : Nat) : Int) + 1, true) := by rw [hp, HIX.out]; rfl
                  rw [seen_now HP.out (nodup_placesUpTo _ _ _ _) hil hk2] at mu
                  have HK2 : Hid (key2 L[i] = (((s + t : Nat) : Int) + 1, true)) := hk2
                  have hkey : L[i].2.2 = nameOf Sx ix ++ { data := #[47] } := by rw [hp]; rfl
                  rw [hp] at d0' d1' d2'
                  rw [hD] at g37
                  have g37' : wr.cell? ⟨w.heap.size, ix * 48 + 37, none⟩ = some (.int .u32 16877) := g37
                  have d2'' : wr.cell? ⟨g, i * 3 + 2, none⟩ = some (.string (nameOf Sx ix ++ { data := #[47] })) := d2'
                  clear hk2 hp hD g37 d2'
                  have hcat := fun wx : World => run_string_add_sum (P := Yba.prog) wx (nameOf Sx ix) { data := #[47] } (by show (nameOf Sx ix).size + 1 ≤ _; omega)
                  rcases hprev with rfl | ⟨i', rfl⟩
                  · clear hkey
                    go_wp2
                    go_quiet (fail)
                    go_wp2
                    go_quiet (fail)
                    go_wp2
                    go_roundw
                    case rel => exact ⟨_, hil, by go_num, marks_under (marks_drewN (marks_alloc hM2 _) _) hil HK2.out, (below_drewN (hbr.alloc (by omega) _) _).setCell (by exact hU6) _⟩
                    case measure => simp [intOf]; omega
                  · have hpk := (hbr.cell (p := ⟨g, i' * 3 + 2, none⟩) (by exact hg)).trans (hcells i' (by omega)).2.2
                    have hgt := not_gtr L[i'].2.2.data.toList L[i' + 1].2.2.data.toList (hasc i' hil)
                    rw [hkey, ← ByteArray.toList_eq, ← ByteArray.toList_eq] at hgt
                    have hi0 : (0 : Int) < (i' : Int) + 1 := by omega
                    have hi1 : (i' : Int) < (L.length : Int) := by omega
                    have hi2 : IntKind.i64.wrap ((i' : Int) + 1 - 1) = (i' : Int) := by rw [IntKind.wrap_i64]; omega
                    clear hkey
                    generalize L[i'].2.2 = kp at hpk hgt
                    go_wp2
                    go_quiet (fail)
                    go_wp2
                    go_quiet (fail)
                    go_wp2
                    go_roundw
                    case rel => exact ⟨_, hil, by go_num, marks_under (marks_drewN (marks_alloc hM2 _) _) hil HK2.out, (below_drewN (hbr.alloc (by omega) _) _).setCell (by exact hU6) _⟩
                    case measure => simp [intOf]; omega
              · go_wp2
                go_ret
                exact ⟨rfl, hbel5.trans (hbr.mono (by omega))⟩
  · go_enter Yba.func5, Yba.ntmps5
    go_wp2
    go_ret
    exact ⟨rfl, Below.refl _ _⟩
end Go.Proofs.Ybulkgzk.lawS0387BPlaces
