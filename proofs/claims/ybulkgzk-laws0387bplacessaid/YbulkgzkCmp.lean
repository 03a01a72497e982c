/-
  OWN TEXT. 'strings.Compare' and the closure of '(*Bootstrap).places' by their contracts; the order of the keys.
-/
import Derived.Test.YbulkgzkRows
import Derived.WalkKit
import Derived.WalkSpells
import Derived.WalkLawsBesides
import Derived.Lib.Bytealg
import Derived.Shelf.SlSortCmp.InsertionK
namespace Go.Proofs.Ybulkgzk
open Go.RowKit
open Go.Sort (grow alloc_eq_grow grow_grow SWO)

theorem run_cmpstring (a b : ByteArray) (w : World) : (callFunc 49 #[.string a, .string b]).run Yba.prog w = .ok (.value (.int .i64 (Lib.compareBytes a.data.toList b.data.toList))) w := by
  rw [run_callFunc_extern Yba.func49 (by kernel_rfl) (by kernel_rfl) (by kernel_rfl) (e := Extern.BytealgCompare.compare) (by kernel_rfl), Lib.run_compareString]
  rfl

set_option maxHeartbeats 400000 in
theorem compareString_any (a b : ByteArray) (w : World) : Calls Yba.prog 31 #[.string a, .string b] w fun e w' => e = .returned (.int .i64 (Lib.compareBytes a.data.toList b.data.toList)) ∧ w' = w := by
  have hc := run_cmpstring a b
  go_enter Yba.func31, Yba.ntmps31
  go_wp2
  go_ret
  exact ⟨rfl, rfl⟩

set_option maxHeartbeats 400000 in
theorem compare_any (a b : ByteArray) (w : World) : Calls Yba.prog 21 #[.string a, .string b] w fun e w' => e = .returned (.int .i64 (Lib.compareBytes a.data.toList b.data.toList)) ∧ w' = w := by
  go_enter Yba.func21, Yba.ntmps21
  go_wp2_with (go_at_call 31; refine (compareString_any _ _ _).mono ?_; rintro e w' ⟨rfl, rfl⟩)
  go_ret
  exact ⟨rfl, rfl⟩

/-- A place as plain data: the inode's number, under, the key. -/
abbrev Pl : Type := Int × Bool × ByteArray

/-- A place's three cells. -/
def encPl (x : Pl) : List Value := [.int .u64 x.1, .bool x.2.1, .string x.2.2]

/-- What the closure answers. -/
def cfPl (x y : Pl) : Int := Lib.compareBytes x.2.2.data.toList y.2.2.data.toList

set_option maxHeartbeats 1000000 in
/-- The closure: in whatever world; two blocks are laid. -/
theorem closure_any (x y : Pl) (W : World) : Calls Yba.prog 20 #[.agg #[.int .u64 x.1, .bool x.2.1, .string x.2.2], .agg #[.int .u64 y.1, .bool y.2.1, .string y.2.2]] W fun e w' => e = .returned (.int .i64 (cfPl x y)) ∧ ∃ q os', w' = grow (W.drewN q) os' := by
  have hcon := fun W' => compare_any x.2.2 y.2.2 W'
  unfold cfPl
  generalize Lib.compareBytes x.2.2.data.toList y.2.2.data.toList = r at hcon ⊢
  go_enter Yba.func20, Yba.ntmps20
  go_wp2_with (go_at_call 21; refine (hcon _).mono ?_; rintro e w' ⟨rfl, rfl⟩)
  go_ret
  exact ⟨rfl, 0, _, by rw [alloc_eq_grow, alloc_eq_grow, grow_grow]; rfl⟩

theorem cmpLays (blk off size : Nat) (w : World) : CmpLays Yba.prog 20 #[] encPl 3 cfPl blk off size w :=
  fun _ _ _ _ x y => closure_any x y _

/-! The order of byte strings. -/
theorem cmp_self : ∀ a : List UInt8, Lib.compareBytes a a = 0
  | [] => rfl
  | a :: xs => by
    have h : ¬ a < a := by simp
    rw [Lib.compareBytes, if_neg h, if_neg h, cmp_self xs]

theorem cmp_trans : ∀ a b c : List UInt8, Lib.compareBytes a b < 0 → Lib.compareBytes b c < 0 → Lib.compareBytes a c < 0
  | [], [], _, h, _ => by simp [Lib.compareBytes] at h
  | [], _ :: _, [], _, h => by simp [Lib.compareBytes] at h
  | [], _ :: _, _ :: _, _, _ => by simp [Lib.compareBytes]
  | _ :: _, [], _, h, _ => by simp [Lib.compareBytes] at h
  | _ :: _, _ :: _, [], _, h => by simp [Lib.compareBytes] at h
  | a :: xs, b :: ys, c :: zs, h, k => by
    simp only [Lib.compareBytes, UInt8.lt_iff_toNat_lt] at h k ⊢
    by_cases h1 : a.toNat < b.toNat
    · by_cases k1 : b.toNat < c.toNat
      · rw [if_pos (by omega)]; decide
      · rw [if_neg k1] at k
        by_cases k2 : c.toNat < b.toNat
        · rw [if_pos k2] at k; simp at k
        · rw [if_pos (by omega)]; decide
    · rw [if_neg h1] at h
      by_cases h2 : b.toNat < a.toNat
      · rw [if_pos h2] at h; simp at h
      · rw [if_neg h2] at h
        by_cases k1 : b.toNat < c.toNat
        · rw [if_pos (by omega)]; decide
        · rw [if_neg k1] at k
          by_cases k2 : c.toNat < b.toNat
          · rw [if_pos k2] at k; simp at k
          · rw [if_neg k2] at k
            rw [if_neg (by omega), if_neg (by omega)]
            exact cmp_trans xs ys zs h k

theorem cmp_ntrans : ∀ a b c : List UInt8, ¬ Lib.compareBytes a b < 0 → ¬ Lib.compareBytes b c < 0 → ¬ Lib.compareBytes a c < 0
  | [], [], _, _, k => k
  | [], _ :: _, _, h, _ => by simp [Lib.compareBytes] at h
  | _ :: _, [], [], _, _ => by simp [Lib.compareBytes]
  | _ :: _, [], _ :: _, _, k => by simp [Lib.compareBytes] at k
  | _ :: _, _ :: _, [], _, _ => by simp [Lib.compareBytes]
  | a :: xs, b :: ys, c :: zs, h, k => by
    simp only [Lib.compareBytes, UInt8.lt_iff_toNat_lt] at h k ⊢
    by_cases h1 : a.toNat < b.toNat
    · rw [if_pos h1] at h; simp at h
    · rw [if_neg h1] at h
      by_cases k1 : b.toNat < c.toNat
      · rw [if_pos k1] at k; simp at k
      · rw [if_neg k1] at k
        by_cases h2 : b.toNat < a.toNat
        · rw [if_neg (by omega), if_pos (by omega)]; decide
        · rw [if_neg h2] at h
          by_cases k2 : c.toNat < b.toNat
          · rw [if_neg (by omega), if_pos (by omega)]; decide
          · rw [if_neg k2] at k
            rw [if_neg (by omega), if_neg (by omega)]
            exact cmp_ntrans xs ys zs h k

theorem swoPl : SWO (ltOf cfPl) where
  irrefl x := by simp [ltOf, cfPl, cmp_self]
  trans _ _ _ h1 h2 := decide_eq_true (cmp_trans _ _ _ (of_decide_eq_true h1) (of_decide_eq_true h2))
  ntrans _ _ _ h1 h2 := decide_eq_false (cmp_ntrans _ _ _ (of_decide_eq_false h1) (of_decide_eq_false h2))

/-- 'y is not less than x': Go's 'x > y' says no. -/
theorem not_gtr : ∀ a b : List UInt8, ¬ Lib.compareBytes b a < 0 → (Op.bytesLess a b || a == b) = true
  | [], [], _ => rfl
  | [], _ :: _, _ => rfl
  | _ :: _, [], h => by simp [Lib.compareBytes] at h
  | a :: xs, b :: ys, h => by
    simp only [Lib.compareBytes, UInt8.lt_iff_toNat_lt] at h
    by_cases h1 : b.toNat < a.toNat
    · rw [if_pos h1] at h; simp at h
    · rw [if_neg h1] at h
      by_cases h2 : a.toNat < b.toNat
      · simp [Op.bytesLess, UInt8.lt_iff_toNat_lt, h2]
      · rw [if_neg h2] at h
        obtain rfl : a = b := UInt8.toNat_inj.1 (by omega)
        have ih := not_gtr xs ys h
        simp [Op.bytesLess] at ih ⊢
        exact ih

end Go.Proofs.Ybulkgzk
