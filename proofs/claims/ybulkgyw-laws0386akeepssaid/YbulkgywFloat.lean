/-
  OWN TEXT. Floats as the seat's laws use them: what '+' and '-' give, valid or not; what a NaN is; 'math.IsNaN', 'math.Float64bits', 'zzs0386asame' by their contracts.
-/
import Derived.Test.YbulkgywRows
import Derived.WalkKit
import Derived.WalkSpells
import Derived.WalkLawsBesides
import Derived.Laws.FloatArith
import Derived.Laws.NewFold
namespace Go.Proofs.Ybulkgyw
open Go.RowKit

/-- What 'math.IsNaN' answers. -/
def nanB (a : Nat) : Bool := FloatKind.f64.format.order a a != some .eq

/-- The word reads as a NaN. -/
def NaNR (a : Nat) : Prop := ∃ s t, FloatKind.f64.format.read a = .nan s t

theorem nanB_of {a : Nat} (h : NaNR a) : nanB a = true := by
  obtain ⟨s, t, h⟩ := h
  unfold nanB Ieee.Format.order
  rw [h]
  rfl

theorem sum_nan_right (d : Ieee.Datum) (s : Bool) (t : Nat) : Ieee.Datum.sum d (.nan s t) = none := by cases d <;> rfl

/-- A NaN added to whatever: no valid answer. -/
theorem add_nan {x d : Nat} (h : NaNR d) : floatBits .add .f64 x d = none := by
  obtain ⟨s, t, h⟩ := h
  unfold floatBits Ieee.Format.add
  simp only [h, sum_nan_right, Option.map_none]

/-- The NaN that the tape gives in the world w. -/
def nanAt (x y : Nat) (w : World) : Nat := (Question.nanBits .f64 x y).cut (w.tape w.drawn (.nanBits .f64 x y))

theorem nanR_cut (x y t : Nat) : NaNR ((Question.nanBits .f64 x y).cut t) := by
  show NaNR ((t % 2) * 2 ^ 63 + 0x7ff0000000000000 + 1 + (t / 2) % (2 ^ 52 - 1))
  have hs : FloatKind.f64.format.signWeight = 9223372036854775808 := by decide
  have hb : FloatKind.f64.format.binade = 4503599627370496 := by decide
  have hi : FloatKind.f64.format.infRung = 9218868437227405312 := by decide
  generalize hu : (t / 2) % (2 ^ 52 - 1) = u
  have hul : u < 4503599627370495 := by omega
  have hv : t % 2 < 2 := by omega
  generalize t % 2 = v at hv
  unfold NaNR Ieee.Format.read
  simp only [hs, hb, hi]
  have e : (v * 2 ^ 63 + 9218868437227405312 + 1 + u) % 9223372036854775808 = 9218868437227405313 + u := by omega
  rw [e, if_neg (by omega), if_neg (by omega), if_neg (by omega)]
  exact ⟨_, _, rfl⟩

theorem nanR_at (x y : Nat) (w : World) : NaNR (nanAt x y w) := nanR_cut x y _

section
variable {P : Program} (w : World)
theorem run_add_nan (t : TypeId) (x y : Nat) (h : floatBits .add .f64 x y = none) : (binOp .add t (.float .f64 x) (.float .f64 y)).run P w = .ok (.float .f64 (nanAt x y w)) w.drew := by
  unfold floatBits at h
  simp only at h
  simp [binOp, Op.floatArith, h, Question.forced, nanAt]
theorem run_sub_nan (t : TypeId) (x y : Nat) (h : floatBits .sub .f64 x y = none) : (binOp .sub t (.float .f64 x) (.float .f64 y)).run P w = .ok (.float .f64 (nanAt x y w)) w.drew := by
  unfold floatBits at h
  simp only at h
  simp [binOp, Op.floatArith, h, Question.forced, nanAt]
end

/-- WHAT '+' OR '-' GIVES: the valid answer, or some NaN. -/
def Gives (op : BinOp) (x y r : Nat) : Prop := floatBits op .f64 x y = some r ∨ (floatBits op .f64 x y = none ∧ NaNR r)

/-- What 'zzs0386asame' holds for: both NaN, or the same word. -/
def Alik (a b : Nat) : Prop := (NaNR a ∧ NaNR b) ∨ a = b

theorem gives_one {op : BinOp} {x y r s : Nat} (h : Gives op x y r) (k : Gives op x y s) : Alik r s := by
  rcases h with h | ⟨h, hn⟩ <;> rcases k with k | ⟨k, kn⟩
  · rw [h] at k; exact .inr (Option.some.inj k)
  · rw [h] at k; cases k
  · rw [h] at k; cases k
  · exact .inl ⟨hn, kn⟩

/-- 'x + (c - o)' reckoned twice: alike. -/
theorem sums_alike {x c o d e r s : Nat} (hd : Gives .sub c o d) (he : Gives .sub c o e) (hr : Gives .add x d r) (hs : Gives .add x e s) : Alik r s := by
  rcases gives_one hd he with ⟨nd, ne⟩ | rfl
  · rcases hr with h | ⟨_, hn⟩
    · rw [add_nan nd] at h; cases h
    · rcases hs with k | ⟨_, kn⟩
      · rw [add_nan ne] at k; cases k
      · exact .inl ⟨hn, kn⟩
  · exact gives_one hr hs

theorem nan_any (a : Nat) (w : World) : Calls Yba.prog 7 #[.float .f64 a] w fun e w' => e = .returned (.bool (nanB a)) ∧ w' = w := by
  go_enter Yba.func7, Yba.ntmps7
  go_wp2
  go_ret
  exact ⟨rfl, rfl⟩

theorem bits_run (a : Nat) (w : World) : (callFunc 8 #[.float .f64 a]).run Yba.prog w = .ok (.value (.int .u64 a)) w := by kernel_rfl

set_option maxHeartbeats 400000 in
theorem same_any (a b : Nat) (h : Alik a b) (w : World) : Calls Yba.prog 6 #[.float .f64 a, .float .f64 b] w fun e w' => e = .returned (.bool true) ∧ w' = w := by
  have hb := bits_run
  by_cases hn : nanB a = true
  · have hm : nanB b = true := by
      rcases h with ⟨_, h⟩ | rfl
      · exact nanB_of h
      · exact hn
    go_enter Yba.func6, Yba.ntmps6
    go_wp2_with (first | (go_at_call 7; refine (nan_any _ _).mono ?_; rintro e w' ⟨rfl, rfl⟩) | fail)
    go_ret
    exact ⟨rfl, rfl⟩
  · have hn' : nanB a = false := by simpa using hn
    obtain rfl : a = b := by
      rcases h with ⟨h, _⟩ | h
      · exact absurd (nanB_of h) hn
      · exact h
    clear hn
    go_enter Yba.func6, Yba.ntmps6
    go_wp2_with (first | (go_at_call 7; refine (nan_any _ _).mono ?_; rintro e w' ⟨rfl, rfl⟩) | fail)
    go_ret
    exact ⟨rfl, rfl⟩
end Go.Proofs.Ybulkgyw
