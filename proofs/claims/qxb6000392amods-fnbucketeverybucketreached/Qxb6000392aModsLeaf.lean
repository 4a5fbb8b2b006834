/-
  The bucket of a rule (functions 9 and 12), and its arithmetic.
-/
import Derived.Test.Qxb6000392aModsRows
import Derived.WalkKit
import Derived.ProofKit
import Derived.WalkSpells
import Derived.WalkSmall
namespace Go.Proofs.Qxb6000392aMods
open Go.ChangeShapes Go.WideShapes Go.ChangeAt Go.RowKit
set_option linter.unusedVariables false

theorem mul_bound (c m : Int) (h0 : 0 ≤ c) (h1 : c ≤ 256) (h2 : 1 ≤ m) (h3 : m ≤ 4194304) : 0 ≤ c * m ∧ c * m ≤ 1073741824 := by
  constructor
  · exact Int.mul_nonneg h0 (by omega)
  · have := Int.mul_le_mul h1 h3 (by omega) (by omega)
    omega

/-- What the bucket is. -/
def bkt (r c m : Int) : Int := if r = 1 then min (c * m / 256) (m - 1) else min c (m - 1)

theorem bkt_lit_facts (c m : Int) (h0 : 0 ≤ c) (h1 : c ≤ 256) (h2 : 1 ≤ m) (h3 : m ≤ 4194304) :
    0 ≤ bkt 1 c m ∧ bkt 1 c m ≤ m - 1 ∧ bkt 1 c m * 256 ≤ c * m ∧ (bkt 1 c m = m - 1 ∨ c * m < (bkt 1 c m + 1) * 256) := by
  obtain ⟨hp0, hp1⟩ := mul_bound c m h0 h1 h2 h3
  unfold bkt
  rw [if_pos rfl]
  omega

theorem bkt_per_facts (c m : Int) (h0 : 0 ≤ c) (h1 : c ≤ 256) (h2 : 1 ≤ m) (h3 : m ≤ 4194304) :
    (m ≤ 256 → bkt 1 c m ≤ bkt 0 c m) ∧ (m = 256 → bkt 1 c m = bkt 0 c m) := by
  obtain ⟨hp0, hp1⟩ := mul_bound c m h0 h1 h2 h3
  unfold bkt
  rw [if_pos rfl, if_neg (by omega)]
  refine ⟨fun hm => ?_, fun hm => ?_⟩
  · have := Int.mul_le_mul_of_nonneg_left hm h0
    omega
  · subst hm
    omega

theorem bucket_any (r c m : Int) (w : World) (h0 : 0 ≤ c) (h1 : c ≤ 256) (h2 : 1 ≤ m) (h3 : m ≤ 4194304) :
    Calls Trym.prog 9 #[.int .i64 r, .int .i64 c, .int .i64 m] w fun e w' => e = .returned (.int .i64 (bkt r c m)) ∧ w' = w := by
  obtain ⟨hp0, hp1⟩ := mul_bound c m h0 h1 h2 h3
  by_cases hr : r = 1
  · subst hr
    unfold bkt
    rw [if_pos rfl]
    go_enter Trym.func9, Trym.ntmps9
    go_wp2
    · go_ret
      exact ⟨congrArg (fun z => Ending.returned (Value.int .i64 z)) (by show m - 1 = _; omega), rfl⟩
    · go_ret
      exact ⟨congrArg (fun z => Ending.returned (Value.int .i64 z)) (by show c * m / 256 = _; omega), rfl⟩
  · unfold bkt
    rw [if_neg hr]
    have hr' : (r == 1) = false := by simpa using hr
    go_enter Trym.func9, Trym.ntmps9
    go_wp2
    · go_ret
      exact ⟨congrArg (fun z => Ending.returned (Value.int .i64 z)) (by show m - 1 = _; omega), rfl⟩
    · go_ret
      exact ⟨congrArg (fun z => Ending.returned (Value.int .i64 z)) (by show c = _; omega), rfl⟩

end Go.Proofs.Qxb6000392aMods
