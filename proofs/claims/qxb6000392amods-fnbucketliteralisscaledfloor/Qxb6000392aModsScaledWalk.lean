import Derived.Test.Qxb6000392aModsLeaf
namespace Go.Proofs.Qxb6000392aMods
open Go.ChangeShapes Go.WideShapes Go.ChangeAt Go.RowKit
set_option linter.unusedVariables false

theorem scaled_out (c m : Int) (w : World) (hbad : ¬ (0 ≤ c ∧ c ≤ 256 ∧ 1 ≤ m ∧ m ≤ 4194304)) :
    Calls Trym.prog 4 #[.int .i64 c, .int .i64 m] w fun e w' => e = .returned (.bool true) ∧ w' = w := by
  go_enter Trym.func4, Trym.ntmps4
  go_wp2_with fail
  all_goals (go_ret; exact ⟨rfl, rfl⟩)

theorem scaled_in (c m : Int) (w : World) (h0 : 0 ≤ c) (h1 : c ≤ 256) (h2 : 1 ≤ m) (h3 : m ≤ 4194304) :
    Calls Trym.prog 4 #[.int .i64 c, .int .i64 m] w fun e w' => e = .returned (.bool true) ∧ w' = w := by
  obtain ⟨hp0, hp1⟩ := mul_bound c m h0 h1 h2 h3
  obtain ⟨f0, f1, f2, f3⟩ := bkt_lit_facts c m h0 h1 h2 h3
  obtain ⟨g0, g1⟩ := bkt_per_facts c m h0 h1 h2 h3
  have cl := fun w => bucket_any 1 c m w h0 h1 h2 h3
  have cp := fun w => bucket_any 0 c m w h0 h1 h2 h3
  have CL : Hid (∀ w, Calls Trym.prog 9 #[.int .i64 1, .int .i64 c, .int .i64 m] w fun e w' => e = .returned (.int .i64 (bkt 1 c m)) ∧ w' = w) := cl
  have CP : Hid (∀ w, Calls Trym.prog 9 #[.int .i64 0, .int .i64 c, .int .i64 m] w fun e w' => e = .returned (.int .i64 (bkt 0 c m)) ∧ w' = w) := cp
  clear cl cp
  generalize bkt 1 c m = q at *
  generalize bkt 0 c m = p at *
  go_enter Trym.func4, Trym.ntmps4
  go_wp2_with fail
  refine (CL.out _).mono ?_
  rintro e w1 ⟨rfl, rfl⟩
  go_wp2_with fail
  refine (CP.out _).mono ?_
  rintro e w2 ⟨rfl, rfl⟩
  clear CL CP
  go_wp2
  all_goals (go_ret; exact ⟨rfl, rfl⟩)
end Go.Proofs.Qxb6000392aMods
