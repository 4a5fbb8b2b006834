import Derived.Test.Qxb6614393aModsLeaf
import Derived.WalkKit
import Derived.WalkSpells
import Derived.WalkSmall
import Derived.Laws.CopyOwn
import Derived.Deep.QuietTactic
import Derived.BigQuiet
namespace Go.Proofs.Qxb6614393aMods
open Go.ChangeShapes Go.WideShapes Go.ChangeAt Go.RowKit
set_option linter.unusedVariables false

/-- The ways that end ahead of the copy. -/
theorem cuts_out (s : ByteArray) (a : Option Addr) (n c : Nat) (i j : Int) (w : World) (hs : s.size ≤ maxLen) (hn : n ≤ maxLen)
    (hbad : ¬ (s.size ≤ 1048576 ∧ (n : Int) ≤ 1048576 - s.size ∧ 0 ≤ i ∧ i ≤ n ∧ 0 ≤ j ∧ j ≤ s.size)) :
    Calls Trym.prog 3 #[.string s, .slice a n c, .int .i64 i, .int .i64 j] w fun e w' => e = .returned (.bool true) ∧ Below w.heap.size w w' := by
  unfold maxLen at hs hn
  go_enter Trym.func3, Trym.ntmps3
  go_wp2_with (first | (go_at_call 5; refine (bytes5_any _ _ _ _ _ _ _ (by unfold maxLen; omega) (by unfold maxLen; omega)).mono ?_; rintro e w' ⟨⟨b, rfl⟩, rfl⟩))
  all_goals (go_ret; exact ⟨rfl, Below.refl _ _⟩)

theorem cuts_nil (s : ByteArray) (j : Nat) (w : World) (hs : s.size ≤ 1048576) (hj : j ≤ s.size) :
    Calls Trym.prog 3 #[.string s, .slice none 0 0, .int .i64 0, .int .i64 j] w fun e w' => e = .returned (.bool true) ∧ Below w.heap.size w w' := by
  have hnn := fun w => run_neq_slice_nil_any (P := Trym.prog) w 22 5 none 0 0 0 0 Trym.underlying22
  have hj' : (j : Int) ≤ (s.size : Int) := by omega
  go_enter Trym.func3, Trym.ntmps3
  go_wp2_with (first | (go_at_call 5; refine (bytes5_any _ _ _ _ _ _ _ (by unfold maxLen; omega) (by unfold maxLen; omega)).mono ?_; rintro e w' ⟨⟨b, rfl⟩, rfl⟩) | (go_at_call 6; refine (weight_any _ _ _ _ _ (by omega) (by omega)).mono ?_; rintro e w' ⟨rfl, rfl⟩))
  · go_ret; exact ⟨rfl, Below.refl _ _⟩
  go_quiet ((go_at_call 6; exact Calls.quiet_of_same (weight_at _ j (by simp; omega) _ _ _ _ (by omega) (by omega))))
  obtain ⟨W, hW⟩ : ∃ W, W = w'.drewN nq := ⟨_, rfl⟩
  rw [← hW]
  have HB : Below w'.heap.size w' W := by rw [hW]; exact below_drewN (Below.refl _ _) _
  clear hW
  go_wp2
  go_quiet ((go_at_call 6; exact Calls.quiet_of_same (weight_at _ (s.size - j) (by simp) _ _ _ _ (by omega) (by omega))))
  have hd : ((s.size - j : Nat) : Int) = (s.size : Int) - (j : Int) := by omega
  go_wp2
  go_ret
  refine ⟨?_, below_drewN HB _⟩
  simp
  all_goals omega

set_option maxHeartbeats 1000000 in
theorem cuts_row (s : ByteArray) (x : Addr) (n c : Nat) (zs : List Int) (i j : Nat) (w : World) (hs : s.size ≤ 1048576) (hn : n ≤ 1048576 - s.size) (hi : i ≤ n) (hj : j ≤ s.size)
    (hnc : n ≤ c) (hz : zs.length = c) (hcell : ∀ i, i < zs.length → w.cell? (x.add i) = some (.int .u8 (zs.getD i 0))) :
    Calls Trym.prog 3 #[.string s, .slice (some x) n c, .int .i64 i, .int .i64 j] w fun e w' => e = .returned (.bool true) ∧ Below w.heap.size w w' := by
  have hnn := fun w => run_neq_slice_nil_any (P := Trym.prog) w 22 5 (some x) n c 0 0 Trym.underlying22
  have hj' : (j : Int) ≤ (s.size : Int) := by omega
  obtain ⟨ti, hti, hz0, hz1, hz2⟩ := info_parts info5
  go_enter Trym.func3, Trym.ntmps3
  go_wp2_with (first | (go_at_call 5; refine (bytes5_any _ _ _ _ _ _ _ (by unfold maxLen; omega) (by unfold maxLen; omega)).mono ?_; rintro e w' ⟨⟨b, rfl⟩, rfl⟩) | (go_at_call 6; refine (weight_any _ _ _ _ _ (by omega) (by omega)).mono ?_; rintro e w3 ⟨rfl, rfl⟩) | (at_make; refine wpList_make_full _ rfl _ _ 22 rfl w'.heap.size 5 ti _ 1 Trym.underlying22 hti hz0 hz1 _ _ _ _ n rfl rfl rfl rfl (by rw [hz2]; omega) (by unfold maxLen; omega) (Nat.le_refl _) ?_; intro w1 hown hgrow; obtain ⟨w2, hrun, hb2, hlt2, hh2⟩ := copy_made _ w1 n c x zs _ hnc hz hcell hown hgrow))
  · go_ret; exact ⟨rfl, Below.refl _ _⟩
  go_quiet ((go_at_call 6; exact Calls.quiet_of_same (weight_at _ j (by simp; omega) _ _ _ _ (by omega) (by omega))))
  obtain ⟨W, hW⟩ : ∃ W, W = w3.drewN nq := ⟨_, rfl⟩
  rw [← hW]
  have HB : Below w'.heap.size w' W := by rw [hW]; exact below_drewN hb2 _
  clear hW
  go_wp2
  go_quiet ((go_at_call 6; exact Calls.quiet_of_same (weight_at _ (s.size - j) (by simp) _ _ _ _ (by omega) (by omega))))
  have hd : ((s.size - j : Nat) : Int) = (s.size : Int) - (j : Int) := by omega
  have hd2 : ((n - i : Nat) : Int) = (n : Int) - (i : Int) := by omega
  go_wp2
  all_goals
    go_ret
    refine ⟨?_, below_drewN HB _⟩
    simp
    all_goals omega
end Go.Proofs.Qxb6614393aMods
