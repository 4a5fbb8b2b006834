import Derived.Test.Qxb6000430aModsMem
namespace Go.Proofs.Qxb6000430aMods
open Go.ChangeShapes Go.WideShapes Go.ChangeAt Go.RowKit
set_option linter.unusedVariables false

theorem bytes21_any (a b : Option Addr) (n c m d : Nat) (q : Int) (w : World) (hn : n ≤ maxLen) (hm : m ≤ maxLen) :
    Calls Trym.prog 21 #[.slice a n c, .slice b m d, .int .u32 q] w fun e w' => (∃ b, e = .returned (.bool b)) ∧ w' = w := by
  unfold maxLen at hn hm
  go_enter Trym.func21, Trym.ntmps21
  go_wp2
  all_goals (go_ret; exact ⟨⟨_, rfl⟩, rfl⟩)

theorem clone_nil (w : World) : Calls Trym.prog 22 #[.slice none 0 0] w fun e w' => e = .returned (.slice none 0 0) ∧ w' = w := by
  have hnn := fun w => Lib.run_eql_slice_nil (P := Trym.prog) w 37 38 none 0 0 0 0 Trym.underlying37
  go_enter Trym.func22, Trym.ntmps22
  go_wp2
  go_ret
  exact ⟨rfl, rfl⟩

set_option maxHeartbeats 1000000 in
theorem clone_row (b off n c : Nat) (f : Nat → Nat) (w : World) (hn : n ≤ 65536) (hcell : ∀ j, j < n → w.cell? ⟨b, off + j, none⟩ = some (.int .u32 (f j))) :
    Calls Trym.prog 22 #[.slice (some ⟨b, off, none⟩) n c] w fun e w' => e = .returned (.slice (some ⟨w.heap.size, 0, none⟩) n n) ∧ Ints w' .u32 w.heap.size n f ∧ Below w.heap.size w w' := by
  have hnn := fun w => Lib.run_eql_slice_nil (P := Trym.prog) w 37 38 (some ⟨b, off, none⟩) n c 0 0 Trym.underlying37
  obtain ⟨ti, hti, hz0, hz1, hz2⟩ := info_parts info38
  go_enter Trym.func22, Trym.ntmps22
  go_wp2_with (at_make; refine wpList_make_full _ rfl _ _ 37 rfl w.heap.size 38 ti _ 1 Trym.underlying37 hti hz0 hz1 _ _ _ _ n rfl rfl rfl rfl (by rw [hz2]; omega) (by unfold maxLen; omega) (Nat.le_refl _) ?_; intro w1 hown hgrow; have hi1 := ints_made hown; have hb1 : Below w.heap.size w w1 := (Below.refl _ _).grown hgrow (Nat.le_refl _) (by simp); clear hown hgrow)
  go_loopw [4] (fun i wr => ∃ k : Nat, k ≤ n ∧ i = .int .i64 k ∧ (∃ h, Ints wr .u32 w.heap.size n h ∧ ∀ j, j < k → h j = f j) ∧ Below w.heap.size w wr) (fun i _ => n - (intOf i).toNat)
  case atStart => exact ⟨0, Nat.zero_le _, rfl, ⟨_, hi1, fun j hj => absurd hj (by omega)⟩, hb1⟩
  case round =>
    obtain ⟨k, hk, rfl, ⟨h, hih, hhf⟩, hb⟩ := hrel
    by_cases hlt : k < n
    · have hcf := hcell k hlt
      have hcr : wr.cell? ⟨b, off + k, none⟩ = some (.int .u32 (f k)) := (hb.cell (p := ⟨b, off + k, none⟩) (block_lt hcf)).trans hcf
      have hco := hih.2.1 k hlt
      have hfo := hih.2.2 k
      clear hcf
      go_wp2
      go_roundw
      case rel => exact ⟨k + 1, by omega, by go_num, ⟨_, hih.set k (f k) hlt, fun j hj => by
          by_cases e : j = k
          · subst e; exact Srt.upd_same _ _ _
          · rw [Srt.upd_other _ _ _ _ e]; exact hhf j (by omega)⟩, hb.setCell (Nat.le_refl _) _⟩
      case measure => simp [intOf]; omega
    · obtain rfl : k = n := by omega
      go_wp2
      go_ret
      exact ⟨rfl, hih.congr hhf, hb⟩
end Go.Proofs.Qxb6000430aMods
