/-
  The callees of both laws of this seat: the bound on total length (functions 5 and 7) and the weight (functions 6 and 8).
-/
import Derived.Test.Qxb6614393aModsRows
import Derived.WalkKit
import Derived.ProofKit
import Derived.WalkSpells
import Derived.WalkSmall
import Derived.Laws.CopyOwn
namespace Go.Proofs.Qxb6614393aMods
open Go.ChangeShapes Go.WideShapes Go.ChangeAt Go.RowKit
set_option linter.unusedVariables false

theorem bytes5_any (s : ByteArray) (a : Option Addr) (n c : Nat) (i j : Int) (w : World) (hs : s.size ≤ maxLen) (hn : n ≤ maxLen) :
    Calls Trym.prog 5 #[.string s, .slice a n c, .int .i64 i, .int .i64 j] w fun e w' => (∃ b, e = .returned (.bool b)) ∧ w' = w := by
  unfold maxLen at hs hn
  go_enter Trym.func5, Trym.ntmps5
  go_wp2
  all_goals (go_ret; exact ⟨⟨_, rfl⟩, rfl⟩)

theorem bytes7_any (s : ByteArray) (a : Option Addr) (n c : Nat) (w : World) (hs : s.size ≤ maxLen) (hn : n ≤ maxLen) :
    Calls Trym.prog 7 #[.string s, .slice a n c] w fun e w' => (∃ b, e = .returned (.bool b)) ∧ w' = w := by
  unfold maxLen at hs hn
  go_enter Trym.func7, Trym.ntmps7
  go_wp2
  all_goals (go_ret; exact ⟨⟨_, rfl⟩, rfl⟩)

theorem weight_any (s : ByteArray) (a : Option Addr) (n c : Nat) (w : World) (hs : s.size ≤ 4194304) (hn : n ≤ 4194304) :
    Calls Trym.prog 6 #[.string s, .slice a n c] w fun e w' => e = .returned (.int .i64 ((n : Int) + 2 * (s.size : Int) + 128)) ∧ w' = w := by
  go_enter Trym.func6, Trym.ntmps6
  go_wp2
  go_ret
  exact ⟨rfl, rfl⟩

theorem weight_at (s : ByteArray) (k : Nat) (hk : s.size = k) (a : Option Addr) (n c : Nat) (w : World) (hs : k ≤ 4194304) (hn : n ≤ 4194304) :
    Calls Trym.prog 6 #[.string s, .slice a n c] w fun e w' => e = .returned (.int .i64 ((n : Int) + 2 * (k : Int) + 128)) ∧ w' = w := by
  subst hk
  exact weight_any s a n c w hs hn

theorem info5 : (Trym.prog.info? 5).map (fun i => (i.zero, i.size, i.bytes)) = some (some (.int .u8 0), 1, 1) := by kernel_rfl
theorem size5 : (Trym.prog.info? 5).map (·.size) = some 1 := by kernel_rfl

theorem block_lt {w : World} {a : Addr} {v : Value} (h : w.cell? a = some v) : a.block < w.heap.size := by
  rcases Nat.lt_or_ge a.block w.heap.size with h1 | h1
  · exact h1
  · simp [World.cell?, Array.getElem?_eq_none h1] at h

theorem add_block (a : Addr) (k : Nat) : (a.add k).block = a.block := by
  unfold Addr.add; split <;> rfl

/-- 'copy(zzc, value)' into the row that was just made. -/
theorem copy_made (w w1 : World) (n c : Nat) (x : Addr) (zs : List Int) (cs0 : List Value) (hnc : n ≤ c) (hz : zs.length = c)
    (hcell : ∀ i, i < zs.length → w.cell? (x.add i) = some (.int .u8 (zs.getD i 0)))
    (hown : w1.ownsRow w.heap.size 5 1 (.slice (some ⟨w.heap.size, 0, none⟩) n n) n cs0) (hgrow : w.grownBy w1 none) :
    ∃ w2, (∀ ty, (Builtin.copy_ #[22, 22] ty #[.slice (some ⟨w.heap.size, 0, none⟩) n n, .slice (some x) n c]).run Trym.prog w1 = .ok (.int .i64 n) w2) ∧
      Below w.heap.size w w2 ∧ w.heap.size < w2.heap.size ∧ w2.heap[w.heap.size]? = some (.cells ((zs.take n).map (Value.int .u8)).toArray 5 (0, 0)) := by
  obtain ⟨hl, h2⟩ := hown
  rcases h2 with ⟨h2, _⟩ | ⟨g, cap, cur, hv, hg, hh, h3, h4, h5, h6⟩
  · cases h2
  · simp at hv
    obtain ⟨rfl, rfl⟩ := hv
    have hlt : w.heap.size < w1.heap.size := (Array.getElem?_eq_some_iff.1 hh).1
    have hlen : ((zs.take n).map (Value.int .u8)).length = Nat.min n n := by simp; omega
    have hsrc : ∀ j v, ((zs.take n).map (Value.int .u8))[j]? = some v → w1.cell? (x.add j) = some v := by
      intro j v hjv
      have hj : j < n := by
        have := (List.getElem?_eq_some_iff.1 hjv).1
        simp at this; omega
      have hc := hcell j (by omega)
      have hb := block_lt hc
      rw [World.cell?_of_block (hgrow.block _ hb (by simp)), hc]
      rw [← hjv]
      simp [hj, List.getD, show j < zs.length by omega]
    have hrun := fun ty => run_copy_row (P := Trym.prog) w1 22 22 ty 5 w.heap.size 0 n n x n c cur 5 _ Trym.underlying22 size5 hh hlen hsrc (by simp; omega) (ints_oneCell _ _)
    have hcs : cur.size = n := by simpa using h5
    have e1 : (cur.toList.take 0 ++ (zs.take n).map (Value.int .u8) ++ cur.toList.drop (0 + ((zs.take n).map (Value.int .u8)).length)).toArray = ((zs.take n).map (Value.int .u8)).toArray := by
      have : (zs.take n).length = n := by simp; omega
      have hd : cur.toList.drop (0 + ((zs.take n).map (Value.int .u8)).length) = [] := by
        apply List.drop_eq_nil_of_le
        simp; omega
      rw [hd]; simp
    have e2 : ((zs.take n).map (Value.int .u8)).length = n := by simp; omega
    refine ⟨_, fun ty => ?_, below_setRow (((Below.refl _ _).grown hgrow (Nat.le_refl _) (by simp))) (Nat.le_refl _) ((zs.take n).map (Value.int .u8)).toArray, ?_, setRow_heap w1 _ _ _ _ _ hh⟩
    · rw [hrun ty, e1]
      simp only [goInt, e2]
    · simp [World.setRow]; omega

end Go.Proofs.Qxb6614393aMods
