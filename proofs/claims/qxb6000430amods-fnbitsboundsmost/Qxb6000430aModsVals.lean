/-
  Rows of values in memory; the three clones (functions 12, 13, 14); the bounds on lengths (10, 11, 20).
-/
import Derived.Test.Qxb6000430aModsRows
import Derived.WalkKit
import Derived.ProofKit
import Derived.WalkSpells
import Derived.WalkLawsBesides
namespace Go.Proofs.Qxb6000430aMods
open Go.ChangeShapes Go.WideShapes Go.ChangeAt Go.RowKit
set_option linter.unusedVariables false

/-- Block g holds n values, one cell each; it may be written. -/
def Vals (w : World) (g n : Nat) (v : Nat → Value) : Prop :=
  g < w.heap.size ∧ (∀ j, j < n → w.cell? ⟨g, j, none⟩ = some (v j)) ∧ ∀ o, w.frozen? ⟨g, o, none⟩ = false

def updV (f : Nat → Value) (i : Nat) (v : Value) : Nat → Value := fun j => if j = i then v else f j
theorem updV_same (f : Nat → Value) (i : Nat) (v : Value) : updV f i v i = v := by simp [updV]
theorem updV_other (f : Nat → Value) (i : Nat) (v : Value) (j : Nat) (h : j ≠ i) : updV f i v j = f j := by simp [updV, h]

theorem Vals.set {w : World} {g n : Nat} {f : Nat → Value} (h : Vals w g n f) (i : Nat) (v : Value) (hi : i < n) : Vals (w.setCell ⟨g, i, none⟩ v) g n (updV f i v) := by
  obtain ⟨h0, h1, h2⟩ := h
  refine ⟨by simpa [World.setCell] using h0, fun j hj => ?_, fun o => by rw [World.frozen?_setCell]; exact h2 o⟩
  by_cases e : j = i
  · subst e
    rw [World.cell?_setCell_same _ _ _ (h1 j hj), updV_same]
  · rw [World.cell?_setCell_other _ _ _ _ (fun x => e (Addr.mk.inj x).2.1.symm), h1 j hj, updV_other _ _ _ _ e]

theorem Vals.below {w w' : World} {g n B : Nat} {f : Nat → Value} (h : Vals w g n f) (hb : Below B w w') (hg : g < B) : Vals w' g n f := by
  obtain ⟨h0, h1, h2⟩ := h
  refine ⟨by have := hb.size; omega, fun j hj => ?_, fun o => ?_⟩
  · rw [hb.cell (p := ⟨g, j, none⟩) hg]; exact h1 j hj
  · rw [hb.frozen (p := ⟨g, o, none⟩) hg]; exact h2 o

theorem Vals.congr {w : World} {g n : Nat} {f f' : Nat → Value} (h : Vals w g n f) (e : ∀ j, j < n → f j = f' j) : Vals w g n f' :=
  ⟨h.1, fun j hj => by rw [← e j hj]; exact h.2.1 j hj, h.2.2⟩

theorem Vals.drewN {w : World} {g n : Nat} {f : Nat → Value} (h : Vals w g n f) (m : Nat) : Vals (w.drewN m) g n f := h

/-- The block that a 'make' with a length has laid. -/
theorem vals_block {w : World} {base e size g n : Nat} {z : Array Value} (h : w.ownsRow base e size (.slice (some ⟨g, 0, none⟩) n n) n (madeCells z (n * size)).toList) : w.heap[g]? = some (.cells (madeCells z (n * size)) e (0, 0)) := by
  obtain ⟨hl, h2⟩ := h
  rcases h2 with ⟨h2, _⟩ | ⟨g', cap', cur, hv, hg, hh, h3, h4, h5, h6⟩
  · cases h2
  · simp at hv
    obtain ⟨rfl, rfl⟩ := hv
    rw [hh]
    have : cur = madeCells z (n * size) := by
      apply Array.ext'
      rw [← h6]
      exact (List.take_of_length_le (by simp [h5])).symm
    rw [this]

theorem vals_made {w : World} {base e g n : Nat} {z : Value} (hz : z.cells = #[z]) (h : w.ownsRow base e 1 (.slice (some ⟨g, 0, none⟩) n n) n (madeCells z.cells (n * 1)).toList) : Vals w g n (fun _ => z) := by
  have hh := vals_block h
  rw [hz] at hh
  refine ⟨(Array.getElem?_eq_some_iff.1 hh).1, fun j hj => ?_, fun o => ?_⟩
  · simp only [World.cell?, hh]
    simp [madeCells, hj, Nat.mod_one]
  · simp only [World.frozen?, hh]
    simp

theorem cell_block_lt {w : World} {a : Addr} {v : Value} (h : w.cell? a = some v) : a.block < w.heap.size := by
  rcases Nat.lt_or_ge a.block w.heap.size with h1 | h1
  · exact h1
  · simp [World.cell?, Array.getElem?_eq_none h1] at h

/-- The cells of a slice that came in. -/
def CameV (w : World) (a : Option Addr) (n : Nat) (v : Nat → Value) : Prop := 0 < n → ∃ b off, a = some ⟨b, off, none⟩ ∧ ∀ j, j < n → w.cell? ⟨b, off + j, none⟩ = some (v j)

theorem CameV.below {w w' : World} {a : Option Addr} {n : Nat} {v : Nat → Value} (h : CameV w a n v) (hb : Below w.heap.size w w') : CameV w' a n v := fun h0 => by
  obtain ⟨x, o, rfl, hcell⟩ := h h0
  exact ⟨x, o, rfl, fun j hj => (hb.cell (p := ⟨x, o + j, none⟩) (cell_block_lt (hcell j hj))).trans (hcell j hj)⟩

/-- What a clone gives. -/
def Cloned (w w' : World) (a : Option Addr) (n : Nat) (v : Nat → Value) : Prop := (0 < n → a = some ⟨w.heap.size, 0, none⟩ ∧ Vals w' w.heap.size n v) ∧ Below w.heap.size w w'

theorem inf5 : (Trym.prog.info? 5).map (fun i => (i.zero, i.size, i.bytes)) = some (some (.int .u8 0), 1, 1) := by kernel_rfl
theorem inf9 : (Trym.prog.info? 9).map (fun i => (i.zero, i.size, i.bytes)) = some (some (.string ⟨#[]⟩), 1, 16) := by kernel_rfl
theorem inf3 : (Trym.prog.info? 3).map (fun i => (i.zero, i.size, i.bytes)) = some (some (.int .i64 0), 1, 8) := by kernel_rfl
theorem inf58 : (Trym.prog.info? 58).map (fun i => (i.zero, i.size, i.bytes)) = some (some (.agg #[.int .u8 0, .string ⟨#[]⟩, .int .i64 0]), 3, 32) := by kernel_rfl

/-! ### The clone of bytes -/
theorem cloneB_nil (w : World) : Calls Trym.prog 12 #[.slice none 0 0] w fun e w' => e = .returned (.slice none 0 0) ∧ w' = w := by
  have hnn := fun w => Lib.run_eql_slice_nil (P := Trym.prog) w 22 5 none 0 0 0 0 Trym.underlying22
  go_enter Trym.func12, Trym.ntmps12
  go_wp2
  go_ret
  exact ⟨rfl, rfl⟩
theorem cloneB_zero (x : Addr) (c : Nat) (w : World) : Calls Trym.prog 12 #[.slice (some x) 0 c] w fun e w' => (∃ a', e = .returned (.slice a' 0 0)) ∧ Below w.heap.size w w' := by
  have hnn := fun w => Lib.run_eql_slice_nil (P := Trym.prog) w 22 5 (some x) 0 c 0 0 Trym.underlying22
  obtain ⟨ti, hti, hz0, hz1, hz2⟩ := info_parts inf5
  go_enter Trym.func12, Trym.ntmps12
  go_wp2_with (at_make; refine wpList_make_full _ rfl _ _ 22 rfl w.heap.size 5 ti _ 1 Trym.underlying22 hti hz0 hz1 _ _ _ _ 0 rfl rfl rfl rfl (by omega) (by unfold maxLen; omega) (Nat.le_refl _) ?_; intro w1 hown hgrow; have hb1 : Below w.heap.size w w1 := (Below.refl _ _).grown hgrow (Nat.le_refl _) (by simp); clear hown hgrow)
  go_loop [4] (fun i => i = .int .i64 0) (fun _ => 0)
  case atStart => rfl
  case round =>
    subst hrel
    go_wp2
    go_ret
    exact ⟨⟨_, rfl⟩, hb1⟩
set_option maxHeartbeats 1000000 in
theorem cloneB_row (b off n c : Nat) (f : Nat → Int) (w : World) (hn : n ≤ 65536) (hcell : ∀ j, j < n → w.cell? ⟨b, off + j, none⟩ = some (.int .u8 (f j))) :
    Calls Trym.prog 12 #[.slice (some ⟨b, off, none⟩) n c] w fun e w' => e = .returned (.slice (some ⟨w.heap.size, 0, none⟩) n n) ∧ Vals w' w.heap.size n (fun j => .int .u8 (f j)) ∧ Below w.heap.size w w' := by
  have hnn := fun w => Lib.run_eql_slice_nil (P := Trym.prog) w 22 5 (some ⟨b, off, none⟩) n c 0 0 Trym.underlying22
  obtain ⟨ti, hti, hz0, hz1, hz2⟩ := info_parts inf5
  go_enter Trym.func12, Trym.ntmps12
  go_wp2_with (at_make; refine wpList_make_full _ rfl _ _ 22 rfl w.heap.size 5 ti _ 1 Trym.underlying22 hti hz0 hz1 _ _ _ _ n rfl rfl rfl rfl (by rw [hz2]; omega) (by unfold maxLen; omega) (Nat.le_refl _) ?_; intro w1 hown hgrow; have hi1 := vals_made rfl hown; have hb1 : Below w.heap.size w w1 := (Below.refl _ _).grown hgrow (Nat.le_refl _) (by simp); clear hown hgrow)
  go_loopw [4] (fun i wr => ∃ k : Nat, k ≤ n ∧ i = .int .i64 k ∧ (∃ h, Vals wr w.heap.size n h ∧ ∀ j, j < k → h j = .int .u8 (f j)) ∧ Below w.heap.size w wr) (fun i _ => n - (intOf i).toNat)
  case atStart => exact ⟨0, Nat.zero_le _, rfl, ⟨_, hi1, fun j hj => absurd hj (by omega)⟩, hb1⟩
  case round =>
    obtain ⟨k, hk, rfl, ⟨h, hih, hhf⟩, hb⟩ := hrel
    by_cases hlt : k < n
    · have hcf := hcell k hlt
      have hcr : wr.cell? ⟨b, off + k, none⟩ = some (.int .u8 (f k)) := (hb.cell (p := ⟨b, off + k, none⟩) (cell_block_lt hcf)).trans hcf
      have hco := hih.2.1 k hlt
      have hfo := hih.2.2 k
      clear hcf
      go_wp2
      go_roundw
      case rel => exact ⟨k + 1, by omega, by go_num, ⟨_, hih.set k (.int .u8 (f k)) hlt, fun j hj => by
          by_cases e : j = k
          · subst e; exact updV_same _ _ _
          · rw [updV_other _ _ _ _ e]; exact hhf j (by omega)⟩, hb.setCell (Nat.le_refl _) _⟩
      case measure => simp [intOf]; omega
    · obtain rfl : n = k := by omega
      go_wp2
      go_ret
      exact ⟨rfl, hih.congr hhf, hb⟩
/-- A clone, whatever the slice. -/
theorem cloneB_any (a : Option Addr) (n c : Nat) (f : Nat → Int) (w : World) (hn : n ≤ 65536) (hc : a = none → n = 0 ∧ c = 0) (h : CameV w a n (fun j => .int .u8 (f j))) :
    Calls Trym.prog 12 #[.slice a n c] w fun e w' => ∃ a', e = .returned (.slice a' n n) ∧ Cloned w w' a' n (fun j => .int .u8 (f j)) := by
  rcases Nat.eq_zero_or_pos n with h0 | h0
  · subst h0
    cases a with
    | none =>
      obtain ⟨_, rfl⟩ := hc rfl
      refine (cloneB_nil w).mono ?_
      rintro e w' ⟨rfl, rfl⟩
      exact ⟨none, rfl, fun x => absurd x (by omega), Below.refl _ _⟩
    | some x =>
      refine (cloneB_zero x c w).mono ?_
      rintro e w' ⟨⟨a', rfl⟩, hb⟩
      exact ⟨a', rfl, fun x => absurd x (by omega), hb⟩
  · obtain ⟨b, off, rfl, hcell⟩ := h h0
    refine (cloneB_row b off n c f w hn hcell).mono ?_
    rintro e w' ⟨rfl, hi, hb⟩
    exact ⟨_, rfl, fun _ => ⟨rfl, hi⟩, hb⟩

/-! ### The clone of strings -/
theorem cloneS_nil (w : World) : Calls Trym.prog 13 #[.slice none 0 0] w fun e w' => e = .returned (.slice none 0 0) ∧ w' = w := by
  have hnn := fun w => Lib.run_eql_slice_nil (P := Trym.prog) w 23 9 none 0 0 0 0 Trym.underlying23
  go_enter Trym.func13, Trym.ntmps13
  go_wp2
  go_ret
  exact ⟨rfl, rfl⟩
theorem cloneS_zero (x : Addr) (c : Nat) (w : World) : Calls Trym.prog 13 #[.slice (some x) 0 c] w fun e w' => (∃ a', e = .returned (.slice a' 0 0)) ∧ Below w.heap.size w w' := by
  have hnn := fun w => Lib.run_eql_slice_nil (P := Trym.prog) w 23 9 (some x) 0 c 0 0 Trym.underlying23
  obtain ⟨ti, hti, hz0, hz1, hz2⟩ := info_parts inf9
  go_enter Trym.func13, Trym.ntmps13
  go_wp2_with (at_make; refine wpList_make_full _ rfl _ _ 23 rfl w.heap.size 9 ti _ 1 Trym.underlying23 hti hz0 hz1 _ _ _ _ 0 rfl rfl rfl rfl (by omega) (by unfold maxLen; omega) (Nat.le_refl _) ?_; intro w1 hown hgrow; have hb1 : Below w.heap.size w w1 := (Below.refl _ _).grown hgrow (Nat.le_refl _) (by simp); clear hown hgrow)
  go_loop [4] (fun i => i = .int .i64 0) (fun _ => 0)
  case atStart => rfl
  case round =>
    subst hrel
    go_wp2
    go_ret
    exact ⟨⟨_, rfl⟩, hb1⟩
set_option maxHeartbeats 1000000 in
theorem cloneS_row (b off n c : Nat) (f : Nat → ByteArray) (w : World) (hn : n ≤ 65536) (hcell : ∀ j, j < n → w.cell? ⟨b, off + j, none⟩ = some (.string (f j))) :
    Calls Trym.prog 13 #[.slice (some ⟨b, off, none⟩) n c] w fun e w' => e = .returned (.slice (some ⟨w.heap.size, 0, none⟩) n n) ∧ Vals w' w.heap.size n (fun j => .string (f j)) ∧ Below w.heap.size w w' := by
  have hnn := fun w => Lib.run_eql_slice_nil (P := Trym.prog) w 23 9 (some ⟨b, off, none⟩) n c 0 0 Trym.underlying23
  obtain ⟨ti, hti, hz0, hz1, hz2⟩ := info_parts inf9
  go_enter Trym.func13, Trym.ntmps13
  go_wp2_with (at_make; refine wpList_make_full _ rfl _ _ 23 rfl w.heap.size 9 ti _ 1 Trym.underlying23 hti hz0 hz1 _ _ _ _ n rfl rfl rfl rfl (by rw [hz2]; omega) (by unfold maxLen; omega) (Nat.le_refl _) ?_; intro w1 hown hgrow; have hi1 := vals_made rfl hown; have hb1 : Below w.heap.size w w1 := (Below.refl _ _).grown hgrow (Nat.le_refl _) (by simp); clear hown hgrow)
  go_loopw [4] (fun i wr => ∃ k : Nat, k ≤ n ∧ i = .int .i64 k ∧ (∃ h, Vals wr w.heap.size n h ∧ ∀ j, j < k → h j = .string (f j)) ∧ Below w.heap.size w wr) (fun i _ => n - (intOf i).toNat)
  case atStart => exact ⟨0, Nat.zero_le _, rfl, ⟨_, hi1, fun j hj => absurd hj (by omega)⟩, hb1⟩
  case round =>
    obtain ⟨k, hk, rfl, ⟨h, hih, hhf⟩, hb⟩ := hrel
    by_cases hlt : k < n
    · have hcf := hcell k hlt
      have hcr : wr.cell? ⟨b, off + k, none⟩ = some (.string (f k)) := (hb.cell (p := ⟨b, off + k, none⟩) (cell_block_lt hcf)).trans hcf
      have hco := hih.2.1 k hlt
      have hfo := hih.2.2 k
      clear hcf
      go_wp2
      go_roundw
      case rel => exact ⟨k + 1, by omega, by go_num, ⟨_, hih.set k (.string (f k)) hlt, fun j hj => by
          by_cases e : j = k
          · subst e; exact updV_same _ _ _
          · rw [updV_other _ _ _ _ e]; exact hhf j (by omega)⟩, hb.setCell (Nat.le_refl _) _⟩
      case measure => simp [intOf]; omega
    · obtain rfl : n = k := by omega
      go_wp2
      go_ret
      exact ⟨rfl, hih.congr hhf, hb⟩
/-- A clone, whatever the slice. -/
theorem cloneS_any (a : Option Addr) (n c : Nat) (f : Nat → ByteArray) (w : World) (hn : n ≤ 65536) (hc : a = none → n = 0 ∧ c = 0) (h : CameV w a n (fun j => .string (f j))) :
    Calls Trym.prog 13 #[.slice a n c] w fun e w' => ∃ a', e = .returned (.slice a' n n) ∧ Cloned w w' a' n (fun j => .string (f j)) := by
  rcases Nat.eq_zero_or_pos n with h0 | h0
  · subst h0
    cases a with
    | none =>
      obtain ⟨_, rfl⟩ := hc rfl
      refine (cloneS_nil w).mono ?_
      rintro e w' ⟨rfl, rfl⟩
      exact ⟨none, rfl, fun x => absurd x (by omega), Below.refl _ _⟩
    | some x =>
      refine (cloneS_zero x c w).mono ?_
      rintro e w' ⟨⟨a', rfl⟩, hb⟩
      exact ⟨a', rfl, fun x => absurd x (by omega), hb⟩
  · obtain ⟨b, off, rfl, hcell⟩ := h h0
    refine (cloneS_row b off n c f w hn hcell).mono ?_
    rintro e w' ⟨rfl, hi, hb⟩
    exact ⟨_, rfl, fun _ => ⟨rfl, hi⟩, hb⟩

/-! ### The clone of ints -/
theorem cloneN_nil (w : World) : Calls Trym.prog 14 #[.slice none 0 0] w fun e w' => e = .returned (.slice none 0 0) ∧ w' = w := by
  have hnn := fun w => Lib.run_eql_slice_nil (P := Trym.prog) w 24 3 none 0 0 0 0 Trym.underlying24
  go_enter Trym.func14, Trym.ntmps14
  go_wp2
  go_ret
  exact ⟨rfl, rfl⟩
theorem cloneN_zero (x : Addr) (c : Nat) (w : World) : Calls Trym.prog 14 #[.slice (some x) 0 c] w fun e w' => (∃ a', e = .returned (.slice a' 0 0)) ∧ Below w.heap.size w w' := by
  have hnn := fun w => Lib.run_eql_slice_nil (P := Trym.prog) w 24 3 (some x) 0 c 0 0 Trym.underlying24
  obtain ⟨ti, hti, hz0, hz1, hz2⟩ := info_parts inf3
  go_enter Trym.func14, Trym.ntmps14
  go_wp2_with (at_make; refine wpList_make_full _ rfl _ _ 24 rfl w.heap.size 3 ti _ 1 Trym.underlying24 hti hz0 hz1 _ _ _ _ 0 rfl rfl rfl rfl (by omega) (by unfold maxLen; omega) (Nat.le_refl _) ?_; intro w1 hown hgrow; have hb1 : Below w.heap.size w w1 := (Below.refl _ _).grown hgrow (Nat.le_refl _) (by simp); clear hown hgrow)
  go_loop [4] (fun i => i = .int .i64 0) (fun _ => 0)
  case atStart => rfl
  case round =>
    subst hrel
    go_wp2
    go_ret
    exact ⟨⟨_, rfl⟩, hb1⟩
set_option maxHeartbeats 1000000 in
theorem cloneN_row (b off n c : Nat) (f : Nat → Int) (w : World) (hn : n ≤ 65536) (hcell : ∀ j, j < n → w.cell? ⟨b, off + j, none⟩ = some (.int .i64 (f j))) :
    Calls Trym.prog 14 #[.slice (some ⟨b, off, none⟩) n c] w fun e w' => e = .returned (.slice (some ⟨w.heap.size, 0, none⟩) n n) ∧ Vals w' w.heap.size n (fun j => .int .i64 (f j)) ∧ Below w.heap.size w w' := by
  have hnn := fun w => Lib.run_eql_slice_nil (P := Trym.prog) w 24 3 (some ⟨b, off, none⟩) n c 0 0 Trym.underlying24
  obtain ⟨ti, hti, hz0, hz1, hz2⟩ := info_parts inf3
  go_enter Trym.func14, Trym.ntmps14
  go_wp2_with (at_make; refine wpList_make_full _ rfl _ _ 24 rfl w.heap.size 3 ti _ 1 Trym.underlying24 hti hz0 hz1 _ _ _ _ n rfl rfl rfl rfl (by rw [hz2]; omega) (by unfold maxLen; omega) (Nat.le_refl _) ?_; intro w1 hown hgrow; have hi1 := vals_made rfl hown; have hb1 : Below w.heap.size w w1 := (Below.refl _ _).grown hgrow (Nat.le_refl _) (by simp); clear hown hgrow)
  go_loopw [4] (fun i wr => ∃ k : Nat, k ≤ n ∧ i = .int .i64 k ∧ (∃ h, Vals wr w.heap.size n h ∧ ∀ j, j < k → h j = .int .i64 (f j)) ∧ Below w.heap.size w wr) (fun i _ => n - (intOf i).toNat)
  case atStart => exact ⟨0, Nat.zero_le _, rfl, ⟨_, hi1, fun j hj => absurd hj (by omega)⟩, hb1⟩
  case round =>
    obtain ⟨k, hk, rfl, ⟨h, hih, hhf⟩, hb⟩ := hrel
    by_cases hlt : k < n
    · have hcf := hcell k hlt
      have hcr : wr.cell? ⟨b, off + k, none⟩ = some (.int .i64 (f k)) := (hb.cell (p := ⟨b, off + k, none⟩) (cell_block_lt hcf)).trans hcf
      have hco := hih.2.1 k hlt
      have hfo := hih.2.2 k
      clear hcf
      go_wp2
      go_roundw
      case rel => exact ⟨k + 1, by omega, by go_num, ⟨_, hih.set k (.int .i64 (f k)) hlt, fun j hj => by
          by_cases e : j = k
          · subst e; exact updV_same _ _ _
          · rw [updV_other _ _ _ _ e]; exact hhf j (by omega)⟩, hb.setCell (Nat.le_refl _) _⟩
      case measure => simp [intOf]; omega
    · obtain rfl : n = k := by omega
      go_wp2
      go_ret
      exact ⟨rfl, hih.congr hhf, hb⟩
/-- A clone, whatever the slice. -/
theorem cloneN_any (a : Option Addr) (n c : Nat) (f : Nat → Int) (w : World) (hn : n ≤ 65536) (hc : a = none → n = 0 ∧ c = 0) (h : CameV w a n (fun j => .int .i64 (f j))) :
    Calls Trym.prog 14 #[.slice a n c] w fun e w' => ∃ a', e = .returned (.slice a' n n) ∧ Cloned w w' a' n (fun j => .int .i64 (f j)) := by
  rcases Nat.eq_zero_or_pos n with h0 | h0
  · subst h0
    cases a with
    | none =>
      obtain ⟨_, rfl⟩ := hc rfl
      refine (cloneN_nil w).mono ?_
      rintro e w' ⟨rfl, rfl⟩
      exact ⟨none, rfl, fun x => absurd x (by omega), Below.refl _ _⟩
    | some x =>
      refine (cloneN_zero x c w).mono ?_
      rintro e w' ⟨⟨a', rfl⟩, hb⟩
      exact ⟨a', rfl, fun x => absurd x (by omega), hb⟩
  · obtain ⟨b, off, rfl, hcell⟩ := h h0
    refine (cloneN_row b off n c f w hn hcell).mono ?_
    rintro e w' ⟨rfl, hi, hb⟩
    exact ⟨_, rfl, fun _ => ⟨rfl, hi⟩, hb⟩

/-! ### The bounds on lengths: whatever they answer, they answer -/
def IsBool (e : Ending) : Prop := ∃ b, e = .returned (.bool b)
theorem isBool_mk (b : Bool) : IsBool (.returned (.bool b)) := ⟨b, rfl⟩
def IsInt (e : Ending) : Prop := ∃ z, e = .returned (.int .i64 z)
theorem isInt_mk (z : Int) : IsInt (.returned (.int .i64 z)) := ⟨z, rfl⟩
def CameS (w : World) (a : Option Addr) (n : Nat) (f : Nat → ByteArray) : Prop := CameV w a n (fun j => .string (f j))

set_option maxHeartbeats 1000000 in
theorem bytes10_any (a b d : Option Addr) (n c m e q r : Nat) (f : Nat → ByteArray) (x : Int) (y : Bool) (w : World) (hn : n ≤ maxLen) (hm : m ≤ maxLen) (hq : q ≤ maxLen) (h : CameS w b m f) :
    Calls Trym.prog 10 #[.slice a n c, .slice b m e, .slice d q r, .int .u8 x, .bool y] w fun e w' => IsBool e ∧ w' = w := by
  unfold maxLen at hn hm hq
  go_enter Trym.func10, Trym.ntmps10
  go_wp2
  all_goals try (go_ret; exact ⟨isBool_mk _, rfl⟩)
  go_loop [11, 12] (fun z i => ∃ k : Nat, k ≤ m ∧ i = .int .i64 k ∧ ∃ y : Int, 0 ≤ y ∧ y ≤ 1048576 ∧ z = .int .i64 y) (fun _ i => m - (intOf i).toNat)
  case atStart => exact ⟨0, Nat.zero_le _, rfl, _, by omega, by omega, rfl⟩
  case round =>
    obtain ⟨k, hk, rfl, y, hy0, hy1, rfl⟩ := hrel
    by_cases hlt : k < m
    · obtain ⟨xb, xo, rfl, hcell⟩ := h (by omega)
      have cd := hcell k hlt
      go_wp2
      · go_ret; exact ⟨isBool_mk _, rfl⟩
      · go_ret; exact ⟨isBool_mk _, rfl⟩
      · go_round
        case rel => exact ⟨k + 1, by omega, by go_num, _, by omega, by omega, rfl⟩
        case measure => simp [intOf]; omega
    · go_wp2
      all_goals (go_ret; exact ⟨isBool_mk _, rfl⟩)

set_option maxHeartbeats 1000000 in
theorem bytes20_any (a b d : Option Addr) (n c m e q r : Nat) (f : Nat → ByteArray) (w : World) (hn : n ≤ maxLen) (hm : m ≤ maxLen) (hq : q ≤ maxLen) (h : CameS w b m f) :
    Calls Trym.prog 20 #[.slice a n c, .slice b m e, .slice d q r] w fun e w' => IsBool e ∧ w' = w := by
  unfold maxLen at hn hm hq
  go_enter Trym.func20, Trym.ntmps20
  go_wp2
  all_goals try (go_ret; exact ⟨isBool_mk _, rfl⟩)
  go_loop [7, 8] (fun z i => ∃ k : Nat, k ≤ m ∧ i = .int .i64 k ∧ ∃ y : Int, 0 ≤ y ∧ y ≤ 1048576 ∧ z = .int .i64 y) (fun _ i => m - (intOf i).toNat)
  case atStart => exact ⟨0, Nat.zero_le _, rfl, _, by omega, by omega, rfl⟩
  case round =>
    obtain ⟨k, hk, rfl, y, hy0, hy1, rfl⟩ := hrel
    by_cases hlt : k < m
    · obtain ⟨xb, xo, rfl, hcell⟩ := h (by omega)
      have cd := hcell k hlt
      go_wp2
      · go_ret; exact ⟨isBool_mk _, rfl⟩
      · go_ret; exact ⟨isBool_mk _, rfl⟩
      · go_round
        case rel => exact ⟨k + 1, by omega, by go_num, _, by omega, by omega, rfl⟩
        case measure => simp [intOf]; omega
    · go_wp2
      all_goals (go_ret; exact ⟨isBool_mk _, rfl⟩)

set_option maxHeartbeats 1000000 in
theorem counts11_any (a b d : Option Addr) (n c m e q r : Nat) (f : Nat → ByteArray) (w : World) (hn : n ≤ 65536) (hm : m ≤ 65536) (hq : q ≤ 65536) (h : CameS w b m f) :
    Calls Trym.prog 11 #[.slice a n c, .slice b m e, .slice d q r] w fun e w' => IsInt e ∧ w' = w := by
  go_enter Trym.func11, Trym.ntmps11
  go_wp2
  all_goals try (go_ret; exact ⟨isInt_mk _, rfl⟩)
  go_loop [7, 8] (fun z i => ∃ k : Nat, k ≤ m ∧ i = .int .i64 k ∧ ∃ y : Int, 0 ≤ y ∧ y ≤ 1048576 ∧ z = .int .i64 y) (fun _ i => m - (intOf i).toNat)
  case atStart => exact ⟨0, Nat.zero_le _, rfl, _, by omega, by omega, rfl⟩
  case round =>
    obtain ⟨k, hk, rfl, y, hy0, hy1, rfl⟩ := hrel
    by_cases hlt : k < m
    · obtain ⟨xb, xo, rfl, hcell⟩ := h (by omega)
      have cd := hcell k hlt
      go_wp2
      · go_ret; exact ⟨isInt_mk _, rfl⟩
      · go_ret; exact ⟨isInt_mk _, rfl⟩
      · go_round
        case rel => exact ⟨k + 1, by omega, by go_num, _, by omega, by omega, rfl⟩
        case measure => simp [intOf]; omega
    · go_wp2
      all_goals (go_ret; exact ⟨isInt_mk _, rfl⟩)
end Go.Proofs.Qxb6000430aMods
