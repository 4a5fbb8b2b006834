import Derived.Test.Qxb6614393aModsLeaf
import Derived.WalkKit
import Derived.WalkSpells
import Derived.WalkSmall
import Derived.Deep.AppendSrc
namespace Go.Proofs.Qxb6614393aMods
open Go.ChangeShapes Go.WideShapes Go.ChangeAt Go.RowKit
set_option linter.unusedVariables false

/-- Block g holds a row of 'cap' bytes that may be written. -/
def RowAt (w : World) (g cap : Nat) : Prop := ∃ cur : Array Value, w.heap[g]? = some (.cells cur 5 (0, 0)) ∧ cur.size = cap

theorem RowAt.cell {w : World} {g cap : Nat} (h : RowAt w g cap) (j : Nat) (hj : j < cap) : (w.cell? ⟨g, j, none⟩).isSome = true ∧ w.frozen? ⟨g, j, none⟩ = false := by
  obtain ⟨cur, h1, h2⟩ := h
  constructor
  · simp [World.cell?, h1]; omega
  · simp [World.frozen?, h1]

theorem setCell_row (w : World) (g cap o : Nat) (v : Value) (h : RowAt w g cap) : RowAt (w.setCell ⟨g, o, none⟩ v) g cap := by
  obtain ⟨cur, h1, h2⟩ := h
  refine ⟨cur.setIfInBounds o v, ?_, by simpa using h2⟩
  rw [setCell_eq_setRow w g o cur 5 (0, 0) v h1]
  exact setRow_heap w g cur _ 5 _ h1

theorem setCells_row (g cap : Nat) : ∀ (vs : List Value) (o : Nat) (w : World), RowAt w g cap → RowAt (w.setCells g o vs) g cap
  | [], _, _, h => h
  | v :: r, o, w, h => setCells_row g cap r (o + 1) _ (setCell_row w g cap o v h)

theorem setCells_below {B : Nat} {a : World} (g : Nat) (hB : B ≤ g) : ∀ (vs : List Value) (o : Nat) (w : World), Below B a w → Below B a (w.setCells g o vs)
  | [], _, _, h => h
  | v :: r, o, w, h => setCells_below g hB r (o + 1) _ (h.setCell (p := ⟨g, o, none⟩) hB v)

/-- An append that finds room in such a row. -/
theorem append_room (w : World) (tx : TypeId) (g sLen cap L : Nat) (x : Value) (n : Nat) (news : List Value) (hs : Src Trym.prog 1 tx x n news w) (hr : RowAt w g cap) (hL : L = sLen + n) (hroom : sLen + n ≤ cap)
    (B : Nat) (w0 : World) (hb : Below B w0 w) (hB : B ≤ g) :
    ∃ w2, (∀ ty, (Builtin.append_ #[22, tx] ty #[.slice (some ⟨g, 0, none⟩) sLen cap, x]).run Trym.prog w = .ok (.slice (some ⟨g, 0, none⟩) L cap) w2) ∧ RowAt w2 g cap ∧ Below B w0 w2 := by
  obtain ⟨ti, hti, hz0, hz1, hz2⟩ := info_parts info5
  have hl := hs.newsLen
  have hrun := fun ty => run_append_room_src (P := Trym.prog) w 22 tx ty 5 ti Trym.underlying22 hti g 0 sLen cap x n news (by rw [hz1]; exact hs) hroom
    (fun j hj => (hr.cell _ (by rw [hz1]; omega)).1) (fun j hj => (hr.cell _ (by rw [hz1]; omega)).2)
  subst hL
  exact ⟨_, hrun, setCells_row g cap _ _ _ hr, setCells_below g hB _ _ _ hb⟩

theorem row_of_own {w : World} {base g cap : Nat} {xs : List Value} {n : Nat} (h : w.ownsRow base 5 1 (.slice (some ⟨g, 0, none⟩) n cap) n xs) : RowAt w g cap := by
  obtain ⟨hl, h2⟩ := h
  rcases h2 with ⟨h2, _⟩ | ⟨g', cap', cur, hv, hg, hh, h3, h4, h5, h6⟩
  · cases h2
  · simp at hv
    obtain ⟨rfl, rfl⟩ := hv
    exact ⟨cur, hh, by simpa using h5⟩

/-- 'append(joined, x...)' as a law for the walk, where there is room. -/
theorem wpList_append_row {w : World} {ops : Array Oper} {rest : List Oper} {o : Oper} {a : Act} {Q : Exit → Act → World → Prop} (hgd : o.guard = none) (d s : Operand) (tx : TypeId)
    (ho : o.op = .call { callee := .builtin .append, args := #[d, s], argTypes := #[22, tx] }) (g sLen cap : Nat) (x : Value) (hd : a.eval d = .slice (some ⟨g, 0, none⟩) sLen cap) (hx : a.eval s = x)
    (n : Nat) (news : List Value) (hs : Src Trym.prog 1 tx x n news w) (hr : RowAt w g cap) (hroom : sLen + n ≤ cap) (B : Nat) (w0 : World) (hb : Below B w0 w) (hB : B ≤ g)
    (h : ∀ w2, RowAt w2 g cap → Below B w0 w2 → wpList Trym.prog ops Q rest (a.put o.dst (.slice (some ⟨g, 0, none⟩) (sLen + n) cap)) w2) :
    wpList Trym.prog ops Q (o :: rest) a w := by
  refine wpList_plain hgd fun K hK => ?_
  obtain ⟨w2, hrun, hr2, hb2⟩ := append_room w tx g sLen cap (sLen + n) x n news hs hr rfl hroom B w0 hb hB
  unfold Oper.wp
  simp [execOp, ho, resolve, invoke, builtin, hd, hx, hrun, Result.andThen]
  exact hK _ _ (h w2 hr2 hb2)

theorem weight_eq (s : ByteArray) (a : Option Addr) (n c : Nat) (w : World) (r : Int) (hr : (n : Int) + 2 * (s.size : Int) + 128 = r) (hs : s.size ≤ 4194304) (hn : n ≤ 4194304) :
    Calls Trym.prog 6 #[.string s, .slice a n c] w fun e w' => e = .returned (.int .i64 r) ∧ w' = w := by
  subst hr
  exact weight_any s a n c w hs hn

/-- The ways that end ahead of the copy. -/
theorem keys_out (s : ByteArray) (a : Option Addr) (n c : Nat) (w : World) (hs : s.size ≤ maxLen) (hn : n ≤ maxLen)
    (hbad : ¬ (s.size ≤ 1048576 ∧ (n : Int) ≤ 1048576 - s.size)) :
    Calls Trym.prog 4 #[.string s, .slice a n c] w fun e w' => e = .returned (.bool true) ∧ Below w.heap.size w w' := by
  unfold maxLen at hs hn
  go_enter Trym.func4, Trym.ntmps4
  go_wp2_with (first | (go_at_call 7; refine (bytes7_any _ _ _ _ _ (by unfold maxLen; omega) (by unfold maxLen; omega)).mono ?_; rintro e w' ⟨⟨b, rfl⟩, rfl⟩))
  all_goals (go_ret; exact ⟨rfl, Below.refl _ _⟩)

set_option maxHeartbeats 1000000 in
theorem keys_nil (s : ByteArray) (w : World) (hs : s.size ≤ 1048576) :
    Calls Trym.prog 4 #[.string s, .slice none 0 0] w fun e w' => e = .returned (.bool true) ∧ Below w.heap.size w w' := by
  have hnn := fun w => run_neq_slice_nil_any (P := Trym.prog) w 22 5 none 0 0 0 0 Trym.underlying22
  obtain ⟨ti, hti, hz0, hz1, hz2⟩ := info_parts info5
  go_enter Trym.func4, Trym.ntmps4
  go_wp2_with (first | (go_at_call 7; refine (bytes7_any _ _ _ _ _ (by unfold maxLen; omega) (by unfold maxLen; omega)).mono ?_; rintro e w' ⟨⟨b, rfl⟩, rfl⟩) | (at_make; refine wpList_make_own _ rfl _ _ 22 rfl w'.heap.size 5 ti _ 1 Trym.underlying22 hti hz0 hz1 _ _ _ (2 * s.size) rfl rfl (by omega) (by rw [hz2]; omega) (by unfold maxLen; omega) (Nat.le_refl _) ?_; intro w3 hown hgrow; have hr3 := row_of_own hown; have hb3 : Below w'.heap.size w' w3 := (Below.refl _ _).grown hgrow (Nat.le_refl _) (by simp); clear hown hgrow) | (at_builtin; refine wpList_append_row rfl _ _ 9 rfl _ _ _ _ rfl rfl _ _ (Src.ofString _ Trym.underlying9 _) hr3 (by omega) w'.heap.size w' hb3 (Nat.le_refl _) ?_; clear hr3 hb3; intro w3 hr3 hb3) | (go_at_call 6; refine (weight_any _ _ _ _ _ (by first | omega | decide) (by omega)).mono ?_; rintro e w3 ⟨rfl, rfl⟩))
  · go_ret; exact ⟨rfl, Below.refl _ _⟩
  go_ret
  refine ⟨?_, hb3⟩
  simp
  all_goals omega

theorem src_row {w : World} {g n : Nat} {l : List Int} (h : w.heap[g]? = some (.cells (l.map (Value.int .u8)).toArray 5 (0, 0))) (hl : l.length = n) :
    Src Trym.prog 1 22 (.slice (some ⟨g, 0, none⟩) n n) n (l.map (Value.int .u8)) w := by
  refine Src.ofSlice w Trym.underlying22 ⟨g, 0, none⟩ n n _ (by simp; omega) ?_ (ints_oneCell _ _)
  intro j u hu
  rw [Addr.add_lit]
  simp only [World.cell?, h]
  simpa using hu

set_option maxHeartbeats 1000000 in
theorem keys_row (s : ByteArray) (x : Addr) (n c : Nat) (zs : List Int) (w : World) (hs : s.size ≤ 1048576) (hn : n ≤ 1048576 - s.size)
    (hnc : n ≤ c) (hz : zs.length = c) (hcell : ∀ i, i < zs.length → w.cell? (x.add i) = some (.int .u8 (zs.getD i 0))) :
    Calls Trym.prog 4 #[.string s, .slice (some x) n c] w fun e w' => e = .returned (.bool true) ∧ Below w.heap.size w w' := by
  have hnn := fun w => run_neq_slice_nil_any (P := Trym.prog) w 22 5 (some x) n c 0 0 Trym.underlying22
  obtain ⟨ti, hti, hz0, hz1, hz2⟩ := info_parts info5
  have htl : (zs.take n).length = n := by simp; omega
  go_enter Trym.func4, Trym.ntmps4
  go_wp2_with (first | (go_at_call 7; refine (bytes7_any _ _ _ _ _ (by unfold maxLen; omega) (by unfold maxLen; omega)).mono ?_; rintro e w' ⟨⟨b, rfl⟩, rfl⟩) | (at_make; have hb2' := hb2; clear hb2'; go_must (refine wpList_make_own _ rfl _ _ 22 rfl w'.heap.size 5 ti _ 1 Trym.underlying22 hti hz0 hz1 _ _ _ (n + 2 * s.size) rfl rfl (by omega) (by rw [hz2]; omega) (by unfold maxLen; omega) (by omega) ?_; intro w3 hown hgrow; have hr3 := row_of_own hown; have hb3 : Below w'.heap.size w' w3 := hb2.grown hgrow (by omega) (by simp); have hh3 := (hgrow.block _ hlt2 (by simp)).trans hh2; have hsrc := src_row hh3 htl; clear hown hgrow hh3 hrun hb2 hh2 htl hnn hcell)) | (at_make; refine wpList_make_full _ rfl _ _ 22 rfl w'.heap.size 5 ti _ 1 Trym.underlying22 hti hz0 hz1 _ _ _ _ n rfl rfl rfl rfl (by rw [hz2]; omega) (by unfold maxLen; omega) (Nat.le_refl _) ?_; intro w1 hown hgrow; obtain ⟨w2, hrun, hb2, hlt2, hh2⟩ := copy_made _ w1 n c x zs _ hnc hz hcell hown hgrow; clear hown hgrow) | (at_builtin; have hsrc' := hsrc; clear hsrc'; refine wpList_append_row rfl _ _ 22 rfl _ _ _ _ rfl rfl _ _ hsrc hr3 (by omega) w'.heap.size w' hb3 (by omega) ?_; clear hr3 hb3 hsrc; intro w3 hr3 hb3) | (at_builtin; refine wpList_append_row rfl _ _ 9 rfl _ _ _ _ rfl rfl _ _ (Src.ofString _ Trym.underlying9 _) hr3 (by omega) w'.heap.size w' hb3 (by omega) ?_; clear hr3 hb3; intro w3 hr3 hb3))
  · go_ret; exact ⟨rfl, Below.refl _ _⟩
  refine (weight_any s _ n _ _ (by omega) (by omega)).mono ?_
  rintro e w4 ⟨rfl, rfl⟩
  go_wp2_with fail
  refine (weight_eq _ _ _ _ _ ((n : Int) + 2 * (s.size : Int) + 128) (by have : (ByteArray.size ⟨#[]⟩ : Nat) = 0 := rfl; rw [this]; omega) (by decide) (by omega)).mono ?_
  rintro e w5 ⟨rfl, rfl⟩
  go_wp2_with fail
  refine (weight_eq s _ _ _ _ (2 * (s.size : Int) + 128) (by omega) (by omega) (by omega)).mono ?_
  rintro e w6 ⟨rfl, rfl⟩
  have ht : (((n : Int) + 2 * (s.size : Int) + 128 - (2 * (s.size : Int) + 128)) == (n : Int)) = true := by
    rw [beq_iff_eq]; omega
  go_wp2_with fail
  all_goals
    go_ret
    refine ⟨?_, hb3⟩
    simp
    all_goals omega
end Go.Proofs.Qxb6614393aMods
