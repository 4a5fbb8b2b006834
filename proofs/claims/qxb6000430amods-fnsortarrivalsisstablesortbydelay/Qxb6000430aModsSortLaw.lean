import Derived.Test.Qxb6000430aModsClone
import Derived.Test.Qxb6000430aModsZZSort
import Derived.Test.Qxb6000430aModsMerge
namespace Go.Proofs.Qxb6000430aMods
open Go.ChangeShapes Go.WideShapes Go.ChangeAt Go.RowKit
set_option linter.unusedVariables false

/-- The cells of a slice that came in. -/
def Came (w : World) (a : Option Addr) (n : Nat) (D : Nat → Nat) : Prop := 0 < n → ∃ b off, a = some ⟨b, off, none⟩ ∧ ∀ j, j < n → w.cell? ⟨b, off + j, none⟩ = some (.int .u32 (D j))

theorem clone_zero (x : Addr) (c : Nat) (w : World) : Calls Trym.prog 22 #[.slice (some x) 0 c] w fun e w' => (∃ a', e = .returned (.slice a' 0 0)) ∧ Below w.heap.size w w' := by
  have hnn := fun w => Lib.run_eql_slice_nil (P := Trym.prog) w 37 38 (some x) 0 c 0 0 Trym.underlying37
  obtain ⟨ti, hti, hz0, hz1, hz2⟩ := info_parts info38
  go_enter Trym.func22, Trym.ntmps22
  go_wp2_with (at_make; refine wpList_make_full _ rfl _ _ 37 rfl w.heap.size 38 ti _ 1 Trym.underlying37 hti hz0 hz1 _ _ _ _ 0 rfl rfl rfl rfl (by omega) (by unfold maxLen; omega) (Nat.le_refl _) ?_; intro w1 hown hgrow; have hb1 : Below w.heap.size w w1 := (Below.refl _ _).grown hgrow (Nat.le_refl _) (by simp); clear hown hgrow)
  go_loop [4] (fun i => i = .int .i64 0) (fun _ => 0)
  case atStart => rfl
  case round =>
    subst hrel
    go_wp2
    go_ret
    exact ⟨⟨_, rfl⟩, hb1⟩

theorem clone_any (a : Option Addr) (n c : Nat) (D : Nat → Nat) (w : World) (hn : n ≤ 65536) (hc : a = none → n = 0 ∧ c = 0) (h : Came w a n D) :
    Calls Trym.prog 22 #[.slice a n c] w fun e w' => ∃ a', e = .returned (.slice a' n n) ∧ (0 < n → a' = some ⟨w.heap.size, 0, none⟩ ∧ Ints w' .u32 w.heap.size n D) ∧ Below w.heap.size w w' := by
  rcases Nat.eq_zero_or_pos n with h0 | h0
  · subst h0
    cases a with
    | none =>
      obtain ⟨_, rfl⟩ := hc rfl
      refine (clone_nil w).mono ?_
      rintro e w' ⟨rfl, rfl⟩
      exact ⟨none, rfl, fun x => absurd x (by omega), Below.refl _ _⟩
    | some x =>
      refine (clone_zero x c w).mono ?_
      rintro e w' ⟨⟨a', rfl⟩, hb⟩
      exact ⟨a', rfl, fun x => absurd x (by omega), hb⟩
  · obtain ⟨b, off, rfl, hcell⟩ := h h0
    refine (clone_row b off n c D w hn hcell).mono ?_
    rintro e w' ⟨rfl, hi, hb⟩
    exact ⟨_, rfl, fun _ => ⟨rfl, hi⟩, hb⟩

theorem sort_out (a b : Option Addr) (n c m d : Nat) (q : Int) (w : World) (hn : n ≤ maxLen) (hm : m ≤ maxLen) (hbad : ¬ (n ≤ 65536 ∧ m ≤ 65536 ∧ m = n)) :
    Calls Trym.prog 8 #[.slice a n c, .slice b m d, .int .u32 q] w fun e w' => e = .returned (.bool true) ∧ Below w.heap.size w w' := by
  unfold maxLen at hn hm
  go_enter Trym.func8, Trym.ntmps8
  go_wp2_with (first | (go_at_call 21; refine (bytes21_any _ _ _ _ _ _ _ _ (by unfold maxLen; omega) (by unfold maxLen; omega)).mono ?_; rintro e w' ⟨⟨b, rfl⟩, rfl⟩))
  all_goals (go_ret; exact ⟨rfl, Below.refl _ _⟩)

/-- The two sorts are one. -/
theorem sorts_meet (D : Nat → Nat) (n : Nat) (p : List Nat) (f : Nat → Nat) (hperm : p.Perm (List.range n)) (hs : p.Pairwise fun a b => Srt.leB D a b = true) (hg : Srt.Good D 0 n (Srt.seg f 0 n)) (i : Nat) (hi : i < n) :
    p.getD i 0 = f i ∧ f i < n := by
  have e : p = Srt.seg f 0 n := Srt.unique D hs hg.2 (hperm.trans (by have := hg.1.symm; rwa [Nat.sub_zero, ← List.range_eq_range'] at this))
  have h1 : p.getD i 0 = f i := by
    rw [e]
    simp [Srt.seg, List.getD, hi]
  refine ⟨h1, ?_⟩
  have hpl : p.length = n := by rw [hperm.length_eq, List.length_range]
  have hm : p.getD i 0 ∈ p := by
    have : p.getD i 0 = p[i] := by simp [List.getD, hpl, hi]
    rw [this]; exact List.getElem_mem _
  have := hperm.mem_iff.1 hm
  rw [List.mem_range] at this
  omega

set_option maxRecDepth 4000 in
set_option maxHeartbeats 4000000 in
theorem sort_in (a b : Option Addr) (n c d most : Nat) (D T : Nat → Nat) (w : World) (hn : n ≤ 65536) (hca : a = none → n = 0 ∧ c = 0) (hcb : b = none → n = 0 ∧ d = 0) (ha : Came w a n D) (hb : Came w b n T) (hm : most < 4294967296) :
    Calls Trym.prog 8 #[.slice a n c, .slice b n d, .int .u32 most] w fun e w' => e = .returned (.bool true) ∧ Below w.heap.size w w' := by
  have HCA : Hid (a = none → n = 0 ∧ c = 0) := hca
  have HCB : Hid (b = none → n = 0 ∧ d = 0) := hcb
  clear hca hcb
  go_enter Trym.func8, Trym.ntmps8
  go_wp2_with (first | (go_at_call 21; refine (bytes21_any _ _ _ _ _ _ _ _ (by unfold maxLen; omega) (by unfold maxLen; omega)).mono ?_; rintro e w' ⟨⟨bb, rfl⟩, rfl⟩))
  · go_ret; exact ⟨rfl, Below.refl _ _⟩
  go_loop [7] (fun i => ∃ k : Nat, k ≤ n ∧ i = .int .i64 k ∧ ∀ j, j < k → D j ≤ most) (fun i => n - (intOf i).toNat)
  case atStart => exact ⟨0, Nat.zero_le _, rfl, fun j hj => absurd hj (by omega)⟩
  case round =>
    obtain ⟨k, hk, rfl, hD⟩ := hrel
    have HD : Hid (∀ j, j < k → D j ≤ most) := hD
    clear hD
    by_cases hlt : k < n
    · obtain ⟨ab, ao, rfl, hcell⟩ := ha (by omega)
      have cd := hcell k hlt
      clear HCA HCB
      go_wp2
      · go_ret; exact ⟨rfl, Below.refl _ _⟩
      · go_round
        case rel => exact ⟨k + 1, by omega, by go_num, fun j hj => by
            by_cases e : j = k
            · subst e; omega
            · exact HD.out j (by omega)⟩
        case measure => simp [intOf]; omega
    · obtain rfl : n = k := by omega
      go_wp2_with fail
      refine (clone_any a n c D _ hn HCA.out ha).mono ?_
      rintro e w1 ⟨a1, rfl, h1, hb1⟩
      have hb' : Came w1 b n T := fun h0 => by
        obtain ⟨x, o, rfl, hcell⟩ := hb h0
        exact ⟨x, o, rfl, fun j hj => (hb1.cell (p := ⟨x, o + j, none⟩) (block_lt (hcell j hj))).trans (hcell j hj)⟩
      go_wp2_with fail
      refine (clone_any b n d T _ hn HCB.out hb').mono ?_
      rintro e w2 ⟨b1, rfl, h2, hb2⟩
      clear HCA HCB ha hb hb'
      go_wp2_with fail
      have hI2 : 0 < n → Ints w2 .u32 w'.heap.size n D := fun h0 => (h1 h0).2.below hb2 (h1 h0).2.1
      have hT2 : 0 < n → Ints w2 .u32 w1.heap.size n T := fun h0 => (h2 h0).2
      refine (zzsort_any a1 b1 w'.heap.size w1.heap.size n n n most D T w2 hn (fun h0 => (h1 h0).1) (fun h0 => (h2 h0).1) hI2 hT2 HD.out hm).mono ?_
      rintro e w3 ⟨g1, g2, p, rfl, hperm, hsort, hG1, hG2, hb3⟩
      have hI3 : 0 < n → Ints w3 .u32 w'.heap.size n D := fun h0 => (hI2 h0).below hb3 (hI2 h0).1
      have hT3 : 0 < n → Ints w3 .u32 w1.heap.size n T := fun h0 => (hT2 h0).below hb3 (hT2 h0).1
      have ha1 : 0 < n → a1 = some ⟨w'.heap.size, 0, none⟩ := fun h0 => (h1 h0).1
      have hb1' : 0 < n → b1 = some ⟨w1.heap.size, 0, none⟩ := fun h0 => (h2 h0).1
      have hbel3 : Below w'.heap.size w' w3 := (hb1.trans (hb2.mono hb1.size)).trans (hb3.mono (Nat.le_trans hb1.size hb2.size))
      clear hI2 hT2 h1 h2 hb1 hb2 hb3
      have HS : Hid (p.Perm (List.range n) ∧ p.Pairwise fun a b => Srt.leB D a b = true) := ⟨hperm, hsort⟩
      clear hperm hsort
      go_wp2_with fail
      refine (merge_any a1 w'.heap.size n n D w3 hn ha1 hI3).mono ?_
      rintro e w4 ⟨g, f, rfl, hF, hgood, hb4⟩
      have hK1 := hG1.below hb4 hG1.1
      have hK2 := hG2.below hb4 hG2.1
      have hI4 : 0 < n → Ints w4 .u32 w'.heap.size n D := fun h0 => (hI3 h0).below hb4 (hI3 h0).1
      have hT4 : 0 < n → Ints w4 .u32 w1.heap.size n T := fun h0 => (hT3 h0).below hb4 (hT3 h0).1
      have hbel4 : Below w'.heap.size w' w4 := hbel3.trans (hb4.mono hbel3.size)
      have HG : Hid (0 < n → Srt.Good D 0 n (Srt.seg f 0 n)) := hgood
      clear hI3 hT3 hG1 hG2 hb4 hbel3 hgood
      go_wp2
      go_loopw [12] (fun i wr => ∃ k : Nat, k ≤ n ∧ i = .int .i64 k ∧ Ints wr .u32 g1 n (Srt.via D p) ∧ Ints wr .u32 g2 n (Srt.via T p) ∧ Ints wr .i64 g n f ∧ (0 < n → Ints wr .u32 w'.heap.size n D) ∧ (0 < n → Ints wr .u32 w1.heap.size n T) ∧ Below w'.heap.size w' wr) (fun i _ => n - (intOf i).toNat)
      case atStart => exact ⟨0, Nat.zero_le _, rfl, hK1, hK2, hF, hI4, hT4, hbel4⟩
      case round =>
        clear hK1 hK2 hF hI4 hT4 hbel4
        obtain ⟨k, hk, rfl, hK1, hK2, hF, hI4, hT4, hbel4⟩ := hrel
        by_cases hlt : k < n
        · have hpos : 0 < n := by omega
          obtain rfl := ha1 hpos
          obtain rfl := hb1' hpos
          have hI := hI4 hpos
          have hT := hT4 hpos
          obtain ⟨e1, hfn⟩ := sorts_meet D n p f HS.out.1 HS.out.2 (HG.out hpos) k hlt
          have c1 := hK1.2.1 k hlt
          have c2 := hK2.2.1 k hlt
          have c3 := hF.2.1 k hlt
          have c4 := hI.2.1 (f k) hfn
          have c5 := hT.2.1 (f k) hfn
          unfold Srt.via at c1 c2
          rw [e1] at c1 c2
          obtain ⟨x, hx⟩ : ∃ x, x = f k := ⟨_, rfl⟩
          rw [← hx] at c1 c2 c3 c4 c5 hfn
          obtain ⟨dx, hdx⟩ : ∃ y, y = D x := ⟨_, rfl⟩
          obtain ⟨tx, htx⟩ : ∃ y, y = T x := ⟨_, rfl⟩
          rw [← hdx] at c1 c4
          rw [← htx] at c2 c5
          clear hx hdx htx e1 ha1 hb1'
          have hk' : (k : Int) < (n : Int) := by omega
          have hx' : (x : Int) < (n : Int) := by omega
          go_wp2
          go_quiet (fail)
          go_wp2
          go_roundw
          case rel => exact ⟨k + 1, by omega, by go_num, hK1.drewN _, hK2.drewN _, hF.drewN _, fun h => (hI4 h).drewN _, fun h => (hT4 h).drewN _, below_drewN hbel4 _⟩
          case measure => simp [intOf]; omega
        · go_wp2
          go_ret
          exact ⟨rfl, hbel4⟩
end Go.Proofs.Qxb6000430aMods
