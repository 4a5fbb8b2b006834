import Derived.Test.Qxb6000392aModsLeaf
namespace Go.Proofs.Qxb6000392aMods
open Go.ChangeShapes Go.WideShapes Go.ChangeAt Go.RowKit
set_option linter.unusedVariables false

/-! ### The plain law -/
/-- Has bucket j been hit by one of the first k counts? -/
def hitB (r m : Int) (k j : Nat) : Bool := (List.range k).any fun t => bkt r t m == (j : Int)

theorem hitB_zero (r m : Int) (j : Nat) : hitB r m 0 j = false := rfl
theorem hitB_succ (r m : Int) (k j : Nat) : hitB r m (k + 1) j = (hitB r m k j || (bkt r k m == (j : Int))) := by
  simp [hitB, List.range_succ]

theorem bkt_range (r c m : Int) (h0 : 0 ≤ c) (h1 : c ≤ 256) (h2 : 1 ≤ m) (h3 : m ≤ 256) : 0 ≤ bkt r c m ∧ bkt r c m < m := by
  obtain ⟨hp0, hp1⟩ := mul_bound c m h0 h1 h2 (by omega)
  unfold bkt
  split <;> omega

theorem hit_all (r m : Int) (h2 : 1 ≤ m) (h3 : m ≤ 256) (b : Nat) (hb : (b : Int) < m) : hitB r m 257 b = true := by
  unfold hitB
  rw [List.any_eq_true]
  by_cases hr : r = 1
  · subst hr
    obtain ⟨M, rfl⟩ := Int.eq_ofNat_of_zero_le (show 0 ≤ m by omega)
    have hM : 0 < M := by omega
    have hb' : b < M := by omega
    have hM3 : M ≤ 256 := by omega
    -- the least count whose scaled value is b
    have hd := Nat.div_add_mod (b * 256 + (M - 1)) M
    have hm := Nat.mod_lt (b * 256 + (M - 1)) hM
    generalize (b * 256 + (M - 1)) / M = t at hd
    have ht : t ≤ 256 := by
      rcases Nat.lt_or_ge 256 t with h | h
      · have h4 : M * 257 ≤ M * t := Nat.mul_le_mul_left M h
        omega
      · exact h
    refine ⟨t, by simp; omega, ?_⟩
    simp only [beq_iff_eq]
    unfold bkt
    rw [if_pos rfl]
    have e : ((t : Int) * (M : Int)) = ((M * t : Nat) : Int) := by rw [Int.natCast_mul]; exact Int.mul_comm _ _
    rw [e]
    generalize M * t = p at *
    omega
  · refine ⟨b, by simp; omega, ?_⟩
    simp only [beq_iff_eq]
    unfold bkt
    rw [if_neg hr]
    omega

/-! ### The walk -/
def hits0 : Array Value := (List.replicate 256 (Value.bool false)).toArray
theorem alloc26 (w : World) : (Instr.alloc 26 true (.tuple #[])).run Trym.prog w = .ok (.pointer (some ⟨w.heap.size, 0, none⟩)) (w.alloc (.cells hits0 26)) := by kernel_rfl

theorem wpList_alloc26 {w : World} {ops : Array Oper} {rest : List Oper} {o : Oper} {a : Act} {Q : Exit → Act → World → Prop} (hgd : o.guard = none) (ho : o.op = .alloc 26)
    (h : wpList Trym.prog ops Q rest (a.put o.dst (.pointer (some ⟨w.heap.size, 0, none⟩))) (w.alloc (.cells hits0 26))) : wpList Trym.prog ops Q (o :: rest) a w := by
  refine wpList_plain hgd fun K hK => ?_
  unfold Oper.wp
  simp [execOp, ho, alloc26, Result.andThen]
  exact hK _ _ h

theorem bucket_nat (r c m : Int) (b : Nat) (w : World) (h0 : 0 ≤ c) (h1 : c ≤ 256) (h2 : 1 ≤ m) (h3 : m ≤ 4194304) (hb : bkt r c m = b) :
    Calls Trym.prog 9 #[.int .i64 r, .int .i64 c, .int .i64 m] w fun e w' => e = .returned (.int .i64 b) ∧ w' = w := by
  rw [← hb]
  exact bucket_any r c m w h0 h1 h2 h3

theorem reached_out (r m : Int) (w : World) (hbad : ¬ (1 ≤ m ∧ m ≤ 256)) :
    Calls Trym.prog 5 #[.int .i64 r, .int .i64 m] w fun e w' => e = .returned (.bool true) ∧ w' = w := by
  go_enter Trym.func5, Trym.ntmps5
  go_wp2_with fail
  all_goals (go_ret; exact ⟨rfl, rfl⟩)

/-- What the array holds, block B, once the first k counts have been put. -/
def Held (r m : Int) (B k : Nat) (wr : World) : Prop :=
  (∀ j, j < 256 → wr.cell? ⟨B, j, none⟩ = some (.bool (hitB r m k j))) ∧ ∀ j, wr.frozen? ⟨B, j, none⟩ = false

theorem hits0_at (j : Nat) (hj : j < 256) : hits0[j]? = some (.bool false) := by
  unfold hits0
  rw [List.getElem?_toArray, List.getElem?_replicate, if_pos hj]

theorem held_start (r m : Int) (w : World) : Held r m w.heap.size 0 (w.alloc (.cells hits0 26)) := by
  have hh : (w.alloc (.cells hits0 26)).heap[w.heap.size]? = some (.cells hits0 26) := by
    show (w.heap.push _)[w.heap.size]? = _
    simp
  refine ⟨fun j hj => ?_, fun j => ?_⟩
  · simp only [World.cell?, hh, hitB_zero]
    exact hits0_at j hj
  · simp only [World.frozen?, hh]
    simp

theorem held_next (r m : Int) (B k b : Nat) (wr : World) (hb : bkt r k m = b) (hbl : b < 256) (h : Held r m B k wr) : Held r m B (k + 1) (wr.setCell ⟨B, b, none⟩ (.bool true)) := by
  obtain ⟨h1, h2⟩ := h
  refine ⟨fun j hj => ?_, fun j => ?_⟩
  · rw [hitB_succ, hb]
    by_cases e : j = b
    · subst e
      rw [World.cell?_setCell_same _ _ _ (h1 j hj)]
      simp
    · rw [World.cell?_setCell_other _ _ _ _ (by simp), h1 j hj]
      have : ((b : Int) == (j : Int)) = false := by simp; omega
      rw [this]; simp
  · rw [World.frozen?_setCell]; exact h2 j

set_option maxHeartbeats 1000000 in
theorem reached_in (r m : Int) (w : World) (h2 : 1 ≤ m) (h3 : m ≤ 256) :
    Calls Trym.prog 5 #[.int .i64 r, .int .i64 m] w fun e w' => e = .returned (.bool true) ∧ Grown w w' := by
  go_enter Trym.func5, Trym.ntmps5
  go_wp2_with (refine wpList_alloc26 rfl rfl ?_)
  go_loopw [6] (fun i wr => ∃ k : Nat, k ≤ 257 ∧ i = .int .i64 k ∧ Held r m w.heap.size k wr ∧ Grown w wr) (fun i _ => 257 - (intOf i).toNat)
  case atStart => exact ⟨0, Nat.zero_le _, rfl, held_start r m w, (Grown.refl w).alloc _ _⟩
  case round =>
    obtain ⟨k, hk, rfl, hheld, hgrow⟩ := hrel
    by_cases hlt : k ≤ 256
    · obtain ⟨hr0, hr1⟩ := bkt_range r k m (by omega) (by omega) h2 h3
      obtain ⟨b, hb⟩ := Int.eq_ofNat_of_zero_le hr0
      have hbm : (b : Int) < m := by omega
      have hc := hheld.1 b (by omega)
      have hf := hheld.2 b
      have HB : Hid (bkt r k m = b) := hb
      clear hb hr0 hr1
      go_wp2_with (go_at_call 9; refine (bucket_nat _ _ _ b _ (by omega) (by omega) (by omega) (by omega) HB.out).mono ?_; rintro e w1 ⟨rfl, rfl⟩)
      go_roundw
      case rel => exact ⟨k + 1, by omega, by go_num, held_next r m _ k b _ HB.out (by omega) hheld, hgrow.setCell (Nat.le_refl _) _⟩
      case measure => simp [intOf]; omega
    · obtain rfl : k = 257 := by omega
      go_wp2
      go_loop [8] (fun i => ∃ b : Nat, (b : Int) ≤ m ∧ i = .int .i64 b) (fun i => (m - intOf i).toNat)
      case atStart => exact ⟨0, by omega, rfl⟩
      case round =>
        obtain ⟨b, hbm, rfl⟩ := hrel
        by_cases hlt2 : (b : Int) < m
        · have hc := hheld.1 b (by omega)
          rw [hit_all r m h2 h3 b hlt2] at hc
          go_wp2
          go_round
          case rel => exact ⟨b + 1, by omega, by go_num⟩
          case measure => simp [intOf]; omega
        · go_wp2
          go_ret
          exact ⟨rfl, hgrow⟩
end Go.Proofs.Qxb6000392aMods
