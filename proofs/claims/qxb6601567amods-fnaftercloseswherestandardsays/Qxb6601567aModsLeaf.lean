import Derived.Test.Qxb6601567aModsRows
import Derived.WalkKit
import Derived.ProofKit
import Derived.WalkSpells
import Derived.WalkLawsBesides
import Derived.Lib.Strings
import Derived.Lib.IndexBytes
import Derived.Deep.QuietTactic
import Derived.BigQuiet
namespace Go.Proofs.Qxb6601567aMods
open Go.ChangeShapes Go.WideShapes Go.ChangeAt Go.RowKit
set_option linter.unusedVariables false
set_option linter.unusedSimpArgs false

/-! ### The bytes of a string -/
def byteAt (s : ByteArray) (i : Nat) : Nat := (s.data.toList.getD i 0).toNat
theorem byteAt_get (s : ByteArray) (i : Nat) (h : i < s.size) : byteAt s i = s[i].toNat := by
  unfold byteAt
  rw [List.getD_eq_getElem?_getD, Lib.data_getElem? s i h]
  rfl
def Suf (s p : ByteArray) : Prop := p.size ≤ s.size ∧ ∀ t, t < p.size → byteAt s (s.size - p.size + t) = byteAt p t

theorem bytes4_any (s : ByteArray) (w : World) (hs : s.size ≤ maxLen) : Calls Trym.prog 4 #[.string s] w fun e w' => (∃ b, Hid (e = .returned (.bool b))) ∧ w' = w := by
  unfold maxLen at hs
  go_enter Trym.func4, Trym.ntmps4
  go_wp2
  all_goals (go_ret; exact ⟨⟨_, rfl⟩, rfl⟩)

set_option maxHeartbeats 1000000 in
theorem suffix_any (s p : ByteArray) (w : World) (hs : s.size ≤ 65536) (hp : p.size ≤ 3) :
    Calls Trym.prog 8 #[.string s, .string p] w fun e w' => (∃ b, e = .returned (.bool b) ∧ (b = true ↔ Suf s p)) ∧ ∃ n, w' = w.drewN n := by
  by_cases hle : p.size ≤ s.size
  · obtain ⟨off, hoff⟩ : ∃ off, off = s.size - p.size := ⟨_, rfl⟩
    have ho : (s.size : Int) - (p.size : Int) = (off : Int) := by omega
    have HO : Hid (off = s.size - p.size) := hoff
    clear hoff
    go_enter Trym.func8, Trym.ntmps8
    go_wp2
    go_loopw [6] (fun i wr => ∃ k : Nat, k ≤ p.size ∧ i = .int .i64 k ∧ Hid (∀ t, t < k → byteAt s (off + t) = byteAt p t) ∧ ∃ n, wr = w.drewN n) (fun i _ => p.size - (intOf i).toNat)
    case atStart => exact ⟨0, Nat.zero_le _, rfl, fun t ht => absurd ht (by omega), 0, rfl⟩
    case round =>
      obtain ⟨k, hk, rfl, HS, q, rfl⟩ := hrel
      by_cases hlt : k < p.size
      · obtain ⟨x, hx⟩ : ∃ x, x = off + k := ⟨_, rfl⟩
        have hxs : x < s.size := by have := HO.out; omega
        have hwr : IntKind.i64.wrap ((off : Int) + (k : Int)) = (x : Int) := by
          have e : ((off : Int) + (k : Int)) = (x : Int) := by omega
          rw [e]
          have := HO.out
          simp [IntKind.wrap, IntKind.signed, IntKind.bits]
          omega
        have HX : Hid (x = off + k) := hx
        clear hx
        go_wp2
        go_quiet (fail)
        go_wp2
        · have hne : ¬ (s[x].toNat : Int) = (p[k].toNat : Int) := by simpa using ‹((s[x].toNat : Int) != (p[k].toNat : Int)) = true›
          go_ret
          refine ⟨⟨false, rfl, by simp, fun h => ?_⟩, q + nq, by simp⟩
          have h1 := h.2 k hlt
          rw [← HO.out, ← HX.out, byteAt_get s x hxs, byteAt_get p k hlt] at h1
          omega
        · have heq : (s[x].toNat : Int) = (p[k].toNat : Int) := by simpa using ‹((s[x].toNat : Int) != (p[k].toNat : Int)) = false›
          go_roundw
          case rel =>
            refine ⟨k + 1, by omega, by go_num, fun t ht => ?_, _, rfl⟩
            by_cases e : t = k
            · subst e
              rw [← HX.out, byteAt_get s x hxs, byteAt_get p t hlt]
              omega
            · exact HS.out t (by omega)
          case measure => simp [intOf]; omega
      · obtain rfl : p.size = k := by omega
        go_wp2
        go_ret
        exact ⟨⟨true, rfl, fun _ => ⟨hle, fun t ht => by rw [← HO.out]; exact HS.out t ht⟩, fun _ => rfl⟩, _, rfl⟩
  · go_enter Trym.func8, Trym.ntmps8
    go_wp2
    go_ret
    exact ⟨⟨false, rfl, by simp, fun h => absurd h.1 hle⟩, 0, rfl⟩

/-! ### One step of the states -/
def aft (s b : Int) : Int :=
  if b = 62 ∧ s ≠ 0 ∧ s ≠ 3 then 6
  else if b = 45 ∧ s = 1 then 2
  else if b = 45 ∧ (s = 2 ∨ s = 3 ∨ s = 4) then 4
  else if b = 45 then 3
  else if b = 33 ∧ s = 4 then 5
  else 0

theorem aft1 {s b : Int} (h1 : b = 62) (h2 : s = 0) : (0 : Int) = aft s b := by
  try simp only [bne_iff_ne, beq_iff_eq, bne_eq_false_iff_eq, beq_eq_false_iff_ne] at *
  unfold aft
  (repeat' split) <;> omega
theorem aft2 {s b : Int} (h1 : b = 62) (h2 : ¬ s = 0) (h3 : (s != 0) = true ∧ (s != 3) = true) : (6 : Int) = aft s b := by
  try simp only [bne_iff_ne, beq_iff_eq, bne_eq_false_iff_eq, beq_eq_false_iff_ne] at *
  unfold aft
  (repeat' split) <;> omega
theorem aft3 {s b : Int} (h1 : b = 62) (h2 : ¬ s = 0) (h3 : (s != 0) = false ∨ (s != 3) = false) : (0 : Int) = aft s b := by
  try simp only [bne_iff_ne, beq_iff_eq, bne_eq_false_iff_eq, beq_eq_false_iff_ne] at *
  unfold aft
  (repeat' split) <;> omega
theorem aft4 {s b : Int} (h1 : b = 45) (h2 : (s == 1) = true) : (2 : Int) = aft s b := by
  try simp only [bne_iff_ne, beq_iff_eq, bne_eq_false_iff_eq, beq_eq_false_iff_ne] at *
  unfold aft
  (repeat' split) <;> omega
theorem aft5 {s b : Int} (h1 : b = 45) (h2 : (s == 1) = false) (h3 : s = 2) : (4 : Int) = aft s b := by
  try simp only [bne_iff_ne, beq_iff_eq, bne_eq_false_iff_eq, beq_eq_false_iff_ne] at *
  unfold aft
  (repeat' split) <;> omega
theorem aft6 {s b : Int} (h1 : b = 45) (h2 : (s == 1) = false) (h3 : s = 3) : (4 : Int) = aft s b := by
  try simp only [bne_iff_ne, beq_iff_eq, bne_eq_false_iff_eq, beq_eq_false_iff_ne] at *
  unfold aft
  (repeat' split) <;> omega
theorem aft7 {s b : Int} (h1 : b = 45) (h2 : (s == 1) = false) (h3 : ((s == 2) = true ∨ (s == 3) = true) ∨ (s == 4) = true) : (4 : Int) = aft s b := by
  try simp only [bne_iff_ne, beq_iff_eq, bne_eq_false_iff_eq, beq_eq_false_iff_ne] at *
  unfold aft
  (repeat' split) <;> omega
theorem aft8 {s b : Int} (h1 : b = 45) (h2 : (s == 1) = false) (h3 : ((s == 2) = false ∧ (s == 3) = false) ∧ (s == 4) = false) : (3 : Int) = aft s b := by
  try simp only [bne_iff_ne, beq_iff_eq, bne_eq_false_iff_eq, beq_eq_false_iff_ne] at *
  unfold aft
  (repeat' split) <;> omega
theorem aft9 {s b : Int} (h1 : b = 33) (h2 : (s == 4) = true) : (5 : Int) = aft s b := by
  try simp only [bne_iff_ne, beq_iff_eq, bne_eq_false_iff_eq, beq_eq_false_iff_ne] at *
  unfold aft
  (repeat' split) <;> omega
theorem aft10 {s b : Int} (h1 : b = 33) (h2 : (s == 4) = false) : (0 : Int) = aft s b := by
  try simp only [bne_iff_ne, beq_iff_eq, bne_eq_false_iff_eq, beq_eq_false_iff_ne] at *
  unfold aft
  (repeat' split) <;> omega
theorem aft11 {s b : Int} (h1 : ¬ b = 62) (h2 : ¬ b = 45) (h3 : ¬ b = 33) : (0 : Int) = aft s b := by
  try simp only [bne_iff_ne, beq_iff_eq, bne_eq_false_iff_eq, beq_eq_false_iff_ne] at *
  unfold aft
  (repeat' split) <;> omega
theorem ret_i64 {a b : Int} (h : a = b) : Ending.returned (.int .i64 a) = .returned (.int .i64 b) := by rw [h]

set_option maxHeartbeats 1000000 in
theorem after_any (s b : Int) (w : World) : Calls Trym.prog 5 #[.int .i64 s, .int .u8 b] w fun e w' => e = .returned (.int .i64 (aft s b)) ∧ w' = w := by
  go_enter Trym.func5, Trym.ntmps5
  go_wp2
  · go_ret; exact ⟨ret_i64 (aft1 ‹_› ‹_›), rfl⟩
  · go_ret; exact ⟨ret_i64 (aft2 ‹_› ‹_› ‹_›), rfl⟩
  · go_ret; exact ⟨ret_i64 (aft3 ‹_› ‹_› ‹_›), rfl⟩
  · go_ret; exact ⟨ret_i64 (aft4 ‹_› ‹_›), rfl⟩
  · go_ret; exact ⟨ret_i64 (aft5 ‹_› ‹_› ‹s = 2›), rfl⟩
  · go_ret; exact ⟨ret_i64 (aft6 ‹_› ‹_› ‹s = 3›), rfl⟩
  · go_ret; exact ⟨ret_i64 (aft7 ‹_› ‹_› ‹_›), rfl⟩
  · go_ret; exact ⟨ret_i64 (aft8 ‹_› ‹_› ‹_›), rfl⟩
  · go_ret; exact ⟨ret_i64 (aft9 ‹_› ‹_›), rfl⟩
  · go_ret; exact ⟨ret_i64 (aft10 ‹_› ‹_›), rfl⟩
  · go_ret; exact ⟨ret_i64 (aft11 ‹_› ‹_› ‹_›), rfl⟩

/-! ### The text that a comment may end behind -/
def EndsP (p : ByteArray) : Prop := p.toList = [] ∨ p.toList = [45] ∨ Suf p ⟨#[45, 45]⟩ ∨ Suf p ⟨#[45, 45, 33]⟩

set_option maxHeartbeats 1000000 in
theorem ends_any (p : ByteArray) (w : World) (hp : p.size ≤ 65536) :
    Calls Trym.prog 6 #[.string p] w fun e w' => (∃ b, e = .returned (.bool b) ∧ (b = true ↔ EndsP p)) ∧ ∃ n, w' = w.drewN n := by
  go_enter Trym.func6, Trym.ntmps6
  go_wp2_with fail
  · go_ret
    exact ⟨⟨true, rfl, fun _ => .inl ‹_›, fun _ => rfl⟩, 0, rfl⟩
  · go_ret
    exact ⟨⟨true, rfl, fun _ => .inr (.inl ‹_›), fun _ => rfl⟩, 0, rfl⟩
  · have HE1 : Hid (¬ p.toList = []) := ‹¬ p.toList = []›
    have HE2 : Hid (¬ p.toList = [45]) := ‹¬ p.toList = [45]›
    refine (suffix_any p ⟨#[45, 45]⟩ w hp (by decide)).mono ?_
    rintro e w1 ⟨⟨b1, rfl, hb1⟩, n1, rfl⟩
    have HB1 : Hid (b1 = true ↔ Suf p ⟨#[45, 45]⟩) := hb1
    clear hb1
    cases b1 with
    | true =>
      go_wp2_with fail
      go_ret
      exact ⟨⟨true, rfl, fun _ => .inr (.inr (.inl (HB1.out.1 (by simp)))), fun _ => rfl⟩, n1, rfl⟩
    | false =>
      go_wp2_with fail
      refine (suffix_any p ⟨#[45, 45, 33]⟩ _ hp (by decide)).mono ?_
      rintro e w2 ⟨⟨b2, rfl, hb2⟩, n2, rfl⟩
      have HB2 : Hid (b2 = true ↔ Suf p ⟨#[45, 45, 33]⟩) := hb2
      clear hb2
      cases b2 with
      | true =>
        go_wp2_with fail
        go_ret
        exact ⟨⟨true, rfl, fun _ => .inr (.inr (.inr (HB2.out.1 (by simp)))), fun _ => rfl⟩, n1 + n2, by simp⟩
      | false =>
        go_wp2_with fail
        go_ret
        refine ⟨⟨_, rfl, fun h => ?_, fun h => ?_⟩, n1 + n2, by simp⟩
        · simp only [Bool.or_eq_true, List.isEmpty_iff, beq_iff_eq] at h
          rcases h with h | h
          · exact .inl h
          · exact .inr (.inl h)
        · rcases h with h | h | h | h
          · exact absurd h HE1.out
          · exact absurd h HE2.out
          · have := HB1.out.2 h
            simp at this
          · have := HB2.out.2 h
            simp at this
end Go.Proofs.Qxb6601567aMods
