/-
  'most' (function 27) and 'ZZMost' (15): what they answer, said of the entries.
-/
import Derived.Test.Qxb6000430aModsCounts
import Derived.Deep.QuietTactic
import Derived.BigQuiet
namespace Go.Proofs.Qxb6000430aMods
open Go.ChangeShapes Go.WideShapes Go.ChangeAt Go.RowKit
set_option linter.unusedVariables false

/-! ### The order of strings -/
theorem less_irrefl : ∀ x : List UInt8, Op.bytesLess x x = false
  | [] => rfl
  | a :: x => by simp [Op.bytesLess, less_irrefl x]

theorem less_trans : ∀ x y z : List UInt8, Op.bytesLess x y = true → Op.bytesLess y z = true → Op.bytesLess x z = true
  | _, [], _, h, _ => by simp [Op.bytesLess] at h
  | _, _ :: _, [], _, h => by simp [Op.bytesLess] at h
  | [], _ :: _, _ :: _, _, _ => rfl
  | a :: x, b :: y, c :: z, h1, h2 => by
    simp only [Op.bytesLess, Bool.or_eq_true, decide_eq_true_eq, Bool.and_eq_true, beq_iff_eq] at h1 h2 ⊢
    rcases h1 with h1 | ⟨rfl, h1⟩
    · rcases h2 with h2 | ⟨rfl, h2⟩
      · left; rw [UInt8.lt_iff_toNat_lt] at *; omega
      · exact Or.inl h1
    · rcases h2 with h2 | ⟨rfl, h2⟩
      · exact Or.inl h2
      · exact Or.inr ⟨rfl, less_trans x y z h1 h2⟩

/-! ### The plain law -/
section
variable (B : Nat → Int) (S : Nat → ByteArray) (N : Nat → Int) (bit : Int) (bottom : Bool)
/-- Entry j counts for this bit. -/
def Elig (j : Nat) : Prop := B j = bit ∧ ((S j).toList = [] → bottom = true)
/-- The winner of the first k entries. -/
def MostAt (k : Nat) (best : ByteArray) (count : Int) : Prop :=
  0 ≤ count ∧ ((best.toList = [] ∧ count = 0) ∨ ∃ j, j < k ∧ Elig B S bit bottom j ∧ N j = count ∧ (S j).toList = best.toList) ∧
    ∀ j, j < k → Elig B S bit bottom j → N j ≤ count ∧ (N j = count → Op.bytesLess (S j).toList best.toList = false)

theorem most_start (best : ByteArray) (h : best.toList = []) : MostAt B S N bit bottom 0 best 0 := ⟨by omega, .inl ⟨h, rfl⟩, fun j hj => absurd hj (by omega)⟩

variable {B S N bit bottom} {k : Nat} {best : ByteArray} {count : Int}
theorem most_keep (h : MostAt B S N bit bottom k best count) (hk : Elig B S bit bottom k → N k ≤ count ∧ (N k = count → Op.bytesLess (S k).toList best.toList = false)) : MostAt B S N bit bottom (k + 1) best count := by
  obtain ⟨h0, h1, h2⟩ := h
  refine ⟨h0, ?_, fun j hj he => ?_⟩
  · rcases h1 with h1 | ⟨j, hj, r⟩
    · exact .inl h1
    · exact .inr ⟨j, by omega, r⟩
  · by_cases e : j = k
    · subst e; exact hk he
    · exact h2 j (by omega) he

theorem most_skip (h : MostAt B S N bit bottom k best count) (hk : ¬ Elig B S bit bottom k) : MostAt B S N bit bottom (k + 1) best count := most_keep h (fun x => absurd x hk)

theorem most_more (h : MostAt B S N bit bottom k best count) (he : Elig B S bit bottom k) (hlt : count < N k) : MostAt B S N bit bottom (k + 1) (S k) (N k) := by
  obtain ⟨h0, h1, h2⟩ := h
  refine ⟨by omega, .inr ⟨k, by omega, he, rfl, rfl⟩, fun j hj he' => ?_⟩
  by_cases e : j = k
  · subst e; exact ⟨by omega, fun _ => less_irrefl _⟩
  · have := (h2 j (by omega) he').1
    exact ⟨by omega, fun x => absurd x (by omega)⟩

theorem most_tie (h : MostAt B S N bit bottom k best count) (he : Elig B S bit bottom k) (heq : N k = count) (hl : Op.bytesLess (S k).toList best.toList = true) (c : Int) (hc : c = count) : MostAt B S N bit bottom (k + 1) (S k) c := by
  subst hc
  obtain ⟨h0, h1, h2⟩ := h
  refine ⟨h0, .inr ⟨k, by omega, he, heq, rfl⟩, fun j hj he' => ?_⟩
  by_cases e : j = k
  · subst e; exact ⟨by omega, fun _ => less_irrefl _⟩
  · obtain ⟨a1, a2⟩ := h2 j (by omega) he'
    refine ⟨a1, fun x => ?_⟩
    have := a2 x
    cases hx : Op.bytesLess (S j).toList (S k).toList with
    | false => rfl
    | true => rw [less_trans _ _ _ hx hl] at this; cases this
end

theorem empty_toList : (ByteArray.mk #[]).toList = [] := by
  rw [ByteArray.toList, ByteArray.toList.loop]
  rfl

theorem elig1 {B : Nat → Int} {S : Nat → ByteArray} {bit : Int} {bottom : Bool} {k : Nat} (h : B k = bit) (hb : (!bottom) = false) : Elig B S bit bottom k := ⟨h, fun _ => by simpa using hb⟩
theorem elig2 {B : Nat → Int} {S : Nat → ByteArray} {bit : Int} {bottom : Bool} {k : Nat} (h : B k = bit) (hs : ¬ (S k).toList = []) : Elig B S bit bottom k := ⟨h, fun x => absurd x hs⟩
theorem elig3 {B : Nat → Int} {S : Nat → ByteArray} {bit : Int} {bottom : Bool} {k : Nat} (hs : (S k).toList = []) (hb : (!bottom) = true) : ¬ Elig B S bit bottom k := fun x => by
  have := x.2 hs
  rw [this] at hb
  cases hb
theorem elig4 {B : Nat → Int} {S : Nat → ByteArray} {bit : Int} {bottom : Bool} {k : Nat} (h : ¬ B k = bit) : ¬ Elig B S bit bottom k := fun x => h x.1

/-! ### The walk -/
set_option maxRecDepth 4000 in
set_option maxHeartbeats 4000000 in
theorem most_any (g n : Nat) (B : Nat → Int) (S : Nat → ByteArray) (N : Nat → Int) (bit : Int) (bottom : Bool) (w : World) (hn : n ≤ 65536) (hC : Cnt w g n B S N) :
    Calls Trym.prog 27 #[.slice (some ⟨g, 0, none⟩) n n, .int .u8 bit, .bool bottom] w fun e w' => ∃ best count, e = .returned (.tuple #[.string best, .int .i64 count]) ∧ MostAt B S N bit bottom n best count ∧ Below w.heap.size w w' := by
  go_enter Trym.func27, Trym.ntmps27
  go_wp2
  go_loopw [8, 9, 14] (fun x y i wr => ∃ (k : Nat) (best : ByteArray) (count : Int), k ≤ n ∧ x = .string best ∧ y = .int .i64 count ∧ i = .int .i64 k ∧ MostAt B S N bit bottom k best count ∧ Below w.heap.size w wr) (fun _ _ i _ => n - (intOf i).toNat)
  case atStart => exact ⟨0, _, _, Nat.zero_le _, rfl, rfl, rfl, most_start B S N bit bottom _ empty_toList, Below.refl _ _⟩
  case round =>
    obtain ⟨k, best, count, hk, rfl, rfl, rfl, hmost, hbel⟩ := hrel
    have HM : Hid (MostAt B S N bit bottom k best count) := hmost
    clear hmost
    by_cases hlt : k < n
    · obtain ⟨c0, c1, c2⟩ := (hC.below hbel hC.1).2.1 k hlt
      have HB : Hid (∀ o, Below w.heap.size w (wr.alloc o)) := fun o => hbel.alloc hbel.size o
      go_wp2
      all_goals try go_quiet (fail)
      all_goals try go_wp2
      · go_roundw
        case rel => exact ⟨k + 1, best, count, by omega, rfl, rfl, by go_num, most_skip HM.out (elig3 ‹_› ‹_›), HB.out _⟩
        case measure => simp [intOf]; omega
      · go_roundw
        case rel => exact ⟨k + 1, S k, count, by omega, rfl, rfl, by go_num, most_tie HM.out (elig1 ‹_› ‹_›) ‹N k = count› (by rw [‹(S k).toList = []›]; assumption) _ rfl, below_drewN (HB.out _) _⟩
        case measure => simp [intOf]; omega
      · go_roundw
        case rel => exact ⟨k + 1, best, count, by omega, rfl, rfl, by go_num, most_keep HM.out (fun _ => ⟨by omega, fun _ => by rw [‹(S k).toList = []›]; assumption⟩), HB.out _⟩
        case measure => simp [intOf]; omega
      · go_roundw
        case rel => exact ⟨k + 1, best, count, by omega, rfl, rfl, by go_num, most_keep HM.out (fun _ => ⟨by omega, fun x => absurd x ‹¬ N k = count›⟩), HB.out _⟩
        case measure => simp [intOf]; omega
      · go_roundw
        case rel => exact ⟨k + 1, S k, N k, by omega, rfl, rfl, by go_num, most_more HM.out (elig1 ‹_› ‹_›) ‹count < N k›, below_drewN (HB.out _) _⟩
        case measure => simp [intOf]; omega
      · go_roundw
        case rel => exact ⟨k + 1, S k, count, by omega, rfl, rfl, by go_num, most_tie HM.out (elig2 ‹_› ‹_›) ‹N k = count› ‹_› _ rfl, below_drewN (HB.out _) _⟩
        case measure => simp [intOf]; omega
      · go_roundw
        case rel => exact ⟨k + 1, best, count, by omega, rfl, rfl, by go_num, most_keep HM.out (fun _ => ⟨by omega, fun _ => ‹Op.bytesLess _ _ = false›⟩), HB.out _⟩
        case measure => simp [intOf]; omega
      · go_roundw
        case rel => exact ⟨k + 1, best, count, by omega, rfl, rfl, by go_num, most_keep HM.out (fun _ => ⟨by omega, fun x => absurd x ‹¬ N k = count›⟩), HB.out _⟩
        case measure => simp [intOf]; omega
      · go_roundw
        case rel => exact ⟨k + 1, S k, N k, by omega, rfl, rfl, by go_num, most_more HM.out (elig2 ‹_› ‹_›) ‹count < N k›, below_drewN (HB.out _) _⟩
        case measure => simp [intOf]; omega
      · go_roundw
        case rel => exact ⟨k + 1, best, count, by omega, rfl, rfl, by go_num, most_skip HM.out (elig4 ‹_›), HB.out _⟩
        case measure => simp [intOf]; omega
    · obtain rfl : n = k := by omega
      go_wp2
      go_ret2
      exact ⟨best, count, rfl, HM.out, hbel⟩

set_option maxHeartbeats 1000000 in
theorem zzmost_any (a b d : Option Addr) (n ca cb cd : Nat) (B : Nat → Int) (S : Nat → ByteArray) (N : Nat → Int) (bit : Int) (bottom : Bool) (w : World) (hn : n ≤ 65536)
    (ha : Own w a n (fun j => .int .u8 (B j))) (hb : Own w b n (fun j => .string (S j))) (hd : Own w d n (fun j => .int .i64 (N j))) :
    Calls Trym.prog 15 #[.slice a n ca, .slice b n cb, .slice d n cd, .int .u8 bit, .bool bottom] w fun e w' => ∃ best count, e = .returned (.tuple #[.string best, .int .i64 count]) ∧ MostAt B S N bit bottom n best count ∧ Below w.heap.size w w' := by
  have HA : Hid (Own w a n (fun j => .int .u8 (B j))) := ha
  have HB : Hid (Own w b n (fun j => .string (S j))) := hb
  have HD : Hid (Own w d n (fun j => .int .i64 (N j))) := hd
  clear ha hb hd
  go_enter Trym.func15, Trym.ntmps15
  go_wp2_with fail
  refine (zzcounts_any a b d n ca cb cd B S N w hn HA.out HB.out HD.out).mono ?_
  rintro e w1 ⟨rfl, hC, hb1⟩
  have HC : Hid (Cnt w1 w.heap.size n B S N) := hC
  clear hC
  go_wp2_with fail
  refine (most_any w.heap.size n B S N bit bottom w1 hn HC.out).mono ?_
  rintro e w2 ⟨best, count, rfl, hm, hb2⟩
  have HM : Hid (MostAt B S N bit bottom n best count) := hm
  clear hm
  go_wp2_with fail
  go_ret2
  exact ⟨best, count, rfl, HM.out, hb1.trans (hb2.mono hb1.size)⟩
end Go.Proofs.Qxb6000430aMods
