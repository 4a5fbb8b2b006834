/-
  'bits' (function 29) and 'ZZBits' (19).
-/
import Derived.Test.Qxb6000430aModsMost
namespace Go.Proofs.Qxb6000430aMods
open Go.ChangeShapes Go.WideShapes Go.ChangeAt Go.RowKit
set_option linter.unusedVariables false

/-! ### The plain law -/
def zsum (B N : Nat → Int) : Nat → Int
  | 0 => 0
  | k + 1 => zsum B N k + if B k = 0 then N k else 0
def osum (B N : Nat → Int) : Nat → Int
  | 0 => 0
  | k + 1 => osum B N k + if B k = 0 then 0 else N k
def zcnt (B N : Nat → Int) : Nat → Int
  | 0 => 0
  | k + 1 => zcnt B N k + if N k = 0 then 0 else if B k = 0 then 1 else 0

section
variable {B N : Nat → Int}
theorem zsum_bd : ∀ k, (∀ j, j < k → 0 ≤ N j ∧ N j ≤ 1099511627776) → 0 ≤ zsum B N k ∧ zsum B N k ≤ 1099511627776 * (k : Int)
  | 0, _ => by simp [zsum]
  | k + 1, h => by
    have ih := zsum_bd k (fun j hj => h j (by omega))
    have := h k (by omega)
    simp only [zsum]
    split <;> omega
theorem osum_bd : ∀ k, (∀ j, j < k → 0 ≤ N j ∧ N j ≤ 1099511627776) → 0 ≤ osum B N k ∧ osum B N k ≤ 1099511627776 * (k : Int)
  | 0, _ => by simp [osum]
  | k + 1, h => by
    have ih := osum_bd k (fun j hj => h j (by omega))
    have := h k (by omega)
    simp only [osum]
    split <;> omega
theorem zcnt_bd (B N : Nat → Int) : ∀ k, 0 ≤ zcnt B N k ∧ zcnt B N k ≤ (k : Int)
  | 0 => by simp [zcnt]
  | k + 1 => by
    have ih := zcnt_bd B N k
    simp only [zcnt]
    split
    · omega
    · split <;> omega
theorem zcnt_le : ∀ k, (∀ j, j < k → 0 ≤ N j) → zcnt B N k ≤ zsum B N k
  | 0, _ => by simp [zcnt, zsum]
  | k + 1, h => by
    have ih := zcnt_le k (fun j hj => h j (by omega))
    have := h k (by omega)
    simp only [zcnt, zsum]
    split
    · split <;> omega
    · split <;> omega
theorem zsum_le (c : Int) : ∀ k, (∀ j, j < k → B j = 0 → N j ≤ c) → zsum B N k ≤ c * zcnt B N k
  | 0, _ => by simp [zcnt, zsum]
  | k + 1, h => by
    have ih := zsum_le c k (fun j hj => h j (by omega))
    have hk := h k (by omega)
    simp only [zcnt, zsum]
    by_cases hB : B k = 0
    · by_cases hN : N k = 0
      · simp [hB, hN]; omega
      · simp [hB, hN]
        rw [Int.mul_add, Int.mul_one]
        have := hk hB
        omega
    · by_cases hN : N k = 0
      · simp [hB, hN]; omega
      · simp [hB, hN]; omega
theorem le_zsum : ∀ k, (∀ j, j < k → 0 ≤ N j) → ∀ j, j < k → B j = 0 → N j ≤ zsum B N k
  | 0, _, j, hj, _ => by omega
  | k + 1, h, j, hj, hb => by
    have h0 : 0 ≤ zsum B N k := by
      have a1 := zcnt_le (B := B) k (fun j hj => h j (by omega))
      have a2 := (zcnt_bd B N k).1
      omega
    have hk := h k (by omega)
    simp only [zsum]
    by_cases e : j = k
    · subst e; simp [hb]; omega
    · have ih := le_zsum k (fun j hj => h j (by omega)) j (by omega) hb
      split <;> omega
theorem osum_nn : ∀ k, (∀ j, j < k → 0 ≤ N j) → 0 ≤ osum B N k
  | 0, _ => by simp [osum]
  | k + 1, h => by
    have ih := osum_nn k (fun j hj => h j (by omega))
    have := h k (by omega)
    simp only [osum]
    split <;> omega
theorem le_osum : ∀ k, (∀ j, j < k → 0 ≤ N j) → ∀ j, j < k → ¬ B j = 0 → N j ≤ osum B N k
  | 0, _, j, hj, _ => by omega
  | k + 1, h, j, hj, hb => by
    have h0 := osum_nn (B := B) k (fun j hj => h j (by omega))
    have hk := h k (by omega)
    simp only [osum]
    by_cases e : j = k
    · subst e; simp [hb]; omega
    · have ih := le_osum k (fun j hj => h j (by omega)) j (by omega) hb
      split <;> omega

/-- All that the law asks. -/
theorem bounds_most {S : Nat → ByteArray} {n : Nat} {b0 b1 : ByteArray} {c0 c1 : Int} (h : ∀ j, j < n → 0 ≤ N j ∧ N j ≤ 1099511627776) (h0 : MostAt B S N 0 true n b0 c0) (h1 : MostAt B S N 1 true n b1 c1) :
    0 ≤ c0 ∧ c0 ≤ 1099511627776 ∧ c0 ≤ zsum B N n ∧ zsum B N n ≤ c0 * zcnt B N n ∧ zcnt B N n ≤ zsum B N n ∧ (zcnt B N n = 0 → zsum B N n = 0) ∧ c1 ≤ osum B N n := by
  have hnn : ∀ j, j < n → 0 ≤ N j := fun j hj => (h j hj).1
  obtain ⟨p0, p1, p2⟩ := h0
  obtain ⟨q0, q1, q2⟩ := h1
  have e1 : zsum B N n ≤ c0 * zcnt B N n := zsum_le c0 n (fun j hj hb => (p2 j hj ⟨hb, fun _ => rfl⟩).1)
  have e2 := zcnt_le (B := B) n hnn
  have e3 := (zcnt_bd B N n).1
  have e4 : c0 ≤ 1099511627776 := by
    rcases p1 with ⟨_, p1⟩ | ⟨j, hj, _, p1, _⟩
    · omega
    · have := h j hj; omega
  have e5 : c0 ≤ zsum B N n := by
    rcases p1 with ⟨_, p1⟩ | ⟨j, hj, he, p1, _⟩
    · omega
    · have := le_zsum n hnn j hj he.1; omega
  have e6 : c1 ≤ osum B N n := by
    rcases q1 with ⟨_, q1⟩ | ⟨j, hj, he, q1, _⟩
    · have := osum_nn (B := B) n hnn; omega
    · have := le_osum (B := B) n hnn j hj (by rw [he.1]; decide); omega
  refine ⟨p0, e4, e5, e1, e2, fun hz => ?_, e6⟩
  rw [hz, Int.mul_zero] at e1
  omega
end

theorem bits_zero (B N : Nat → Int) (k : Nat) (h : N k = 0) : zsum B N (k + 1) = zsum B N k ∧ osum B N (k + 1) = osum B N k ∧ zcnt B N (k + 1) = zcnt B N k := by
  simp [zsum, osum, zcnt, h]
theorem bits_bit (B N : Nat → Int) (k : Nat) (h : ¬ N k = 0) (hb : B k = 0) : zsum B N (k + 1) = zsum B N k + N k ∧ osum B N (k + 1) = osum B N k ∧ zcnt B N (k + 1) = zcnt B N k + 1 := by
  simp [zsum, osum, zcnt, h, hb]
theorem bits_one (B N : Nat → Int) (k : Nat) (h : ¬ N k = 0) (hb : ¬ B k = 0) : zsum B N (k + 1) = zsum B N k ∧ osum B N (k + 1) = osum B N k + N k ∧ zcnt B N (k + 1) = zcnt B N k := by
  simp [zsum, osum, zcnt, h, hb]

/-! ### The walk -/
set_option maxRecDepth 4000 in
set_option maxHeartbeats 2000000 in
theorem bits_any (g n : Nat) (B : Nat → Int) (S : Nat → ByteArray) (N : Nat → Int) (w : World) (hn : n ≤ 65536) (hN : ∀ j, j < n → 0 ≤ N j ∧ N j ≤ 1099511627776) (hC : Cnt w g n B S N) :
    Calls Trym.prog 29 #[.slice (some ⟨g, 0, none⟩) n n] w fun e w' => e = .returned (.tuple #[.int .i64 (zsum B N n), .int .i64 (osum B N n), .int .i64 (zcnt B N n)]) ∧ Below w.heap.size w w' := by
  have HN : Hid (∀ j, j < n → 0 ≤ N j ∧ N j ≤ 1099511627776) := hN
  clear hN
  go_enter Trym.func29, Trym.ntmps29
  go_wp2
  go_loopw [2, 3, 4, 9] (fun x y z i wr => ∃ (k : Nat), k ≤ n ∧ x = .int .i64 (zsum B N k) ∧ y = .int .i64 (osum B N k) ∧ z = .int .i64 (zcnt B N k) ∧ i = .int .i64 k ∧ Below w.heap.size w wr) (fun _ _ _ i _ => n - (intOf i).toNat)
  case atStart => exact ⟨0, Nat.zero_le _, rfl, rfl, rfl, rfl, Below.refl _ _⟩
  case round =>
    obtain ⟨k, hk, rfl, rfl, rfl, rfl, hbel⟩ := hrel
    have b1 := zsum_bd (B := B) k (fun j hj => HN.out j (by omega))
    have b2 := osum_bd (B := B) k (fun j hj => HN.out j (by omega))
    have b3 := zcnt_bd B N k
    by_cases hlt : k < n
    · obtain ⟨c0, c1, c2⟩ := (hC.below hbel hC.1).2.1 k hlt
      have b4 := HN.out k hlt
      have HB : Hid (∀ o, Below w.heap.size w (wr.alloc o)) := fun o => hbel.alloc hbel.size o
      go_wp2
      · have t1 : N k = 0 := by simpa using ‹(N k == 0) = true›
        have F := bits_zero B N k t1
        go_roundw
        case rel => exact ⟨k + 1, by omega, by rw [F.1], by rw [F.2.1], by rw [F.2.2], by go_num, HB.out _⟩
        case measure => simp [intOf]; omega
      · have t1 : ¬ N k = 0 := by simpa using ‹(N k == 0) = false›
        have t2 : B k = 0 := by simpa using ‹(B k == 0) = true›
        have F := bits_bit B N k t1 t2
        go_roundw
        case rel => exact ⟨k + 1, by omega, by rw [F.1], by rw [F.2.1], by rw [F.2.2], by go_num, HB.out _⟩
        case measure => simp [intOf]; omega
      · have t1 : ¬ N k = 0 := by simpa using ‹(N k == 0) = false›
        have t2 : ¬ B k = 0 := by simpa using ‹(B k == 0) = false›
        have F := bits_one B N k t1 t2
        go_roundw
        case rel => exact ⟨k + 1, by omega, by rw [F.1], by rw [F.2.1], by rw [F.2.2], by go_num, HB.out _⟩
        case measure => simp [intOf]; omega
    · obtain rfl : n = k := by omega
      go_wp2
      go_ret3
      exact ⟨rfl, hbel⟩

set_option maxHeartbeats 1000000 in
theorem zzbits_any (a b d : Option Addr) (n ca cb cd : Nat) (B : Nat → Int) (S : Nat → ByteArray) (N : Nat → Int) (w : World) (hn : n ≤ 65536) (hN : ∀ j, j < n → 0 ≤ N j ∧ N j ≤ 1099511627776)
    (ha : Own w a n (fun j => .int .u8 (B j))) (hb : Own w b n (fun j => .string (S j))) (hd : Own w d n (fun j => .int .i64 (N j))) :
    Calls Trym.prog 19 #[.slice a n ca, .slice b n cb, .slice d n cd] w fun e w' => e = .returned (.tuple #[.int .i64 (zsum B N n), .int .i64 (osum B N n), .int .i64 (zcnt B N n)]) ∧ Below w.heap.size w w' := by
  have HN : Hid (∀ j, j < n → 0 ≤ N j ∧ N j ≤ 1099511627776) := hN
  have HA : Hid (Own w a n (fun j => .int .u8 (B j))) := ha
  have HB : Hid (Own w b n (fun j => .string (S j))) := hb
  have HD : Hid (Own w d n (fun j => .int .i64 (N j))) := hd
  clear ha hb hd hN
  go_enter Trym.func19, Trym.ntmps19
  go_wp2_with fail
  refine (zzcounts_any a b d n ca cb cd B S N w hn HA.out HB.out HD.out).mono ?_
  rintro e w1 ⟨rfl, hC, hb1⟩
  have HC : Hid (Cnt w1 w.heap.size n B S N) := hC
  clear hC
  go_wp2_with fail
  refine (bits_any w.heap.size n B S N w1 hn HN.out HC.out).mono ?_
  rintro e w2 ⟨rfl, hb2⟩
  go_wp2_with fail
  go_ret3
  exact ⟨rfl, hb1.trans (hb2.mono hb1.size)⟩
end Go.Proofs.Qxb6000430aMods
