import Derived.Test.Qxb6000430aModsMost
import Derived.Deep.DeepCutAuto
namespace Go.Proofs.Qxb6000430aMods
open Go.ChangeShapes Go.WideShapes Go.ChangeAt Go.RowKit
set_option linter.unusedVariables false

set_option maxHeartbeats 1000000 in
theorem most_out (a b d : Option Addr) (n c m e q r : Nat) (f : Nat → ByteArray) (x : Int) (y : Bool) (w : World) (hn : n ≤ maxLen) (hm : m ≤ maxLen) (hq : q ≤ maxLen) (h : CameS w b m f)
    (hbad : ¬ (n ≤ 65536 ∧ m = n ∧ q = n)) :
    Calls Trym.prog 3 #[.slice a n c, .slice b m e, .slice d q r, .int .u8 x, .bool y] w fun e w' => e = .returned (.bool true) ∧ Below w.heap.size w w' := by
  unfold maxLen at hn hm hq
  have H : Hid (CameS w b m f) := h
  clear h
  go_enter Trym.func3, Trym.ntmps3
  go_wp2_with (first | (go_at_call 10; refine (bytes10_any _ _ _ _ _ _ _ _ _ f _ _ _ (by unfold maxLen; omega) (by unfold maxLen; omega) (by unfold maxLen; omega) H.out).mono ?_; rintro e w' ⟨⟨bb, rfl⟩, rfl⟩) | (go_at_call 11; refine (counts11_any _ _ _ _ _ _ _ _ _ f _ (by omega) (by omega) (by omega) H.out).mono ?_; rintro e w' ⟨⟨zz, rfl⟩, rfl⟩))
  all_goals (go_ret; exact ⟨rfl, Below.refl _ _⟩)

theorem bit_eq {x y : Int} (h : (x != y) = false) : x = y := by simpa using h
theorem bit_ne {x y : Int} (h : (x != y) = true) : ¬ x = y := by simpa using h
theorem same_no1 {x y : List UInt8} (h1 : x = []) (h2 : y.isEmpty = false) : ¬ x = y := fun h => by rw [← h, h1] at h2; cases h2
theorem same_no2 {x y : List UInt8} (h1 : (x == y) = false) : ¬ x = y := fun h => by rw [h] at h1; simp at h1
theorem less_no1 {x y : List UInt8} (h1 : x = []) (h2 : Op.bytesLess [] y = true) : ¬ Op.bytesLess x y = false := fun h => by rw [h1, h2] at h; cases h
theorem less_no2 {x y : List UInt8} (h2 : Op.bytesLess x y = true) : ¬ Op.bytesLess x y = false := fun h => by rw [h2] at h; cases h

/-- The winner's own entry is still to come. -/
def Later (B : Nat → Int) (S : Nat → ByteArray) (N : Nat → Int) (bit : Int) (bottom : Bool) (n : Nat) (best : ByteArray) (count : Int) (k : Nat) : Prop := ∃ j, k ≤ j ∧ j < n ∧ Elig B S bit bottom j ∧ N j = count ∧ (S j).toList = best.toList

theorem later_start1 {B : Nat → Int} {S : Nat → ByteArray} {N : Nat → Int} {bit : Int} {bottom : Bool} {n : Nat} {best : ByteArray} {count : Int} (h : MostAt B S N bit bottom n best count) : (count == 0) = true ∨ Later B S N bit bottom n best count 0 := by
  obtain ⟨_, h1, _⟩ := h
  rcases h1 with ⟨_, h1⟩ | ⟨j, hj, r⟩
  · left; simp [h1]
  · exact .inr ⟨j, by omega, hj, r⟩
theorem later_start2 {B : Nat → Int} {S : Nat → ByteArray} {N : Nat → Int} {bit : Int} {bottom : Bool} {n : Nat} {best : ByteArray} {count : Int} (h : MostAt B S N bit bottom n best count) (hb : ¬ best.toList = []) : false = true ∨ Later B S N bit bottom n best count 0 := by
  obtain ⟨_, h1, _⟩ := h
  rcases h1 with ⟨h1, _⟩ | ⟨j, hj, r⟩
  · exact absurd h1 hb
  · exact .inr ⟨j, by omega, hj, r⟩
theorem later_next {B : Nat → Int} {S : Nat → ByteArray} {N : Nat → Int} {bit : Int} {bottom : Bool} {n : Nat} {best : ByteArray} {count : Int} {k : Nat} {fb : Bool} (h : fb = true ∨ Later B S N bit bottom n best count k)
    (hk : Elig B S bit bottom k → N k = count → ¬ (S k).toList = best.toList) : fb = true ∨ Later B S N bit bottom n best count (k + 1) := by
  rcases h with h | ⟨j, h1, h2, h3, h4, h5⟩
  · exact .inl h
  · by_cases e : j = k
    · subst e; exact absurd h5 (hk h3 h4)
    · exact .inr ⟨j, by omega, h2, h3, h4, h5⟩
theorem later_done {B : Nat → Int} {S : Nat → ByteArray} {N : Nat → Int} {bit : Int} {bottom : Bool} {n : Nat} {best : ByteArray} {count : Int} {fb : Bool} (h : fb = true ∨ Later B S N bit bottom n best count n) : fb = true := by
  rcases h with h | ⟨j, h1, h2, _⟩
  · exact h
  · omega

set_option maxRecDepth 4000 in
set_option maxHeartbeats 4000000 in
theorem most_in (a b d : Option Addr) (n c e r : Nat) (B : Nat → Int) (S : Nat → ByteArray) (N : Nat → Int) (bit : Int) (bottom : Bool) (w : World) (hn : n ≤ 65536)
    (ca : a = none → n = 0 ∧ c = 0) (cb : b = none → n = 0 ∧ e = 0) (cd : d = none → n = 0 ∧ r = 0)
    (ha : CameV w a n (fun j => .int .u8 (B j))) (hb : CameV w b n (fun j => .string (S j))) (hd : CameV w d n (fun j => .int .i64 (N j))) :
    Calls Trym.prog 3 #[.slice a n c, .slice b n e, .slice d n r, .int .u8 bit, .bool bottom] w fun e w' => e = .returned (.bool true) ∧ Below w.heap.size w w' := by
  have CA : Hid (a = none → n = 0 ∧ c = 0) := ca
  have CB : Hid (b = none → n = 0 ∧ e = 0) := cb
  have CD : Hid (d = none → n = 0 ∧ r = 0) := cd
  have HA : Hid (CameV w a n (fun j => .int .u8 (B j))) := ha
  have HB : Hid (CameV w b n (fun j => .string (S j))) := hb
  have HD : Hid (CameV w d n (fun j => .int .i64 (N j))) := hd
  clear ca cb cd ha hb hd
  go_enter Trym.func3, Trym.ntmps3
  go_wp2_with (first | (go_at_call 10; refine (bytes10_any _ _ _ _ _ _ _ _ _ S _ _ _ (by unfold maxLen; omega) (by unfold maxLen; omega) (by unfold maxLen; omega) HB.out).mono ?_; rintro e w' ⟨⟨bb, rfl⟩, rfl⟩) | (go_at_call 11; refine (counts11_any _ _ _ _ _ _ _ _ _ S _ (by omega) (by omega) (by omega) HB.out).mono ?_; rintro e w' ⟨⟨zz, rfl⟩, rfl⟩))
  · go_ret; exact ⟨rfl, Below.refl _ _⟩
  · go_ret; exact ⟨rfl, Below.refl _ _⟩
  refine (cloneB_any a n c B _ hn CA.out HA.out).mono ?_
  rintro e1 w1 ⟨a1, rfl, k1⟩
  have HB1 : Hid (CameV w1 b n (fun j => .string (S j))) := HB.out.below k1.2
  have HD1 : Hid (CameV w1 d n (fun j => .int .i64 (N j))) := HD.out.below k1.2
  have K1 : Hid (Own w1 a1 n (fun j => .int .u8 (B j))) := Own.ofCloned k1
  have b1 := k1.2
  clear k1
  go_wp2_with fail
  refine (cloneS_any b n e S _ hn CB.out HB1.out).mono ?_
  rintro e1 w2 ⟨a2, rfl, k2⟩
  have HD2 : Hid (CameV w2 d n (fun j => .int .i64 (N j))) := HD1.out.below k2.2
  have K1' : Hid (Own w2 a1 n (fun j => .int .u8 (B j))) := K1.out.below k2.2
  have K2 : Hid (Own w2 a2 n (fun j => .string (S j))) := Own.ofCloned k2
  have b2 := k2.2
  clear k2
  go_wp2_with fail
  refine (cloneN_any d n r N _ hn CD.out HD2.out).mono ?_
  rintro e1 w3 ⟨a3, rfl, k3⟩
  have K1'' : Hid (Own w3 a1 n (fun j => .int .u8 (B j))) := K1'.out.below k3.2
  have K2' : Hid (Own w3 a2 n (fun j => .string (S j))) := K2.out.below k3.2
  have K3 : Hid (Own w3 a3 n (fun j => .int .i64 (N j))) := Own.ofCloned k3
  have b3 := k3.2
  clear k3 K1 K1' K2 HB1 HD1 HD2 HA HB HD CA CB CD
  go_wp2_with fail
  refine (zzmost_any a1 a2 a3 n n n n B S N bit bottom w3 hn K1''.out K2'.out K3.out).mono ?_
  rintro e1 w4 ⟨best, count, rfl, hmost, b4⟩
  have M : Hid (MostAt B S N bit bottom n best count) := hmost
  have V1 : Own w4 a1 n (fun j => .int .u8 (B j)) := K1''.out.below b4
  have V2 : Own w4 a2 n (fun j => .string (S j)) := K2'.out.below b4
  have V3 : Own w4 a3 n (fun j => .int .i64 (N j)) := K3.out.below b4
  have bel : Below w'.heap.size w' w4 := ((b1.trans (b2.mono b1.size)).trans (b3.mono (Nat.le_trans b1.size b2.size))).trans (b4.mono (Nat.le_trans b1.size (Nat.le_trans b2.size b3.size)))
  clear hmost K1'' K2' K3 b1 b2 b3 b4
  go_upto_region 13 with fail
  go_cut [13] (fun v wx => (∃ fb : Bool, v = .bool fb ∧ Hid (fb = true ∨ Later B S N bit bottom n best count 0)) ∧ wx = w4)
  case first =>
    go_wp2
    · go_meet
      case rel => exact ⟨⟨_, rfl, later_start1 M.out⟩, rfl⟩
    · go_meet
      case rel => exact ⟨⟨_, rfl, later_start2 M.out ‹_›⟩, rfl⟩
  case rest =>
    obtain ⟨⟨fb, rfl, hfb⟩, hwc⟩ := hcut
    subst hwc
    go_wp2
    go_loop [13, 14] (fun v i => ∃ (k : Nat) (fb : Bool), k ≤ n ∧ v = .bool fb ∧ i = .int .i64 k ∧ Hid (fb = true ∨ Later B S N bit bottom n best count k)) (fun _ i => n - (intOf i).toNat)
    case atStart => exact ⟨0, fb, Nat.zero_le _, rfl, rfl, hfb⟩
    case round =>
      clear hfb
      obtain ⟨k, fb, hk, rfl, rfl, hfb⟩ := hrel
      by_cases hlt : k < n
      · obtain ⟨g1, rfl, v1⟩ := V1 (by omega)
        obtain ⟨g2, rfl, v2⟩ := V2 (by omega)
        obtain ⟨g3, rfl, v3⟩ := V3 (by omega)
        have c1 := v1.2.1 k hlt
        have c2 := v2.2.1 k hlt
        have c3 := v3.2.1 k hlt
        have hk' : (k : Int) < (n : Int) := by omega
        have MK : Hid (Elig B S bit bottom k → N k ≤ count ∧ (N k = count → Op.bytesLess (S k).toList best.toList = false)) := M.out.2.2 k hlt
        clear v1 v2 v3
        go_wp2
        · go_round
          case rel => exact ⟨k + 1, fb, by omega, rfl, by go_num, later_next hfb.out (fun he _ => absurd he (elig4 (bit_ne ‹_›)))⟩
          case measure => simp [intOf]; omega
        · go_round
          case rel => exact ⟨k + 1, fb, by omega, rfl, by go_num, later_next hfb.out (fun he _ => absurd he (elig3 ‹_› ‹_›))⟩
          case measure => simp [intOf]; omega
        · exact absurd (MK.out (elig1 (bit_eq ‹_›) ‹_›)).1 (by omega)
        · exact absurd ((MK.out (elig1 (bit_eq ‹_›) ‹_›)).2 ‹N k = count›) (less_no1 ‹_› ‹_›)
        · go_round
          case rel => exact ⟨k + 1, true, by omega, rfl, by go_num, Or.inl rfl⟩
          case measure => simp [intOf]; omega
        · go_round
          case rel => exact ⟨k + 1, fb, by omega, rfl, by go_num, later_next hfb.out (fun _ _ => same_no1 ‹_› ‹_›)⟩
          case measure => simp [intOf]; omega
        · go_round
          case rel => exact ⟨k + 1, fb, by omega, rfl, by go_num, later_next hfb.out (fun _ x => absurd x ‹¬ N k = count›)⟩
          case measure => simp [intOf]; omega
        · exact absurd (MK.out (elig2 (bit_eq ‹_›) ‹_›)).1 (by omega)
        · exact absurd ((MK.out (elig2 (bit_eq ‹_›) ‹_›)).2 ‹N k = count›) (less_no2 ‹_›)
        · go_round
          case rel => exact ⟨k + 1, true, by omega, rfl, by go_num, Or.inl rfl⟩
          case measure => simp [intOf]; omega
        · go_round
          case rel => exact ⟨k + 1, fb, by omega, rfl, by go_num, later_next hfb.out (fun _ _ => same_no2 ‹_›)⟩
          case measure => simp [intOf]; omega
        · go_round
          case rel => exact ⟨k + 1, fb, by omega, rfl, by go_num, later_next hfb.out (fun _ x => absurd x ‹¬ N k = count›)⟩
          case measure => simp [intOf]; omega
      · obtain rfl : n = k := by omega
        obtain rfl := later_done hfb.out
        go_wp2
        go_ret
        exact ⟨rfl, bel⟩
end Go.Proofs.Qxb6000430aMods
