import Derived.Test.Qxb6000430aModsBits
namespace Go.Proofs.Qxb6000430aMods
open Go.ChangeShapes Go.WideShapes Go.ChangeAt Go.RowKit
set_option linter.unusedVariables false

set_option maxHeartbeats 1000000 in
theorem bits_out (a b d : Option Addr) (n c m e q r : Nat) (f : Nat → ByteArray) (w : World) (hn : n ≤ maxLen) (hm : m ≤ maxLen) (hq : q ≤ maxLen) (h : CameS w b m f)
    (hbad : ¬ (n ≤ 65536 ∧ m = n ∧ q = n)) :
    Calls Trym.prog 7 #[.slice a n c, .slice b m e, .slice d q r] w fun e w' => e = .returned (.bool true) ∧ Below w.heap.size w w' := by
  unfold maxLen at hn hm hq
  have H : Hid (CameS w b m f) := h
  clear h
  go_enter Trym.func7, Trym.ntmps7
  go_wp2_with (first | (go_at_call 20; refine (bytes20_any _ _ _ _ _ _ _ _ _ f _ (by unfold maxLen; omega) (by unfold maxLen; omega) (by unfold maxLen; omega) H.out).mono ?_; rintro e w' ⟨⟨bb, rfl⟩, rfl⟩) | (go_at_call 11; refine (counts11_any _ _ _ _ _ _ _ _ _ f _ (by omega) (by omega) (by omega) H.out).mono ?_; rintro e w' ⟨⟨zz, rfl⟩, rfl⟩))
  all_goals (go_ret; exact ⟨rfl, Below.refl _ _⟩)

set_option maxRecDepth 4000 in
set_option maxHeartbeats 4000000 in
theorem bits_in (a b d : Option Addr) (n c e r : Nat) (B : Nat → Int) (S : Nat → ByteArray) (N : Nat → Int) (w : World) (hn : n ≤ 65536)
    (ca : a = none → n = 0 ∧ c = 0) (cb : b = none → n = 0 ∧ e = 0) (cd : d = none → n = 0 ∧ r = 0)
    (ha : CameV w a n (fun j => .int .u8 (B j))) (hb : CameV w b n (fun j => .string (S j))) (hd : CameV w d n (fun j => .int .i64 (N j))) :
    Calls Trym.prog 7 #[.slice a n c, .slice b n e, .slice d n r] w fun e w' => e = .returned (.bool true) ∧ Below w.heap.size w w' := by
  have CA : Hid (a = none → n = 0 ∧ c = 0) := ca
  have CB : Hid (b = none → n = 0 ∧ e = 0) := cb
  have CD : Hid (d = none → n = 0 ∧ r = 0) := cd
  have HA : Hid (CameV w a n (fun j => .int .u8 (B j))) := ha
  have HB : Hid (CameV w b n (fun j => .string (S j))) := hb
  have HD : Hid (CameV w d n (fun j => .int .i64 (N j))) := hd
  clear ca cb cd ha hb hd
  go_enter Trym.func7, Trym.ntmps7
  go_wp2_with (first | (go_at_call 20; refine (bytes20_any _ _ _ _ _ _ _ _ _ S _ (by unfold maxLen; omega) (by unfold maxLen; omega) (by unfold maxLen; omega) HB.out).mono ?_; rintro e w' ⟨⟨bb, rfl⟩, rfl⟩) | (go_at_call 11; refine (counts11_any _ _ _ _ _ _ _ _ _ S _ (by omega) (by omega) (by omega) HB.out).mono ?_; rintro e w' ⟨⟨zz, rfl⟩, rfl⟩))
  · go_ret; exact ⟨rfl, Below.refl _ _⟩
  · go_ret; exact ⟨rfl, Below.refl _ _⟩
  go_loop [7] (fun i => ∃ k : Nat, k ≤ n ∧ i = .int .i64 k ∧ Hid (∀ j, j < k → 0 ≤ N j ∧ N j ≤ 1099511627776)) (fun i => n - (intOf i).toNat)
  case atStart => exact ⟨0, Nat.zero_le _, rfl, fun j hj => absurd hj (by omega)⟩
  case round =>
    obtain ⟨k, hk, rfl, HN⟩ := hrel
    by_cases hlt : k < n
    · obtain ⟨db, off, rfl, hcell⟩ := HD.out (by omega)
      have ck := hcell k hlt
      clear HD CD HA HB CA CB hcell
      go_wp2
      all_goals try (go_ret; exact ⟨rfl, Below.refl _ _⟩)
      all_goals
        go_round
        case rel => exact ⟨k + 1, by omega, by go_num, fun j hj => by
            by_cases e : j = k
            · subst e; omega
            · exact HN.out j (by omega)⟩
        case measure => simp [intOf]; omega
    · obtain rfl : n = k := by omega
      go_wp2_with fail
      refine (cloneB_any a n c B _ hn CA.out HA.out).mono ?_
      rintro e1 w1 ⟨a1, rfl, k1⟩
      have HB1 : Hid (CameV w1 b n (fun j => .string (S j))) := HB.out.below k1.2
      have HD1 : Hid (CameV w1 d n (fun j => .int .i64 (N j))) := HD.out.below k1.2
      have K1 : Hid (Own w1 a1 n (fun j => .int .u8 (B j))) := Own.ofCloned k1
      have b1 := k1.2
      clear k1
      go_wp2_with fail
      refine (cloneS_any b n e S _ hn CB.out HB1.out).mono ?_
      rintro e1 w2 ⟨a2, rfl, k2⟩
      have HD2 : Hid (CameV w2 d n (fun j => .int .i64 (N j))) := HD1.out.below k2.2
      have K1' : Hid (Own w2 a1 n (fun j => .int .u8 (B j))) := K1.out.below k2.2
      have K2 : Hid (Own w2 a2 n (fun j => .string (S j))) := Own.ofCloned k2
      have b2 := k2.2
      clear k2
      go_wp2_with fail
      refine (cloneN_any d n r N _ hn CD.out HD2.out).mono ?_
      rintro e1 w3 ⟨a3, rfl, k3⟩
      have K1'' : Hid (Own w3 a1 n (fun j => .int .u8 (B j))) := K1'.out.below k3.2
      have K2' : Hid (Own w3 a2 n (fun j => .string (S j))) := K2.out.below k3.2
      have K3 : Hid (Own w3 a3 n (fun j => .int .i64 (N j))) := Own.ofCloned k3
      have b3 := k3.2
      clear k3 K1 K1' K2 HB1 HD1 HD2 HA HB HD CA CB CD
      go_wp2_with fail
      refine (zzbits_any a1 a2 a3 n n n n B S N w3 hn HN.out K1''.out K2'.out K3.out).mono ?_
      rintro e1 w4 ⟨rfl, b4⟩
      have L1 : Hid (Own w4 a1 n (fun j => .int .u8 (B j))) := K1''.out.below b4
      have L2 : Hid (Own w4 a2 n (fun j => .string (S j))) := K2'.out.below b4
      have L3 : Hid (Own w4 a3 n (fun j => .int .i64 (N j))) := K3.out.below b4
      clear K1'' K2' K3
      go_wp2_with fail
      refine (zzmost_any a1 a2 a3 n n n n B S N 0 true w4 hn L1.out L2.out L3.out).mono ?_
      rintro e1 w5 ⟨best0, c0, rfl, hm0, b5⟩
      have M0 : Hid (MostAt B S N 0 true n best0 c0) := hm0
      have L1' : Hid (Own w5 a1 n (fun j => .int .u8 (B j))) := L1.out.below b5
      have L2' : Hid (Own w5 a2 n (fun j => .string (S j))) := L2.out.below b5
      have L3' : Hid (Own w5 a3 n (fun j => .int .i64 (N j))) := L3.out.below b5
      clear hm0 L1 L2 L3
      go_wp2_with fail
      refine (zzmost_any a1 a2 a3 n n n n B S N 1 true w5 hn L1'.out L2'.out L3'.out).mono ?_
      rintro e1 w6 ⟨best1, c1, rfl, hm1, b6⟩
      have s1 := b1.size
      have s2 := b2.size
      have s3 := b3.size
      have s4 := b4.size
      have s5 := b5.size
      have bel : Below w'.heap.size w' w6 := ((((b1.trans (b2.mono s1)).trans (b3.mono (by omega))).trans (b4.mono (by omega))).trans (b5.mono (by omega))).trans (b6.mono (by omega))
      have F := bounds_most HN.out M0.out hm1
      have hv := zcnt_bd B N n
      have hz := zsum_bd (B := B) n HN.out
      have ho := osum_bd (B := B) n HN.out
      clear hm1 M0 L1' L2' L3' b1 b2 b3 b4 b5 b6 s1 s2 s3 s4 s5
      obtain ⟨f0, f1, f2, f3, f4, f5, f6⟩ := F
      generalize zsum B N n = z at *
      generalize osum B N n = o at *
      generalize zcnt B N n = v at *
      have p0 : 0 ≤ c0 * v := Int.mul_nonneg f0 hv.1
      have p1 : c0 * v ≤ 1099511627776 * 65536 := Int.mul_le_mul f1 (by omega) hv.1 (by omega)
      by_cases hv0 : v = 0
      · have hz0 := f5 hv0
        subst hv0
        subst hz0
        go_wp2
        go_ret
        exact ⟨rfl, bel⟩
      · have hz0 : ¬ z = 0 := by omega
        have hvb : (v == 0) = false := by simpa using hv0
        have hzb : (z == 0) = false := by simpa using hz0
        clear hv0 hz0 f5
        go_wp2
        go_ret
        exact ⟨rfl, bel⟩
end Go.Proofs.Qxb6000430aMods
