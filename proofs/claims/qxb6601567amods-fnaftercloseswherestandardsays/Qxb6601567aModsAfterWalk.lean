import Derived.Test.Qxb6601567aModsPlain
import Derived.Deep.LoopGhost
namespace Go.Proofs.Qxb6601567aMods
open Go.ChangeShapes Go.WideShapes Go.ChangeAt Go.RowKit
set_option linter.unusedVariables false

theorem after_at (s b x : Int) (hx : aft s b = x) (w : World) : Calls Trym.prog 5 #[.int .i64 s, .int .u8 b] w fun e w' => e = .returned (.int .i64 x) ∧ w' = w := by
  subst hx
  exact after_any s b w

theorem after_out (u : ByteArray) (w : World) (hu : u.size ≤ maxLen) (hbad : ¬ u.size ≤ 65536) :
    Calls Trym.prog 3 #[.string u] w fun e w' => e = .returned (.bool true) ∧ ∃ n, w' = w.drewN n := by
  unfold maxLen at hu
  go_enter Trym.func3, Trym.ntmps3
  go_wp2_with (go_at_call 4; refine (bytes4_any _ _ (by unfold maxLen; omega)).mono ?_; rintro e w' ⟨⟨bb, rfl⟩, rfl⟩)
  all_goals (go_ret; exact ⟨rfl, 0, rfl⟩)

set_option maxRecDepth 4000 in
set_option maxHeartbeats 2000000 in
theorem after_in (u : ByteArray) (w : World) (hu : u.size ≤ 65536) :
    Calls Trym.prog 3 #[.string u] w fun e w' => e = .returned (.bool true) ∧ ∃ n, w' = w.drewN n := by
  go_enter Trym.func3, Trym.ntmps3
  go_wp2_with fail
  refine (bytes4_any u w (by unfold maxLen; omega)).mono ?_
  rintro e w' ⟨⟨bb, rfl⟩, hw'⟩
  obtain rfl := hw'.symm
  cases bb with
  | false =>
    go_wp2
    go_ret
    exact ⟨rfl, 0, rfl⟩
  | true =>
    go_wp2
    go_loopg [3, 4, 5] u.size (fun gk g s i wr => ∃ (k : Nat) (st : Int), k + gk = u.size ∧ wr = w ∧ g = .int .i64 (-1) ∧ s = .int .i64 st ∧ i = .int .i64 k ∧ Hid (StAt u k st) ∧ Hid (∀ j, j < k → ¬ Closes u j))
    case atStart => exact ⟨0, 1, by omega, rfl, rfl, rfl, rfl, st_start u, fun j hj => absurd hj (by omega)⟩
    case round =>
      obtain ⟨k, st, hk, hwr, rfl, rfl, rfl, HS, HN⟩ := hrel
      obtain rfl := hwr.symm
      have HK : Hid (k + gk = u.size) := hk
      have hk : k ≤ u.size := by omega
      have hgo : ∀ (g : Int), (k < u.size ∧ g = k ∧ Closes u k) ∨ (k = u.size ∧ g = -1) → Hid (IsFirst u u.size g) := by
        rintro g (⟨h1, rfl, h2⟩ | ⟨rfl, rfl⟩)
        · exact .inr ⟨k, h1, rfl, h2, HN.out⟩
        · exact .inl ⟨rfl, HN.out⟩
      by_cases hlt : k < u.size
      · obtain ⟨x, hx⟩ : ∃ x, aft st (u[k].toNat : Int) = x := ⟨_, rfl⟩
        have hbyte := byteAt_get u k hlt
        have hx' : aft st (byteAt u k : Int) = x := by rw [hbyte]; exact hx
        by_cases h6 : x = 6
        · have HF : Hid (IsFirst u u.size (k : Int)) := hgo k (.inl ⟨hlt, rfl, (st_close HS.out).1 (by rw [hx']; exact h6)⟩)
          have HX : Hid (aft st (u[k].toNat : Int) = x) := hx
          have h6' : (x == 6) = true := by simpa using h6
          clear hgo hx hx' hbyte h6
          go_wp2_with (go_at_call 5; refine (after_at _ _ x HX.out _).mono ?_; rintro e w1 ⟨rfl, hw1⟩; obtain rfl := hw1.symm)
          go_loopg [6, 7] u.size (fun gk v i wr => ∃ (k2 : Nat), k2 + gk = u.size ∧ v = .int .i64 (-1) ∧ i = .int .i64 k2 ∧ Hid (∀ j, j < k2 → ¬ Closes u j) ∧ ∃ n, wr = w.drewN n)
          case atStart => exact ⟨0, by omega, rfl, rfl, fun j hj => absurd hj (by omega), 0, rfl⟩
          case round =>
            obtain ⟨k2, hk2, rfl, rfl, HN2, q, rfl⟩ := hrel
            have HK2 : Hid (k2 + gk = u.size) := hk2
            have hk2' : k2 ≤ u.size := by omega
            clear hk2
            by_cases hlt2 : k2 < u.size
            · have hbyte := byteAt_get u k2 hlt2
              have HE : Hid (EndsP (u.extract 0 k2) ↔ EndsAt u k2) := ends_head u k2 hk2'
              by_cases h62 : u[k2].toNat = 62
              · have h62' : ((u[k2].toNat : Int) == 62) = true := by rw [beq_iff_eq]; omega
                have HB62 : Hid (byteAt u k2 = 62) := by rw [hbyte]; exact h62
                clear h62 hbyte
                go_wp2_with fail
                refine (ends_any (u.extract 0 k2) _ (by simp; omega)).mono ?_
                rintro e w3 ⟨⟨b, rfl, hb⟩, n3, rfl⟩
                have HBE : Hid (b = true ↔ EndsP (u.extract 0 k2)) := hb
                clear hb
                cases hbb : b with
                | true =>
                  have HF2 : Hid (IsFirst u u.size (k2 : Int)) := .inr ⟨k2, hlt2, rfl, ⟨HB62.out, HE.out.1 (HBE.out.1 hbb)⟩, HN2.out⟩
                  have heq := first_unique HF.out HF2.out
                  clear HBE hbb HE HB62
                  obtain rfl : k = k2 := by omega
                  clear heq
                  go_wp2_with fail
                  go_ret
                  exact ⟨rfl, q + n3, by simp⟩
                | false =>
                  have HC : Hid (¬ Closes u k2) := fun h => by
                    have := HBE.out.2 (HE.out.2 h.2)
                    rw [hbb] at this
                    cases this
                  clear HBE hbb HE HB62
                  go_wp2_with fail
                  go_roundg (u.size - (k2 + 1))
                  case measure => have := HK2.out; omega
                  case rel => exact ⟨k2 + 1, by omega, rfl, by go_num, fun j hj => by
                      by_cases e : j = k2
                      · subst e; exact HC.out
                      · exact HN2.out j (by omega), q + n3, by simp⟩
              · have h62' : ((u[k2].toNat : Int) == 62) = false := by rw [beq_eq_false_iff_ne]; omega
                have HC : Hid (¬ Closes u k2) := fun h => h62 (by rw [← hbyte]; exact h.1)
                clear h62 hbyte
                go_wp2_with fail
                go_roundg (u.size - (k2 + 1))
                case measure => have := HK2.out; omega
                case rel => exact ⟨k2 + 1, by omega, rfl, by go_num, fun j hj => by
                    by_cases e : j = k2
                    · subst e; exact HC.out
                    · exact HN2.out j (by omega), q, rfl⟩
            · have HF2 : Hid (IsFirst u u.size (-1)) := .inl ⟨rfl, fun j hj => HN2.out j (by omega)⟩
              have heq := first_unique HF.out HF2.out
              exact absurd heq (by omega)
        · have HX : Hid (aft st (u[k].toNat : Int) = x) := hx
          have HS' : Hid (StAt u (k + 1) x) := by have := st_next HS.out (by rw [hx']; exact h6); rwa [hx'] at this
          have HC : Hid (¬ Closes u k) := fun h => h6 (by rw [← hx']; exact (st_close HS.out).2 h)
          have h6' : (x == 6) = false := by simpa using h6
          clear hgo hx hx' hbyte h6
          go_wp2_with (go_at_call 5; refine (after_at _ _ x HX.out _).mono ?_; rintro e w1 ⟨rfl, hw1⟩; obtain rfl := hw1.symm)
          go_roundg (u.size - (k + 1))
          case measure => have := HK.out; omega
          case rel => exact ⟨k + 1, x, by omega, rfl, rfl, rfl, by go_num, HS', fun j hj => by
              by_cases e : j = k
              · subst e; exact HC.out
              · exact HN.out j (by omega)⟩
      · have HF : Hid (IsFirst u u.size (-1)) := hgo (-1) (.inr ⟨by omega, rfl⟩)
        clear hgo
        go_wp2
        go_loopg [6, 7] u.size (fun gk v i wr => ∃ (k2 : Nat), k2 + gk = u.size ∧ v = .int .i64 (-1) ∧ i = .int .i64 k2 ∧ Hid (∀ j, j < k2 → ¬ Closes u j) ∧ ∃ n, wr = w.drewN n)
        case atStart => exact ⟨0, by omega, rfl, rfl, fun j hj => absurd hj (by omega), 0, rfl⟩
        case round =>
          obtain ⟨k2, hk2, rfl, rfl, HN2, q, rfl⟩ := hrel
          have HK2 : Hid (k2 + gk = u.size) := hk2
          have hk2' : k2 ≤ u.size := by omega
          clear hk2
          by_cases hlt2 : k2 < u.size
          · have hbyte := byteAt_get u k2 hlt2
            have HE : Hid (EndsP (u.extract 0 k2) ↔ EndsAt u k2) := ends_head u k2 hk2'
            by_cases h62 : u[k2].toNat = 62
            · have h62' : ((u[k2].toNat : Int) == 62) = true := by rw [beq_iff_eq]; omega
              have HB62 : Hid (byteAt u k2 = 62) := by rw [hbyte]; exact h62
              clear h62 hbyte
              go_wp2_with fail
              refine (ends_any (u.extract 0 k2) _ (by simp; omega)).mono ?_
              rintro e w3 ⟨⟨b, rfl, hb⟩, n3, rfl⟩
              have HBE : Hid (b = true ↔ EndsP (u.extract 0 k2)) := hb
              clear hb
              cases hbb : b with
              | true =>
                have HF2 : Hid (IsFirst u u.size (k2 : Int)) := .inr ⟨k2, hlt2, rfl, ⟨HB62.out, HE.out.1 (HBE.out.1 hbb)⟩, HN2.out⟩
                have heq := first_unique HF.out HF2.out
                clear HBE hbb HE HB62
                exact absurd heq (by omega)
              | false =>
                have HC : Hid (¬ Closes u k2) := fun h => by
                  have := HBE.out.2 (HE.out.2 h.2)
                  rw [hbb] at this
                  cases this
                clear HBE hbb HE HB62
                go_wp2_with fail
                go_roundg (u.size - (k2 + 1))
                case measure => have := HK2.out; omega
                case rel => exact ⟨k2 + 1, by omega, rfl, by go_num, fun j hj => by
                    by_cases e : j = k2
                    · subst e; exact HC.out
                    · exact HN2.out j (by omega), q + n3, by simp⟩
            · have h62' : ((u[k2].toNat : Int) == 62) = false := by rw [beq_eq_false_iff_ne]; omega
              have HC : Hid (¬ Closes u k2) := fun h => h62 (by rw [← hbyte]; exact h.1)
              clear h62 hbyte
              go_wp2_with fail
              go_roundg (u.size - (k2 + 1))
              case measure => have := HK2.out; omega
              case rel => exact ⟨k2 + 1, by omega, rfl, by go_num, fun j hj => by
                  by_cases e : j = k2
                  · subst e; exact HC.out
                  · exact HN2.out j (by omega), q, rfl⟩
          · have HF2 : Hid (IsFirst u u.size (-1)) := .inl ⟨rfl, fun j hj => HN2.out j (by omega)⟩
            have heq := first_unique HF.out HF2.out
            clear heq
            go_wp2_with fail
            go_ret
            exact ⟨rfl, q, rfl⟩
end Go.Proofs.Qxb6601567aMods
