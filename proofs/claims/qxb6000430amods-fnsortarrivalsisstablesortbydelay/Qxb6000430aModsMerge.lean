import Derived.Test.Qxb6000430aModsMem
import Derived.Deep.DeepCutAuto
import Derived.Deep.LoopGhost
import Derived.Deep.QuietTactic
import Derived.BigQuiet
namespace Go.Proofs.Qxb6000430aMods
open Go.ChangeShapes Go.WideShapes Go.ChangeAt Go.RowKit
set_option linter.unusedVariables false

set_option maxRecDepth 4000 in
set_option maxHeartbeats 4000000 in
theorem merge_any (a : Option Addr) (gd n ca : Nat) (D : Nat → Nat) (w : World) (hn : n ≤ 65536) (ha : 0 < n → a = some ⟨gd, 0, none⟩) (hI : 0 < n → Ints w .u32 gd n D) :
    Calls Trym.prog 24 #[.slice a n ca] w fun e w' => ∃ (g : Nat) (f : Nat → Nat), e = .returned (.slice (some ⟨g, 0, none⟩) n n) ∧ Ints w' .i64 g n f ∧ (0 < n → Srt.Good D 0 n (Srt.seg f 0 n)) ∧ Below w.heap.size w w' := by
  obtain ⟨ti, hti, hz0, hz1, hz2⟩ := info_parts info3
  have HA : Hid (0 < n → a = some ⟨gd, 0, none⟩) := ha
  clear ha
  go_enter Trym.func24, Trym.ntmps24
  go_wp2_with (at_make; refine wpList_make_full _ rfl _ _ 24 rfl w.heap.size 3 ti _ 1 Trym.underlying24 hti hz0 hz1 _ _ _ _ n rfl rfl rfl rfl (by rw [hz2]; omega) (by unfold maxLen; omega) (by omega) ?_; intro w1 hown hgrow; have hi1 := ints_made hown; have hb1 : Below w.heap.size w w1 := (Below.refl _ _).grown hgrow (by omega) (by simp); clear hown hgrow)
  go_loopw [5] (fun i wr => ∃ k : Nat, k ≤ n ∧ i = .int .i64 k ∧ (∃ f, Ints wr .i64 w.heap.size n f ∧ (∀ j, j < k → f j = j)) ∧ Below w.heap.size w wr) (fun i _ => n - (intOf i).toNat)
  case atStart => exact ⟨0, Nat.zero_le _, rfl, ⟨_, hi1, fun j hj => absurd hj (by omega)⟩, hb1⟩
  case round =>
    clear hi1 hb1
    obtain ⟨k, hk, rfl, ⟨f, hf, hff⟩, hbel⟩ := hrel
    by_cases hlt : k < n
    · have co := hf.2.1 k hlt
      have fo := hf.2.2 k
      go_wp2
      go_roundw
      case rel =>
        refine ⟨k + 1, by omega, by go_num, ⟨_, hf.set k k hlt, fun j hj => ?_⟩, hbel.setCell (p := ⟨w.heap.size, k, none⟩) (Nat.le_refl _) _⟩
        by_cases e : j = k
        · subst e; rw [Srt.upd_same]
        · rw [Srt.upd_other _ _ _ _ e]; exact hff j (by omega)
      case measure => simp [intOf]; omega
    · obtain rfl : n = k := by omega
      have hruns := Srt.runs_one D n f hff
      have hfw := hf.1
      clear hff
      go_wp2_with (at_make; refine wpList_make_full _ rfl _ _ 24 rfl w.heap.size 3 ti _ 1 Trym.underlying24 hti hz0 hz1 _ _ _ _ n rfl rfl rfl rfl (by rw [hz2]; omega) (by unfold maxLen; omega) (by omega) ?_; intro w2 hown hgrow; have ht2 := ints_made hown; have hf2 := hf.grown hgrow; have hb2 : Below w.heap.size w w2 := hbel.grown hgrow (by omega) (by simp); clear hown hgrow hf hbel)
      go_loopg [4, 6, 7] 131072 (fun gk x y z wr => ∃ (W g1 g2 : Nat) (f h : Nat → Nat), W + gk = 131073 ∧ 1 ≤ W ∧ x = .slice (some ⟨g1, 0, none⟩) n n ∧ y = .slice (some ⟨g2, 0, none⟩) n n ∧ z = .int .i64 W ∧ g1 ≠ g2 ∧ w.heap.size ≤ g1 ∧ w.heap.size ≤ g2
          ∧ Ints wr .i64 g1 n f ∧ Ints wr .i64 g2 n h ∧ Srt.Runs D W n n f ∧ Below w.heap.size w wr)
      case atStart => exact ⟨1, _, _, _, _, rfl, by omega, rfl, rfl, rfl, by omega, by omega, by omega, hf2, ht2, hruns, hb2⟩
      case round =>
        clear hf2 ht2 hruns hb2
        obtain ⟨W, g1, g2, f, h, hgk, hW, rfl, rfl, rfl, hgg, hw1, hw2, hf, hh, hruns, hbel⟩ := hrel
        by_cases hWn : W < n
        · obtain rfl := HA.out (by omega)
          have hI0 := hI (by omega)
          have hdw := hI0.1
          clear HA hI
          go_wp2
          go_loopg [8] 400000 (fun gk x wr => ∃ (L t : Nat) (h : Nat → Nat), L + gk = 400000 ∧ L = t * (2 * W) ∧ L < n + 2 * W ∧ x = .int .i64 L ∧ Ints wr .i64 g1 n f ∧ Ints wr .i64 g2 n h ∧ Srt.Runs D (2 * W) n L h ∧ Below w.heap.size w wr)
          case atStart => exact ⟨0, 0, h, rfl, by omega, by omega, rfl, hf, hh, fun t ht => absurd ht (by omega), hbel⟩
          case round =>
            clear hf hh hbel
            obtain ⟨L, t, h0, hgL, hLt, hLn, rfl, hf, hh, hrun2, hbel⟩ := hrel
            have HL : Hid (L = t * (2 * W)) := hLt
            clear hLt
            by_cases hLlt : L < n
            · obtain ⟨m, hm⟩ : ∃ m, m = min (L + W) n := ⟨_, rfl⟩
              obtain ⟨b, hb⟩ : ∃ b, b = min (L + 2 * W) n := ⟨_, rfl⟩
              have hm1 : L < m := by omega
              have hm2 : m ≤ b := by omega
              have hb2 : b ≤ n := by omega
              have HM : Hid (m = min (L + W) n) := hm
              have HBB : Hid (b = min (L + 2 * W) n) := hb
              clear hm hb
              go_upto_if 46 with fail
              go_cut [9] (fun v wx => v = .int .i64 m ∧ wx = wr)
              case first =>
                go_wp2
                · go_meet
                  case rel => exact ⟨congrArg (Value.int .i64) (by have := HM.out; omega), rfl⟩
                · go_meet
                  case rel => exact ⟨congrArg (Value.int .i64) (by have := HM.out; omega), rfl⟩
              case rest =>
                obtain ⟨rfl, hwc⟩ := hcut
                subst hwc
                go_upto_if 54 with fail
                go_cut [10] (fun v wx => v = .int .i64 b ∧ wx = wc)
                case first =>
                  go_wp2
                  · go_meet
                    case rel => exact ⟨congrArg (Value.int .i64) (by have := HBB.out; omega), rfl⟩
                  · go_meet
                    case rel => exact ⟨congrArg (Value.int .i64) (by have := HBB.out; omega), rfl⟩
                case rest =>
                  obtain ⟨rfl, hwc⟩ := hcut
                  subst hwc
                  go_wp2
                  have hRB := Srt.runs_bound D W n f hW hruns
                  have hRL : ∀ i j, L ≤ i → i < m → m ≤ j → j < b → f i < f j := fun i j h1 h2 h3 h4 => Srt.runs_lt D W n t f hruns i j (by rw [← HL.out]; exact h1) (by rw [← HL.out, ← HM.out]; exact h2) (by rw [← HL.out, ← HM.out]; exact h3) (by rw [← HL.out, ← HBB.out]; exact h4)
                  have HRB : Hid (∀ i, i < n → f i < n) := hRB
                  have HRL : Hid (∀ i j, L ≤ i → i < m → m ≤ j → j < b → f i < f j) := hRL
                  clear hRB hRL
                  go_loopw [11, 12, 13] (fun x y z wr => ∃ (i j k : Nat) (h : Nat → Nat), x = .int .i64 i ∧ y = .int .i64 j ∧ z = .int .i64 k ∧ Srt.MInv D f h h0 L m b i j k ∧ Ints wr .i64 g1 n f ∧ Ints wr .i64 g2 n h ∧ Below w.heap.size w wr) (fun _ _ z _ => 70000 - (intOf z).toNat)
                  case atStart => exact ⟨L, m, L, h0, rfl, rfl, rfl, Srt.minv_start D f h0 L m b (by omega) hm2, hf, hh, hbel⟩
                  case round =>
                    clear hf hh hbel
                    obtain ⟨i, j, k, h, rfl, rfl, rfl, hinv, hf, hh, hbel⟩ := hrel
                    have v1 := hinv.hai
                    have v2 := hinv.him
                    have v3 := hinv.hmj
                    have v4 := hinv.hjb
                    have v5 := hinv.hk
                    have HINV : Hid (Srt.MInv D f h h0 L m b i j k) := hinv
                    have V5 : Hid (k + m = i + j) := v5
                    have v6 : k ≤ n := by omega
                    clear hinv v5
                    by_cases hij : i < m ∧ j < b
                    · obtain ⟨him, hjb⟩ := hij
                      have hkn : k < n := by have := V5.out; omega
                      have ci := hf.2.1 i (by omega)
                      have cj := hf.2.1 j (by omega)
                      have ck := hh.2.1 k hkn
                      have fk := hh.2.2 k
                      have bi : f i < n := HRB.out i (by omega)
                      have bj : f j < n := HRB.out j (by omega)
                      have hID := hI0.below hbel hdw
                      have cdi := hID.2.1 (f i) bi
                      have cdj := hID.2.1 (f j) bj
                      have hlt := HRL.out i j v1 him v3 hjb
                      go_wp2
                      go_quiet (fail)
                      go_wp2
                      · have ht : D (f j) < D (f i) := by assumption
                        go_roundw
                        case rel => exact ⟨i, j + 1, k + 1, _, rfl, by go_num, by go_num, Srt.minv_right D HINV.out hjb (fun _ => ht), (hf.drewN _).other _ _ _ hgg, (hh.drewN _).set k (f j) hkn, (below_drewN hbel _).setCell (p := ⟨g2, k, none⟩) hw2 _⟩
                        case measure => simp [intOf]; omega
                      · have ht : ¬ D (f j) < D (f i) := by assumption
                        go_roundw
                        case rel => exact ⟨i + 1, j, k + 1, _, by go_num, rfl, by go_num, Srt.minv_left D HINV.out him (fun _ => ht) (fun _ => hlt), (hf.drewN _).other _ _ _ hgg, (hh.drewN _).set k (f i) hkn, (below_drewN hbel _).setCell (p := ⟨g2, k, none⟩) hw2 _⟩
                        case measure => simp [intOf]; omega
                    · have hex : i = m ∨ j = b := by omega
                      go_wp2
                      all_goals
                        go_loopw [11, 13] (fun x z wr => ∃ (i k : Nat) (h : Nat → Nat), x = .int .i64 i ∧ z = .int .i64 k ∧ (i = m ∨ j = b) ∧ Srt.MInv D f h h0 L m b i j k ∧ Ints wr .i64 g1 n f ∧ Ints wr .i64 g2 n h ∧ Below w.heap.size w wr) (fun _ z _ => 70000 - (intOf z).toNat)
                        case atStart => exact ⟨i, k, h, rfl, rfl, hex, HINV.out, hf, hh, hbel⟩
                        case round =>
                          clear hf hh hbel hex hij HINV V5 v1 v2 v6
                          obtain ⟨i, k, h, rfl, rfl, hex, hinv, hf, hh, hbel⟩ := hrel
                          have v1 := hinv.hai
                          have v2 := hinv.him
                          have V5 : Hid (k + m = i + j) := hinv.hk
                          have v6 : k ≤ n := by have := V5.out; omega
                          have HINV : Hid (Srt.MInv D f h h0 L m b i j k) := hinv
                          have HEX : Hid (i = m ∨ j = b) := hex
                          clear hinv hex
                          by_cases him : i < m
                          · have hkn : k < n := by have := V5.out; have := HEX.out; omega
                            have ci := hf.2.1 i (by omega)
                            have ck := hh.2.1 k hkn
                            have fk := hh.2.2 k
                            have hjb : j = b := by have := HEX.out; omega
                            have HJB : Hid (j = b) := hjb
                            clear hjb
                            go_wp2
                            go_roundw
                            case rel => exact ⟨i + 1, k + 1, _, by go_num, by go_num, Or.inr HJB.out, Srt.minv_left D HINV.out him (fun x => absurd x (by have := HJB.out; omega)) (fun x => absurd x (by have := HJB.out; omega)), hf.other _ _ _ hgg, hh.set k (f i) hkn, hbel.setCell (p := ⟨g2, k, none⟩) hw2 _⟩
                            case measure => simp [intOf]; omega
                          · obtain rfl : m = i := by omega
                            go_wp2
                            go_loopw [12, 13] (fun y z wr => ∃ (j k : Nat) (h : Nat → Nat), y = .int .i64 j ∧ z = .int .i64 k ∧ Srt.MInv D f h h0 L m b m j k ∧ Ints wr .i64 g1 n f ∧ Ints wr .i64 g2 n h ∧ Below w.heap.size w wr) (fun _ z _ => 70000 - (intOf z).toNat)
                            case atStart => exact ⟨j, k, h, rfl, rfl, HINV.out, hf, hh, hbel⟩
                            case round =>
                              clear hf hh hbel HEX HINV V5 v1 v2 v3 v4 v6
                              obtain ⟨j, k, h, rfl, rfl, hinv, hf, hh, hbel⟩ := hrel
                              have v3 := hinv.hmj
                              have v4 := hinv.hjb
                              have V5 : Hid (k + m = m + j) := hinv.hk
                              have v6 : k ≤ n := by have := V5.out; omega
                              have HINV : Hid (Srt.MInv D f h h0 L m b m j k) := hinv
                              clear hinv
                              by_cases hjb : j < b
                              · have hkn : k < n := by have := V5.out; omega
                                have cj := hf.2.1 j (by omega)
                                have ck := hh.2.1 k hkn
                                have fk := hh.2.2 k
                                go_wp2
                                go_roundw
                                case rel => exact ⟨j + 1, k + 1, _, by go_num, by go_num, Srt.minv_right D HINV.out hjb (fun x => absurd x (by omega)), hf.other _ _ _ hgg, hh.set k (f j) hkn, hbel.setCell (p := ⟨g2, k, none⟩) hw2 _⟩
                                case measure => simp [intOf]; omega
                              · obtain rfl : b = j := by omega
                                have hdone := Srt.minv_done D HINV.out
                                have hold := HINV.out.old
                                have HD1 : Hid (Srt.seg h L b = (Srt.seg f L m).merge (Srt.seg f m b) (Srt.leB D)) := hdone.2
                                have HD2 : Hid (∀ x, x < L → h x = h0 x) := hold
                                clear hdone hold
                                go_wp2
                                go_roundg (400000 - (L + 2 * W))
                                case measure => omega
                                case rel =>
                                  have hr3 : Srt.Runs D (2 * W) n (L + 2 * W) h := by
                                    have e0 := HL.out
                                    have e1 := HM.out
                                    have e2 := HBB.out
                                    have d1 := HD1.out
                                    have d2 := HD2.out
                                    rw [e1, e2] at d1
                                    rw [e0] at d1 d2
                                    have hr := Srt.runs_next D W n t f h h0 (by omega) hruns (by rw [← e0]; exact hLlt) (by rw [← e0]; exact hrun2) d2 d1
                                    rw [show (t + 1) * (2 * W) = t * (2 * W) + 2 * W from Nat.succ_mul _ _, ← e0] at hr
                                    exact hr
                                  exact ⟨L + 2 * W, t + 1, h, by omega, by rw [show (t + 1) * (2 * W) = t * (2 * W) + 2 * W from Nat.succ_mul _ _, ← HL.out], by omega, by go_num, hf, hh, hr3, hbel⟩
            · go_wp2
              go_roundg (131073 - 2 * W)
              case measure => omega
              case rel => exact ⟨2 * W, g2, g1, h0, f, by omega, by omega, rfl, rfl, by go_num, Ne.symm hgg, hw2, hw1, hh, hf, fun u hu => hrun2 u (by omega), hbel⟩
        · go_wp2
          go_ret
          refine ⟨g1, f, rfl, hf, fun h0 => Srt.runs_full D W n f (by omega) h0 hruns, hbel⟩
end Go.Proofs.Qxb6000430aMods
