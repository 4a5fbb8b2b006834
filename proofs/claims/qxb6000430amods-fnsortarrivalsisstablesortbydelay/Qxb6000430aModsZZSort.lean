import Derived.Test.Qxb6000430aModsRadix
namespace Go.Proofs.Qxb6000430aMods
open Go.ChangeShapes Go.WideShapes Go.ChangeAt Go.RowKit
set_option linter.unusedVariables false

set_option maxRecDepth 4000 in
set_option maxHeartbeats 2000000 in
theorem zzsort_any (a b : Option Addr) (gd gt n ca cb most : Nat) (D T : Nat → Nat) (w : World) (hn : n ≤ 65536) (ha : 0 < n → a = some ⟨gd, 0, none⟩) (hb : 0 < n → b = some ⟨gt, 0, none⟩)
    (hI : 0 < n → Ints w .u32 gd n D) (hT : 0 < n → Ints w .u32 gt n T) (hD : ∀ j, j < n → D j ≤ most) (hm : most < 4294967296) :
    Calls Trym.prog 23 #[.slice a n ca, .slice b n cb, .int .u32 most] w fun e w' => ∃ (g1 g2 : Nat) (p : List Nat), e = .returned (.tuple #[.slice (some ⟨g1, 0, none⟩) n n, .slice (some ⟨g2, 0, none⟩) n n])
      ∧ p.Perm (List.range n) ∧ (p.Pairwise fun a b => Srt.leB D a b = true) ∧ Ints w' .u32 g1 n (Srt.via D p) ∧ Ints w' .u32 g2 n (Srt.via T p) ∧ Below w.heap.size w w' := by
  obtain ⟨ti, hti, hz0, hz1, hz2⟩ := info_parts info53
  obtain ⟨tu, htu, hu0, hu1, hu2⟩ := info_parts info38
  have HA : Hid (0 < n → a = some ⟨gd, 0, none⟩) := ha
  have HBB : Hid (0 < n → b = some ⟨gt, 0, none⟩) := hb
  have HD : Hid (∀ j, j < n → D j ≤ most) := hD
  clear ha hb hD
  go_enter Trym.func23, Trym.ntmps23
  go_wp2_with (at_make; refine wpList_make_full _ rfl _ _ 51 rfl w.heap.size 53 ti _ 2 Trym.underlying51 hti hz0 hz1 _ _ _ _ n rfl rfl rfl rfl (by rw [hz2]; omega) (by unfold maxLen; omega) (by omega) ?_; intro w1 hown hgrow; have hi1 := arr_made hown; have hb1 : Below w.heap.size w w1 := (Below.refl _ _).grown hgrow (by omega) (by simp); clear hown hgrow)
  go_loopw [10] (fun i wr => ∃ k : Nat, k ≤ n ∧ i = .int .i64 k ∧ (∃ f t, Arr wr w.heap.size n f t ∧ (∀ j, j < k → f j = D j) ∧ (∀ j, j < k → t j = T j)) ∧ Below w.heap.size w wr) (fun i _ => n - (intOf i).toNat)
  case atStart => exact ⟨0, Nat.zero_le _, rfl, ⟨_, _, hi1, fun j hj => absurd hj (by omega), fun j hj => absurd hj (by omega)⟩, hb1⟩
  case round =>
    obtain ⟨k, hk, rfl, ⟨f, t, hA, hf, ht⟩, hbel⟩ := hrel
    by_cases hlt : k < n
    · obtain rfl := HA.out (by omega)
      obtain rfl := HBB.out (by omega)
      have hI' := hI (by omega)
      have hT' := hT (by omega)
      have cd := (hI'.below hbel hI'.1).2.1 k hlt
      have ct := (hT'.below hbel hT'.1).2.1 k hlt
      obtain ⟨cs0, cs1⟩ := hA.2.1 k hlt
      have fs := hA.2.2
      have hk' : (k : Int) < (n : Int) := by omega
      obtain ⟨dk, hdk⟩ : ∃ x, x = D k := ⟨_, rfl⟩
      obtain ⟨tk, htk⟩ : ∃ x, x = T k := ⟨_, rfl⟩
      rw [← hdk] at cd
      rw [← htk] at ct
      have HDK : Hid (dk = D k) := hdk
      have HTK : Hid (tk = T k) := htk
      clear hdk htk
      go_wp2
      go_region
      go_wp2
      go_roundw
      case rel =>
        refine ⟨k + 1, by omega, by go_num, ⟨_, _, hA.set k dk tk hlt, fun j hj => ?_, fun j hj => ?_⟩, ((hbel.setCell (p := ⟨w.heap.size, k * 2, none⟩) (Nat.le_refl _) _).setCell (p := ⟨w.heap.size, k * 2 + 1, none⟩) (Nat.le_refl _) _).drew⟩
        · by_cases e : j = k
          · subst e; rw [Srt.upd_same]; exact HDK.out
          · rw [Srt.upd_other _ _ _ _ e]; exact hf j (by omega)
        · by_cases e : j = k
          · subst e; rw [Srt.upd_same]; exact HTK.out
          · rw [Srt.upd_other _ _ _ _ e]; exact ht j (by omega)
      case measure => simp [intOf]; omega
    · obtain rfl : n = k := by omega
      have hA' := hA.congr hf ht
      clear hf ht hA
      go_wp2_with fail
      refine (sort_any w.heap.size n D T most _ hn hA' HD.out hm w.heap.size (Nat.le_refl _)).mono ?_
      rintro e w3 ⟨g', p, rfl, hperm, hsort, hA3, hb3⟩
      have hb3' : Below w.heap.size w w3 := hbel.trans hb3
      have hw3 : w.heap.size ≤ w3.heap.size := hb3'.size
      clear hA' hb3 hbel HD hI hT
      go_wp2_with (first | (at_make; have hG1 := hd4; clear hG1; refine wpList_make_full _ rfl _ _ 37 rfl w.heap.size 38 tu _ 1 Trym.underlying37 htu hu0 hu1 _ _ _ _ n rfl rfl rfl rfl (by rw [hu2]; omega) (by unfold maxLen; omega) (by have := hd4.1; omega) ?_; intro w5 hown hgrow; have ht5 := ints_made hown; have hd5 := hd4.grown hgrow; have hA5 := hA4.grown hgrow; have hb5 : Below w.heap.size w w5 := hb4.grown hgrow (by have := hd4.1; omega) (by simp); have hd4' := hd4.1; clear hown hgrow hd4 hA4 hb4) | (at_make; refine wpList_make_full _ rfl _ _ 37 rfl w.heap.size 38 tu _ 1 Trym.underlying37 htu hu0 hu1 _ _ _ _ n rfl rfl rfl rfl (by rw [hu2]; omega) (by unfold maxLen; omega) (by omega) ?_; intro w4 hown hgrow; have hd4 := ints_made hown; have hA4 := hA3.grown hgrow; have hb4 : Below w.heap.size w w4 := hb3'.grown hgrow (by omega) (by simp); clear hown hgrow))
      have hg3 := hA3.1
      go_loopw [14] (fun i wr => ∃ k : Nat, k ≤ n ∧ i = .int .i64 k ∧ Arr wr g' n (Srt.via D p) (Srt.via T p) ∧ (∃ f t, Ints wr .u32 w3.heap.size n f ∧ Ints wr .u32 w4.heap.size n t ∧ (∀ j, j < k → f j = Srt.via D p j) ∧ (∀ j, j < k → t j = Srt.via T p j)) ∧ Below w.heap.size w wr) (fun i _ => n - (intOf i).toNat)
      case atStart => exact ⟨0, Nat.zero_le _, rfl, hA5, ⟨_, _, hd5, ht5, fun j hj => absurd hj (by omega), fun j hj => absurd hj (by omega)⟩, hb5⟩
      case round =>
        clear hA5 hd5 ht5 hb5
        obtain ⟨k, hk, rfl, hA, ⟨f, t, hd, htt, hf, ht⟩, hbel⟩ := hrel
        by_cases hlt : k < n
        · obtain ⟨c0, c1⟩ := hA.2.1 k hlt
          have co := hd.2.1 k hlt
          have fo := hd.2.2 k
          have ct := htt.2.1 k hlt
          have ft := htt.2.2 k
          have hk' : (k : Int) < (n : Int) := by omega
          go_wp2
          go_roundw
          case rel =>
            refine ⟨k + 1, by omega, by go_num, (hA.other _ _ _ (by omega)).other _ _ _ (by omega), ⟨_, _, (hd.set k _ hlt).other _ _ _ (by omega), (htt.other _ _ _ (by omega)).set k _ hlt, fun j hj => ?_, fun j hj => ?_⟩, (hbel.setCell (p := ⟨w3.heap.size, k, none⟩) hw3 _).setCell (p := ⟨w4.heap.size, k, none⟩) (by show w.heap.size ≤ w4.heap.size; omega) _⟩
            · by_cases e : j = k
              · subst e; rw [Srt.upd_same]
              · rw [Srt.upd_other _ _ _ _ e]; exact hf j (by omega)
            · by_cases e : j = k
              · subst e; rw [Srt.upd_same]
              · rw [Srt.upd_other _ _ _ _ e]; exact ht j (by omega)
          case measure => simp [intOf]; omega
        · obtain rfl : n = k := by omega
          go_wp2
          go_ret2
          exact ⟨_, _, p, rfl, hperm, hsort, hd.congr hf, htt.congr ht, hbel⟩
end Go.Proofs.Qxb6000430aMods
