import Derived.Test.Qxb6000430aModsMem
namespace Go.Proofs.Qxb6000430aMods
open Go.ChangeShapes Go.WideShapes Go.ChangeAt Go.RowKit
set_option linter.unusedVariables false

/-! ### 'var start [256]int' -/
def zeros256 : Array Value := (List.replicate 256 (Value.int .i64 0)).toArray
theorem alloc59 (w : World) : (Instr.alloc 59 true (.tuple #[])).run Trym.prog w = .ok (.pointer (some ⟨w.heap.size, 0, none⟩)) (w.alloc (.cells zeros256 59)) := by kernel_rfl

theorem wpList_alloc59 {w : World} {ops : Array Oper} {rest : List Oper} {o : Oper} {a : Act} {Q : Exit → Act → World → Prop} (hgd : o.guard = none) (ho : o.op = .alloc 59)
    (h : ∀ w', Hid (w' = w.alloc (.cells zeros256 59)) → wpList Trym.prog ops Q rest (a.put o.dst (.pointer (some ⟨w.heap.size, 0, none⟩))) w') : wpList Trym.prog ops Q (o :: rest) a w := by
  refine wpList_plain hgd fun K hK => ?_
  unfold Oper.wp
  simp [execOp, ho, alloc59, Result.andThen]
  exact hK _ _ (h _ rfl)

theorem zeros_at (j : Nat) (hj : j < 256) : zeros256[j]? = some (.int .i64 0) := by
  unfold zeros256
  rw [List.getElem?_toArray, List.getElem?_replicate, if_pos hj]

theorem ints_zeros (w : World) : Ints (w.alloc (.cells zeros256 59)) .i64 w.heap.size 256 (fun _ => 0) := by
  have hh : (w.alloc (.cells zeros256 59)).heap[w.heap.size]? = some (.cells zeros256 59) := by
    show (w.heap.push _)[w.heap.size]? = _
    simp
  refine ⟨(Array.getElem?_eq_some_iff.1 hh).1, fun j hj => ?_, fun o => ?_⟩
  · simp only [World.cell?, hh]
    exact zeros_at j hj
  · simp only [World.frozen?, hh]
    simp

/-- One step of the distribution. -/
theorem dist_step {w wr : World} {G g1 g2 n B M j b q dj tj : Nat} {D T f t : Nat → Nat} {p : List Nat} (o : Obj)
    (hS : Ints wr .i64 G 256 (Srt.headF D M p j)) (hA1 : Arr wr g1 n (Srt.via D p) (Srt.via T p)) (hA2 : Arr wr g2 n f t)
    (hf : ∀ i, i < j → f (Srt.pos D M p i) = D (p.getD i 0)) (ht : ∀ i, i < j → t (Srt.pos D M p i) = T (p.getD i 0)) (hbel : Below B w wr)
    (hj : j < n) (hpl : p.length = n) (hnd : p.Nodup) (hG1 : g1 ≠ G) (hG2 : g2 ≠ G) (hgg : g1 ≠ g2) (hBG : B ≤ G) (hB2 : B ≤ g2) (hb256 : b < 256) (hqn : q < n)
    (hb : b = Srt.key D M (p.getD j 0)) (hq : q = Srt.pos D M p j) (hdj : dj = Srt.via D p j) (htj : tj = Srt.via T p j) (W : World)
    (hW : W = ((((wr.alloc o).setCell ⟨g2, q * 2, none⟩ (.int .u32 dj)).setCell ⟨g2, q * 2 + 1, none⟩ (.int .u32 tj)).setCell ⟨G, b, none⟩ (.int .i64 ((q : Int) + 1))).drew) :
    Ints W .i64 G 256 (Srt.headF D M p (j + 1)) ∧ Arr W g1 n (Srt.via D p) (Srt.via T p)
      ∧ (∃ f t, Arr W g2 n f t ∧ (∀ i, i < j + 1 → f (Srt.pos D M p i) = D (p.getD i 0)) ∧ (∀ i, i < j + 1 → t (Srt.pos D M p i) = T (p.getD i 0))) ∧ Below B w W := by
  have hGw := hS.1
  have hput : ∀ (F h : Nat → Nat), (∀ i, i < j → F (Srt.pos D M p i) = h (p.getD i 0)) → ∀ i, i < j + 1 → Srt.upd F q (Srt.via h p j) (Srt.pos D M p i) = h (p.getD i 0) := by
    intro F h hF i hi
    by_cases e : i = j
    · subst e
      rw [← hq, Srt.upd_same]; rfl
    · have hne : Srt.pos D M p i ≠ q := by
        rw [hq]
        intro h
        exact e (Srt.pos_inj D M p hnd i j (by omega) (by omega) h)
      rw [Srt.upd_other _ _ _ _ hne]
      exact hF i (by omega)
  have e1 : Ints ((((wr.alloc o).setCell ⟨g2, q * 2, none⟩ (.int .u32 dj)).setCell ⟨g2, q * 2 + 1, none⟩ (.int .u32 tj)).setCell ⟨G, b, none⟩ (.int .i64 ((q : Int) + 1))) .i64 G 256 (Srt.headF D M p (j + 1)) :=
    (((((hS.alloc o).other _ _ _ (Ne.symm hG2)).other _ _ _ (Ne.symm hG2)).setI b (q + 1) hb256 _ (by omega)).congr (fun b' _ => by rw [hq]; exact Srt.headF_next D M p j (by omega) b hb b'))
  have e2 : Arr ((((wr.alloc o).setCell ⟨g2, q * 2, none⟩ (.int .u32 dj)).setCell ⟨g2, q * 2 + 1, none⟩ (.int .u32 tj)).setCell ⟨G, b, none⟩ (.int .i64 ((q : Int) + 1))) g1 n (Srt.via D p) (Srt.via T p) :=
    (((hA1.alloc o).other _ _ _ hgg).other _ _ _ hgg).other _ _ _ hG1
  have e3 : Arr ((((wr.alloc o).setCell ⟨g2, q * 2, none⟩ (.int .u32 dj)).setCell ⟨g2, q * 2 + 1, none⟩ (.int .u32 tj)).setCell ⟨G, b, none⟩ (.int .i64 ((q : Int) + 1))) g2 n (Srt.upd f q dj) (Srt.upd t q tj) :=
    ((hA2.alloc o).set q dj tj hqn).other _ _ _ hG2
  have e4 : Below B w ((((wr.alloc o).setCell ⟨g2, q * 2, none⟩ (.int .u32 dj)).setCell ⟨g2, q * 2 + 1, none⟩ (.int .u32 tj)).setCell ⟨G, b, none⟩ (.int .i64 ((q : Int) + 1))) :=
    (((hbel.alloc (by omega) o).setCell (p := ⟨g2, q * 2, none⟩) hB2 _).setCell (p := ⟨g2, q * 2 + 1, none⟩) hB2 _).setCell (p := ⟨G, b, none⟩) hBG _
  subst hW
  refine ⟨e1, e2, ⟨_, _, e3, ?_, ?_⟩, e4.drew⟩
  · rw [hdj]; exact hput f D hf
  · rw [htj]; exact hput t T ht

theorem dist_done {D : Nat → Nat} {M n g : Nat} {p : List Nat} {f t T : Nat → Nat} {w : World} (hA : Arr w g n f t) (hnd : p.Nodup) (hpl : p.length = n)
    (hf : ∀ i, i < n → f (Srt.pos D M p i) = D (p.getD i 0)) (ht : ∀ i, i < n → t (Srt.pos D M p i) = T (p.getD i 0)) : Arr w g n (Srt.via D (Srt.pass D M p)) (Srt.via T (Srt.pass D M p)) := by
  subst hpl
  exact hA.congr (fun x hx => Srt.filled D M p hnd f D hf x hx) (fun x hx => Srt.filled D M p hnd t T ht x hx)

set_option maxRecDepth 4000 in
set_option maxHeartbeats 2000000 in
theorem sort_any (g n : Nat) (D T : Nat → Nat) (most : Nat) (w : World) (hn : n ≤ 65536) (hA : Arr w g n D T) (hD : ∀ j, j < n → D j ≤ most) (hm : most < 4294967296) (B : Nat) (hB : B ≤ g) :
    Calls Trym.prog 30 #[.slice (some ⟨g, 0, none⟩) n n, .int .u32 most] w fun e w' => ∃ (g' : Nat) (p : List Nat), e = .returned (.slice (some ⟨g', 0, none⟩) n n) ∧ p.Perm (List.range n) ∧ (p.Pairwise fun a b => Srt.leB D a b = true)
      ∧ Arr w' g' n (Srt.via D p) (Srt.via T p) ∧ Below B w w' := by
  obtain ⟨ti, hti, hz0, hz1, hz2⟩ := info_parts info53
  have hgw := hA.1
  go_enter Trym.func30, Trym.ntmps30
  go_wp2_with (at_make; refine wpList_make_full _ rfl _ _ 51 rfl B 53 ti _ 2 Trym.underlying51 hti hz0 hz1 _ _ _ _ n rfl rfl rfl rfl (by rw [hz2]; omega) (by unfold maxLen; omega) (by omega) ?_; intro w1 hown hgrow; have hi1 := arr_made hown; have hb1 : Below B w w1 := (Below.refl _ _).grown hgrow (by omega) (by simp); have hA1 := hA.grown hgrow; clear hown hgrow)
  go_loopw [0, 5, 6] (fun a sp sh wr => ∃ (s g1 g2 : Nat) (p : List Nat) (f t : Nat → Nat), s ≤ 4 ∧ sh = .int .i64 ((8 * s : Nat) : Int) ∧ a = .slice (some ⟨g1, 0, none⟩) n n ∧ sp = .slice (some ⟨g2, 0, none⟩) n n ∧ g1 ≠ g2 ∧ B ≤ g1 ∧ B ≤ g2
      ∧ p.Perm (List.range n) ∧ p.Pairwise (Srt.R D (256 ^ s)) ∧ Arr wr g1 n (Srt.via D p) (Srt.via T p) ∧ Arr wr g2 n f t ∧ Below B w wr) (fun _ _ sh _ => 32 - (intOf sh).toNat)
  case atStart => exact ⟨0, g, w.heap.size, List.range n, _, _, by omega, rfl, rfl, rfl, by omega, hB, by omega, List.Perm.refl _, Srt.start_sorted D n, hA1.congr (fun j hj => by simp [Srt.via, List.getD, hj]) (fun j hj => by simp [Srt.via, List.getD, hj]), hi1, hb1⟩
  case round =>
    obtain ⟨s, g1, g2, p, f, t, hs, rfl, rfl, rfl, hgg, hBg1, hBg2, hperm, hsort, hA1, hA2, hbel⟩ := hrel
    have hpl : p.length = n := by rw [hperm.length_eq, List.length_range]
    have hnd : p.Nodup := hperm.nodup_iff.2 List.nodup_range
    by_cases hlt : s < 4
    · by_cases hmo : most / 256 ^ s = 0
      · have hmo' : ((most : Int) / 2 ^ (8 * s) != 0) = false := by rw [Srt.shr_cast, hmo]; rfl
        have hmlt : most < 256 ^ s := by
          have h0 : 0 < 256 ^ s := Nat.pow_pos (by decide)
          have h1 := Nat.div_add_mod most (256 ^ s)
          rw [hmo, Nat.mul_zero, Nat.zero_add] at h1
          rw [← h1]
          exact Nat.mod_lt _ h0
        have HM : Hid (most < 256 ^ s) := hmlt
        clear hmo hmlt
        go_wp2_with fail
        go_ret
        exact ⟨g1, p, rfl, hperm, Srt.sorted_of_R D _ p (fun x hx => by have h1 := hperm.mem_iff.1 hx; rw [List.mem_range] at h1; exact Nat.lt_of_le_of_lt (hD x h1) HM.out) hsort, hA1, hbel⟩
      · have hmo' : ((most : Int) / 2 ^ (8 * s) != 0) = true := by
          rw [Srt.shr_cast]
          simp only [bne_iff_ne]
          omega
        clear hmo
        go_wp2_with (refine wpList_alloc59 rfl rfl ?_; intro w2 hw2)
        have hS : Ints w2 .i64 wr.heap.size 256 (fun _ => 0) := by rw [hw2.out]; exact ints_zeros wr
        have hA1' : Arr w2 g1 n (Srt.via D p) (Srt.via T p) := by rw [hw2.out]; exact hA1.alloc _
        have hA2' : Arr w2 g2 n f t := by rw [hw2.out]; exact hA2.alloc _
        have hb2 : Below B w w2 := by rw [hw2.out]; exact hbel.alloc (by have := hA1.1; omega) _
        have hG1 := hA1.1
        have hG2 := hA2.1
        clear hw2 hA1 hA2 hbel
        generalize wr.heap.size = G at *
        go_loopw [30] (fun i wr => ∃ j : Nat, j ≤ n ∧ i = .int .i64 j ∧ Ints wr .i64 G 256 (Srt.cntF D (256 ^ s) p j) ∧ Arr wr g1 n (Srt.via D p) (Srt.via T p) ∧ Arr wr g2 n f t ∧ Below B w wr) (fun i _ => n - (intOf i).toNat)
        case atStart => exact ⟨0, Nat.zero_le _, rfl, hS, hA1', hA2', hb2⟩
        case round =>
          obtain ⟨j, hj, rfl, hS, hA1, hA2, hbel⟩ := hrel
          by_cases hjn : j < n
          · obtain ⟨c0, c1⟩ := hA1.2.1 j hjn
            obtain ⟨dj, hdj⟩ : ∃ x, x = Srt.via D p j := ⟨_, rfl⟩
            obtain ⟨tj, htj⟩ : ∃ x, x = Srt.via T p j := ⟨_, rfl⟩
            rw [← hdj] at c0
            rw [← htj] at c1
            obtain ⟨b, hb⟩ : ∃ b, b = Srt.key D (256 ^ s) (p.getD j 0) := ⟨_, rfl⟩
            have hb256 : b < 256 := by rw [hb]; exact Srt.key_lt _ _ _
            have hkey : (dj : Int) / 2 ^ (8 * s) % 256 = (b : Int) := by rw [Srt.key_cast, hdj, hb]; rfl
            obtain ⟨c, hc⟩ : ∃ c, c = Srt.cntF D (256 ^ s) p j b := ⟨_, rfl⟩
            have hc1 : c ≤ 65536 := by rw [hc]; exact Nat.le_trans (Srt.cnt_le _ _ _ _ _) (by omega)
            have hGw := hS.1
            have cb : ∀ o, (wr.alloc o).cell? ⟨G, b, none⟩ = some (.int .i64 c) := fun o => by rw [hc]; exact (hS.alloc o).2.1 b hb256
            have fb : ∀ o, (wr.alloc o).frozen? ⟨G, b, none⟩ = false := fun o => (hS.alloc o).2.2 b
            have HB : Hid (b = Srt.key D (256 ^ s) (p.getD j 0)) := hb
            have HC : Hid (c = Srt.cntF D (256 ^ s) p j b) := hc
            clear hdj htj hb hc
            go_wp2
            go_roundw
            case rel => exact ⟨j + 1, by omega, by go_num, ((hS.setI b (c + 1) hb256 _ (by omega)).congr (fun b' _ => Srt.cntF_next D _ p j (by omega) b HB.out c HC.out b')).alloc _, (hA1.other _ _ _ (by omega)).alloc _, (hA2.other _ _ _ (by omega)).alloc _, (hbel.setCell (p := ⟨G, b, none⟩) (by show B ≤ G; omega) _).alloc (by simp [World.setCell]; omega) _⟩
            case measure => simp [intOf]; omega
          · obtain rfl : n = j := by omega
            have hS0 : Ints wr .i64 G 256 (Srt.preF D (256 ^ s) p 0) := hS.congr (fun b _ => by rw [← hpl]; exact Srt.preF_start D _ p b)
            have hl0 : Srt.lo D (256 ^ s) p 0 = 0 := Srt.lo_zero _ _ _
            clear hS
            go_wp2
            go_loopw [10, 11] (fun i sm wr => ∃ c : Nat, c ≤ 256 ∧ i = .int .i64 c ∧ sm = .int .i64 (Srt.lo D (256 ^ s) p c) ∧ Ints wr .i64 G 256 (Srt.preF D (256 ^ s) p c) ∧ Arr wr g1 n (Srt.via D p) (Srt.via T p) ∧ Arr wr g2 n f t ∧ Below B w wr) (fun i _ _ => 256 - (intOf i).toNat)
            case atStart => exact ⟨0, Nat.zero_le _, rfl, by rw [hl0]; rfl, hS0, hA1, hA2, hbel⟩
            case round =>
              clear hS0 hl0 hA1 hA2 hbel
              obtain ⟨c, hc, rfl, rfl, hS, hA1, hA2, hbel⟩ := hrel
              by_cases hcn : c < 256
              · have hlo := Srt.lo_le D (256 ^ s) p c
                have hln := Srt.lo_next D (256 ^ s) p c
                have hcl := Srt.cnt_le_len D (256 ^ s) p c p.length
                have cc := hS.2.1 c hcn
                rw [Srt.preF_at] at cc
                have fc := hS.2.2 c
                have hGw := hS.1
                obtain ⟨lc, hlc⟩ : ∃ x, x = Srt.lo D (256 ^ s) p c := ⟨_, rfl⟩
                obtain ⟨kc, hkc⟩ : ∃ x, x = Srt.cnt D (256 ^ s) p c p.length := ⟨_, rfl⟩
                have HLC : Hid (lc = Srt.lo D (256 ^ s) p c) := hlc
                have HLN : Hid (lc + kc = Srt.lo D (256 ^ s) p (c + 1)) := by rw [hlc, hkc]; exact hln
                rw [← hlc] at hlo ⊢
                rw [← hkc] at cc hcl
                clear hlc hkc hln
                go_wp2
                go_roundw
                case rel => exact ⟨c + 1, by omega, by go_num, by rw [← HLN.out]; go_num, (hS.setI c lc hcn _ rfl).congr (fun b' _ => by rw [HLC.out]; exact Srt.preF_next D _ p c b'), hA1.other _ _ _ (by omega), hA2.other _ _ _ (by omega), hbel.setCell (p := ⟨G, c, none⟩) (by show B ≤ G; omega) _⟩
                case measure => simp [intOf]; omega
              · obtain rfl : c = 256 := by omega
                have hS0 : Ints wr .i64 G 256 (Srt.headF D (256 ^ s) p 0) := hS.congr (fun b hb => Srt.headF_start D _ p b hb)
                clear hS
                go_wp2
                go_loopw [58] (fun i wr => ∃ j : Nat, j ≤ n ∧ i = .int .i64 j ∧ Ints wr .i64 G 256 (Srt.headF D (256 ^ s) p j) ∧ Arr wr g1 n (Srt.via D p) (Srt.via T p)
                    ∧ (∃ f t, Arr wr g2 n f t ∧ (∀ i, i < j → f (Srt.pos D (256 ^ s) p i) = D (p.getD i 0)) ∧ (∀ i, i < j → t (Srt.pos D (256 ^ s) p i) = T (p.getD i 0))) ∧ Below B w wr) (fun i _ => n - (intOf i).toNat)
                case atStart => exact ⟨0, Nat.zero_le _, rfl, hS0, hA1, ⟨f, t, hA2, fun i hi => absurd hi (by omega), fun i hi => absurd hi (by omega)⟩, hbel⟩
                case round =>
                  clear hS0 hA1 hA2 hbel
                  obtain ⟨j, hj, rfl, hS, hA1, ⟨f, t, hA2, hf, ht⟩, hbel⟩ := hrel
                  by_cases hjn : j < n
                  · obtain ⟨c0, c1⟩ := hA1.2.1 j hjn
                    obtain ⟨dj, hdj⟩ : ∃ x, x = Srt.via D p j := ⟨_, rfl⟩
                    obtain ⟨tj, htj⟩ : ∃ x, x = Srt.via T p j := ⟨_, rfl⟩
                    rw [← hdj] at c0
                    rw [← htj] at c1
                    obtain ⟨b, hb⟩ : ∃ b, b = Srt.key D (256 ^ s) (p.getD j 0) := ⟨_, rfl⟩
                    have hb256 : b < 256 := by rw [hb]; exact Srt.key_lt _ _ _
                    have hkey : (dj : Int) / 2 ^ (8 * s) % 256 = (b : Int) := by rw [Srt.key_cast, hdj, hb]; rfl
                    obtain ⟨q, hq⟩ : ∃ q, q = Srt.pos D (256 ^ s) p j := ⟨_, rfl⟩
                    have hqn : q < n := by rw [hq, ← hpl]; exact Srt.pos_lt D _ p j (by omega)
                    have hqn' : (q : Int) < (n : Int) := by omega
                    have hGw := hS.1
                    have cb : ∀ o, (wr.alloc o).cell? ⟨G, b, none⟩ = some (.int .i64 q) := fun o => by rw [hq, ← Srt.headF_pos D _ p j b hb]; exact (hS.alloc o).2.1 b hb256
                    have fb : ∀ o, (wr.alloc o).frozen? ⟨G, b, none⟩ = false := fun o => (hS.alloc o).2.2 b
                    have cs0 : ∀ o, (wr.alloc o).cell? ⟨g2, q * 2, none⟩ = some (.int .u32 (f q)) := fun o => ((hA2.alloc o).2.1 q hqn).1
                    have cs1 : ∀ o, (wr.alloc o).cell? ⟨g2, q * 2 + 1, none⟩ = some (.int .u32 (t q)) := fun o => ((hA2.alloc o).2.1 q hqn).2
                    have fs : ∀ o x, (wr.alloc o).frozen? ⟨g2, x, none⟩ = false := fun o x => (hA2.alloc o).2.2 x
                    have HB : Hid (b = Srt.key D (256 ^ s) (p.getD j 0)) := hb
                    have HQ : Hid (q = Srt.pos D (256 ^ s) p j) := hq
                    have HD : Hid (dj = Srt.via D p j) := hdj
                    have HT : Hid (tj = Srt.via T p j) := htj
                    clear hdj htj hb hq
                    go_wp2
                    go_region
                    go_wp2
                    go_roundw
                    case rel =>
                      have R := dist_step (w := w) (.cells #[.int .u32 dj, .int .u32 tj] 53) hS hA1 hA2 hf ht hbel hjn hpl hnd (by omega) (by omega) hgg (by omega) hBg2 hb256 hqn HB.out HQ.out HD.out HT.out _ rfl
                      exact ⟨j + 1, by omega, by go_num, R.1, R.2.1, R.2.2.1, R.2.2.2⟩
                    case measure => simp [intOf]; omega
                  · obtain rfl : n = j := by omega
                    have hA2' := dist_done hA2 hnd hpl hf ht
                    have hpp := (Srt.pass_perm D (256 ^ s) p).trans hperm
                    have hps : (Srt.pass D (256 ^ s) p).Pairwise (Srt.R D (256 ^ (s + 1))) := Srt.pass_sorted D (256 ^ s) p hsort
                    clear hf ht hA2
                    go_wp2
                    go_roundw
                    case rel => exact ⟨s + 1, g2, g1, _, _, _, by omega, by go_num, rfl, rfl, Ne.symm hgg, hBg2, hBg1, hpp, hps, hA2', hA1, hbel⟩
                    case measure => simp [intOf]; omega
    · obtain rfl : s = 4 := by omega
      go_wp2
      go_ret
      exact ⟨g1, p, rfl, hperm, Srt.sorted_of_R D _ p (fun x hx => by have h1 := hperm.mem_iff.1 hx; rw [List.mem_range] at h1; have := hD x h1; have e : 256 ^ 4 = 4294967296 := rfl; omega) hsort, hA1, hbel⟩
end Go.Proofs.Qxb6000430aMods
