import Derived.Test.Qxb6000430aModsVals
namespace Go.Proofs.Qxb6000430aMods
open Go.ChangeShapes Go.WideShapes Go.ChangeAt Go.RowKit
set_option linter.unusedVariables false

/-- A slice of the call's own, n values. -/
def Own (w : World) (a : Option Addr) (n : Nat) (v : Nat → Value) : Prop := 0 < n → ∃ g, a = some ⟨g, 0, none⟩ ∧ Vals w g n v
theorem Own.below {w w' : World} {a : Option Addr} {n : Nat} {v : Nat → Value} (h : Own w a n v) (hb : Below w.heap.size w w') : Own w' a n v := fun h0 => by
  obtain ⟨g, rfl, hv⟩ := h h0
  exact ⟨g, rfl, hv.below hb hv.1⟩
theorem Own.ofCloned {w w' : World} {a : Option Addr} {n : Nat} {v : Nat → Value} (h : Cloned w w' a n v) : Own w' a n v := fun h0 => ⟨_, (h.1 h0).1, (h.1 h0).2⟩

/-- Block g holds n entries of three cells. -/
def Cnt (w : World) (g n : Nat) (B : Nat → Int) (S : Nat → ByteArray) (N : Nat → Int) : Prop :=
  g < w.heap.size ∧ (∀ j, j < n → w.cell? ⟨g, j * 3, none⟩ = some (.int .u8 (B j)) ∧ w.cell? ⟨g, j * 3 + 1, none⟩ = some (.string (S j)) ∧ w.cell? ⟨g, j * 3 + 2, none⟩ = some (.int .i64 (N j))) ∧ ∀ o, w.frozen? ⟨g, o, none⟩ = false

theorem Cnt.below {w w' : World} {g n B0 : Nat} {B : Nat → Int} {S : Nat → ByteArray} {N : Nat → Int} (h : Cnt w g n B S N) (hb : Below B0 w w') (hg : g < B0) : Cnt w' g n B S N := by
  obtain ⟨h0, h1, h2⟩ := h
  refine ⟨by have := hb.size; omega, fun j hj => ?_, fun o => ?_⟩
  · rw [hb.cell (p := ⟨g, j * 3, none⟩) hg, hb.cell (p := ⟨g, j * 3 + 1, none⟩) hg, hb.cell (p := ⟨g, j * 3 + 2, none⟩) hg]; exact h1 j hj
  · rw [hb.frozen (p := ⟨g, o, none⟩) hg]; exact h2 o

/-- The first k entries; all cells are there. -/
def Part (w : World) (g n k : Nat) (B : Nat → Int) (S : Nat → ByteArray) (N : Nat → Int) : Prop :=
  g < w.heap.size ∧ (∀ j, j < k → w.cell? ⟨g, j * 3, none⟩ = some (.int .u8 (B j)) ∧ w.cell? ⟨g, j * 3 + 1, none⟩ = some (.string (S j)) ∧ w.cell? ⟨g, j * 3 + 2, none⟩ = some (.int .i64 (N j)))
    ∧ (∀ o, o < n * 3 → ∃ v, w.cell? ⟨g, o, none⟩ = some v) ∧ ∀ o, w.frozen? ⟨g, o, none⟩ = false

theorem Part.next {w : World} {g n k : Nat} {B : Nat → Int} {S : Nat → ByteArray} {N : Nat → Int} (h : Part w g n k B S N) (hk : k < n) (x : Int) (y : ByteArray) (z : Int) (hx : x = B k) (hy : y = S k) (hz : z = N k) :
    Part (((w.setCell ⟨g, k * 3, none⟩ (.int .u8 x)).setCell ⟨g, k * 3 + 1, none⟩ (.string y)).setCell ⟨g, k * 3 + 2, none⟩ (.int .i64 z)) g n (k + 1) B S N := by
  subst hx; subst hy; subst hz
  obtain ⟨h0, h1, h3, h2⟩ := h
  have hot : ∀ (W : World) (o o' : Nat) (v : Value), o ≠ o' → (W.setCell ⟨g, o, none⟩ v).cell? ⟨g, o', none⟩ = W.cell? ⟨g, o', none⟩ := fun W o o' v hne => World.cell?_setCell_other _ _ _ _ (fun x => hne (Addr.mk.inj x).2.1)
  have hsm : ∀ (W : World) (o : Nat) (v : Value), (∃ u, W.cell? ⟨g, o, none⟩ = some u) → (W.setCell ⟨g, o, none⟩ v).cell? ⟨g, o, none⟩ = some v := fun W o v ⟨u, hu⟩ => World.cell?_setCell_same _ _ _ hu
  refine ⟨by simpa [World.setCell] using h0, fun j hj => ?_, fun o ho => ?_, fun o => by rw [World.frozen?_setCell, World.frozen?_setCell, World.frozen?_setCell]; exact h2 o⟩
  · by_cases e : j = k
    · subst e
      refine ⟨?_, ?_, ?_⟩
      · rw [hot _ _ _ _ (by omega), hot _ _ _ _ (by omega), hsm _ _ _ (h3 _ (by omega))]
      · rw [hot _ _ _ _ (by omega), hsm]
        rw [hot _ _ _ _ (by omega)]; exact h3 _ (by omega)
      · rw [hsm]
        rw [hot _ _ _ _ (by omega), hot _ _ _ _ (by omega)]; exact h3 _ (by omega)
    · obtain ⟨c0, c1, c2⟩ := h1 j (by omega)
      refine ⟨?_, ?_, ?_⟩ <;> rw [hot _ _ _ _ (by omega), hot _ _ _ _ (by omega), hot _ _ _ _ (by omega)]
      · exact c0
      · exact c1
      · exact c2
  · have hs : ∀ (W : World) (o' : Nat) (v : Value), (∃ u, W.cell? ⟨g, o, none⟩ = some u) → ∃ u, (W.setCell ⟨g, o', none⟩ v).cell? ⟨g, o, none⟩ = some u := by
      intro W o' v hu
      by_cases e : o' = o
      · subst e; exact ⟨_, hsm _ _ _ hu⟩
      · rw [hot _ _ _ _ e]; exact hu
    exact hs _ _ _ (hs _ _ _ (hs _ _ _ (h3 o ho)))

theorem part_made {w : World} {base e g n : Nat} (B : Nat → Int) (S : Nat → ByteArray) (N : Nat → Int) (h : w.ownsRow base e 3 (.slice (some ⟨g, 0, none⟩) n n) n (madeCells (Value.agg #[.int .u8 0, .string ⟨#[]⟩, .int .i64 0]).cells (n * 3)).toList) : Part w g n 0 B S N := by
  have hh := vals_block h
  refine ⟨(Array.getElem?_eq_some_iff.1 hh).1, fun j hj => absurd hj (by omega), fun o ho => ?_, fun o => ?_⟩
  · simp only [World.cell?, hh]
    exact ⟨_, Array.getElem?_eq_getElem (by rw [size_madeCells]; exact ho)⟩
  · simp only [World.frozen?, hh]
    simp

theorem Part.whole {w : World} {g n : Nat} {B : Nat → Int} {S : Nat → ByteArray} {N : Nat → Int} (h : Part w g n n B S N) : Cnt w g n B S N := ⟨h.1, h.2.1, h.2.2.2⟩

set_option maxRecDepth 4000 in
set_option maxHeartbeats 2000000 in
theorem zzcounts_any (a b d : Option Addr) (n ca cb cd : Nat) (B : Nat → Int) (S : Nat → ByteArray) (N : Nat → Int) (w : World) (hn : n ≤ 65536)
    (ha : Own w a n (fun j => .int .u8 (B j))) (hb : Own w b n (fun j => .string (S j))) (hd : Own w d n (fun j => .int .i64 (N j))) :
    Calls Trym.prog 28 #[.slice a n ca, .slice b n cb, .slice d n cd] w fun e w' => e = .returned (.slice (some ⟨w.heap.size, 0, none⟩) n n) ∧ Cnt w' w.heap.size n B S N ∧ Below w.heap.size w w' := by
  obtain ⟨ti, hti, hz0, hz1, hz2⟩ := info_parts inf58
  go_enter Trym.func28, Trym.ntmps28
  go_wp2_with (at_make; refine wpList_make_full _ rfl _ _ 48 rfl w.heap.size 58 ti _ 3 Trym.underlying48 hti hz0 hz1 _ _ _ _ n rfl rfl rfl rfl (by rw [hz2]; omega) (by unfold maxLen; omega) (by omega) ?_; intro w1 hown hgrow; have hi1 := part_made B S N hown; have hb1 : Below w.heap.size w w1 := (Below.refl _ _).grown hgrow (by omega) (by simp); clear hown hgrow)
  go_loopw [9] (fun i wr => ∃ k : Nat, k ≤ n ∧ i = .int .i64 k ∧ Part wr w.heap.size n k B S N ∧ Below w.heap.size w wr) (fun i _ => n - (intOf i).toNat)
  case atStart => exact ⟨0, Nat.zero_le _, rfl, hi1, hb1⟩
  case round =>
    obtain ⟨k, hk, rfl, hP, hbel⟩ := hrel
    by_cases hlt : k < n
    · obtain ⟨ga, rfl, va⟩ := ha (by omega)
      obtain ⟨gb, rfl, vb⟩ := hb (by omega)
      obtain ⟨gn, rfl, vd⟩ := hd (by omega)
      have c1 := (va.below hbel va.1).2.1 k hlt
      have c2 := (vb.below hbel vb.1).2.1 k hlt
      have c3 := (vd.below hbel vd.1).2.1 k hlt
      obtain ⟨o0, q0⟩ := hP.2.2.1 (k * 3) (by omega)
      obtain ⟨o1, q1⟩ := hP.2.2.1 (k * 3 + 1) (by omega)
      obtain ⟨o2, q2⟩ := hP.2.2.1 (k * 3 + 2) (by omega)
      have fs := hP.2.2.2
      have hk' : (k : Int) < (n : Int) := by omega
      go_wp2
      go_region
      go_wp2
      go_roundw
      case rel => exact ⟨k + 1, by omega, by go_num, hP.next hlt _ _ _ rfl rfl rfl, (((hbel.setCell (p := ⟨w.heap.size, k * 3, none⟩) (Nat.le_refl _) _).setCell (p := ⟨w.heap.size, k * 3 + 1, none⟩) (Nat.le_refl _) _).setCell (p := ⟨w.heap.size, k * 3 + 2, none⟩) (Nat.le_refl _) _).drew⟩
      case measure => simp [intOf]; omega
    · obtain rfl : n = k := by omega
      go_wp2
      go_ret
      exact ⟨rfl, hP.whole, hbel⟩
end Go.Proofs.Qxb6000430aMods
