/-
  Rows of numbers, and rows of pairs of numbers, in memory: what the walks say of them.
-/
import Derived.Test.Qxb6000430aModsRows
import Derived.Test.Qxb6000430aModsPlain
import Derived.WalkKit
import Derived.ProofKit
import Derived.WalkSpells
import Derived.WalkSmall
namespace Go.Proofs.Qxb6000430aMods
open Go.ChangeShapes Go.WideShapes Go.ChangeAt Go.RowKit
set_option linter.unusedVariables false

/-- Block g holds n numbers, f 0, f 1, ..; it may be written. -/
def Ints (w : World) (k : IntKind) (g n : Nat) (f : Nat → Nat) : Prop :=
  g < w.heap.size ∧ (∀ j, j < n → w.cell? ⟨g, j, none⟩ = some (.int k (f j))) ∧ ∀ o, w.frozen? ⟨g, o, none⟩ = false

theorem Ints.set {w : World} {k : IntKind} {g n : Nat} {f : Nat → Nat} (h : Ints w k g n f) (i v : Nat) (hi : i < n) : Ints (w.setCell ⟨g, i, none⟩ (.int k v)) k g n (Srt.upd f i v) := by
  obtain ⟨h0, h1, h2⟩ := h
  refine ⟨by simpa [World.setCell] using h0, fun j hj => ?_, fun o => by rw [World.frozen?_setCell]; exact h2 o⟩
  by_cases e : j = i
  · subst e
    rw [World.cell?_setCell_same _ _ _ (h1 j hj), Srt.upd_same]
  · rw [World.cell?_setCell_other _ _ _ _ (fun x => e (Addr.mk.inj x).2.1.symm), h1 j hj, Srt.upd_other _ _ _ _ e]

theorem Ints.setI {w : World} {k : IntKind} {g n : Nat} {f : Nat → Nat} (h : Ints w k g n f) (i v : Nat) (hi : i < n) (z : Int) (hz : z = v) : Ints (w.setCell ⟨g, i, none⟩ (.int k z)) k g n (Srt.upd f i v) := by
  subst hz
  exact h.set i v hi

theorem Ints.other {w : World} {k : IntKind} {g n : Nat} {f : Nat → Nat} (h : Ints w k g n f) (b o : Nat) (v : Value) (hb : g ≠ b) : Ints (w.setCell ⟨b, o, none⟩ v) k g n f := by
  obtain ⟨h0, h1, h2⟩ := h
  refine ⟨by simpa [World.setCell] using h0, fun j hj => ?_, fun o => by rw [World.frozen?_setCell]; exact h2 o⟩
  rw [World.cell?_setCell_other _ _ _ _ (fun x => hb (Addr.mk.inj x).1.symm), h1 j hj]

theorem Ints.below {w w' : World} {k : IntKind} {g n B : Nat} {f : Nat → Nat} (h : Ints w k g n f) (hb : Below B w w') (hg : g < B) : Ints w' k g n f := by
  obtain ⟨h0, h1, h2⟩ := h
  refine ⟨by have := hb.size; omega, fun j hj => ?_, fun o => ?_⟩
  · rw [hb.cell (p := ⟨g, j, none⟩) hg]; exact h1 j hj
  · rw [hb.frozen (p := ⟨g, o, none⟩) hg]; exact h2 o

theorem Ints.alloc {w : World} {k : IntKind} {g n : Nat} {f : Nat → Nat} (h : Ints w k g n f) (o : Obj) : Ints (w.alloc o) k g n f :=
  h.below ((Below.refl w.heap.size w).alloc (Nat.le_refl _) o) h.1

theorem Ints.grown {w w' : World} {k : IntKind} {g n : Nat} {f : Nat → Nat} (h : Ints w k g n f) (hg : w.grownBy w' none) : Ints w' k g n f :=
  h.below ((Below.refl w.heap.size w).grown hg (Nat.le_refl _) (by simp)) h.1

theorem Ints.congr {w : World} {k : IntKind} {g n : Nat} {f f' : Nat → Nat} (h : Ints w k g n f) (e : ∀ j, j < n → f j = f' j) : Ints w k g n f' :=
  ⟨h.1, fun j hj => by rw [← e j hj]; exact h.2.1 j hj, h.2.2⟩

theorem Ints.drewN {w : World} {k : IntKind} {g n : Nat} {f : Nat → Nat} (h : Ints w k g n f) (m : Nat) : Ints (w.drewN m) k g n f := h

/-- The block that a 'make' with a length has laid. -/
theorem made_block {w : World} {base e size g n : Nat} {z : Array Value} (h : w.ownsRow base e size (.slice (some ⟨g, 0, none⟩) n n) n (madeCells z (n * size)).toList) : w.heap[g]? = some (.cells (madeCells z (n * size)) e (0, 0)) := by
  obtain ⟨hl, h2⟩ := h
  rcases h2 with ⟨h2, _⟩ | ⟨g', cap', cur, hv, hg, hh, h3, h4, h5, h6⟩
  · cases h2
  · simp at hv
    obtain ⟨rfl, rfl⟩ := hv
    rw [hh]
    have : cur = madeCells z (n * size) := by
      apply Array.ext'
      rw [← h6]
      exact (List.take_of_length_le (by simp [h5])).symm
    rw [this]

theorem ints_made {w : World} {base e g n : Nat} {k : IntKind} (h : w.ownsRow base e 1 (.slice (some ⟨g, 0, none⟩) n n) n (madeCells (Value.int k 0).cells (n * 1)).toList) : Ints w k g n (fun _ => 0) := by
  have hh := made_block h
  refine ⟨(Array.getElem?_eq_some_iff.1 hh).1, fun j hj => ?_, fun o => ?_⟩
  · simp only [World.cell?, hh]
    simp [madeCells, Value.cells, hj, Nat.mod_one]
  · simp only [World.frozen?, hh]
    simp

/-- Block g holds n pairs. -/
def Arr (w : World) (g n : Nat) (f t : Nat → Nat) : Prop :=
  g < w.heap.size ∧ (∀ j, j < n → w.cell? ⟨g, j * 2, none⟩ = some (.int .u32 (f j)) ∧ w.cell? ⟨g, j * 2 + 1, none⟩ = some (.int .u32 (t j))) ∧ ∀ o, w.frozen? ⟨g, o, none⟩ = false

theorem Arr.set {w : World} {g n : Nat} {f t : Nat → Nat} (h : Arr w g n f t) (i v u : Nat) (hi : i < n) :
    Arr ((w.setCell ⟨g, i * 2, none⟩ (.int .u32 v)).setCell ⟨g, i * 2 + 1, none⟩ (.int .u32 u)) g n (Srt.upd f i v) (Srt.upd t i u) := by
  obtain ⟨h0, h1, h2⟩ := h
  refine ⟨by simpa [World.setCell] using h0, fun j hj => ?_, fun o => by rw [World.frozen?_setCell, World.frozen?_setCell]; exact h2 o⟩
  obtain ⟨c0, c1⟩ := h1 j hj
  by_cases e : j = i
  · subst e
    constructor
    · rw [World.cell?_setCell_other _ _ _ _ (fun x => by have := (Addr.mk.inj x).2.1; omega), World.cell?_setCell_same _ _ _ c0, Srt.upd_same]
    · rw [World.cell?_setCell_same (u := .int .u32 (t j)), Srt.upd_same]
      rw [World.cell?_setCell_other _ _ _ _ (fun x => by have := (Addr.mk.inj x).2.1; omega)]
      exact c1
  · rw [Srt.upd_other _ _ _ _ e, Srt.upd_other _ _ _ _ e]
    constructor
    · rw [World.cell?_setCell_other _ _ _ _ (fun x => by have := (Addr.mk.inj x).2.1; omega), World.cell?_setCell_other _ _ _ _ (fun x => by have := (Addr.mk.inj x).2.1; omega)]
      exact c0
    · rw [World.cell?_setCell_other _ _ _ _ (fun x => by have := (Addr.mk.inj x).2.1; omega), World.cell?_setCell_other _ _ _ _ (fun x => by have := (Addr.mk.inj x).2.1; omega)]
      exact c1

theorem Arr.other {w : World} {g n : Nat} {f t : Nat → Nat} (h : Arr w g n f t) (b o : Nat) (v : Value) (hb : g ≠ b) : Arr (w.setCell ⟨b, o, none⟩ v) g n f t := by
  obtain ⟨h0, h1, h2⟩ := h
  refine ⟨by simpa [World.setCell] using h0, fun j hj => ?_, fun o => by rw [World.frozen?_setCell]; exact h2 o⟩
  obtain ⟨c0, c1⟩ := h1 j hj
  rw [World.cell?_setCell_other _ _ _ _ (fun x => hb (Addr.mk.inj x).1.symm), World.cell?_setCell_other _ _ _ _ (fun x => hb (Addr.mk.inj x).1.symm)]
  exact ⟨c0, c1⟩

theorem Arr.below {w w' : World} {g n B : Nat} {f t : Nat → Nat} (h : Arr w g n f t) (hb : Below B w w') (hg : g < B) : Arr w' g n f t := by
  obtain ⟨h0, h1, h2⟩ := h
  refine ⟨by have := hb.size; omega, fun j hj => ?_, fun o => ?_⟩
  · rw [hb.cell (p := ⟨g, j * 2, none⟩) hg, hb.cell (p := ⟨g, j * 2 + 1, none⟩) hg]; exact h1 j hj
  · rw [hb.frozen (p := ⟨g, o, none⟩) hg]; exact h2 o

theorem Arr.alloc {w : World} {g n : Nat} {f t : Nat → Nat} (h : Arr w g n f t) (o : Obj) : Arr (w.alloc o) g n f t :=
  h.below ((Below.refl w.heap.size w).alloc (Nat.le_refl _) o) h.1

theorem Arr.grown {w w' : World} {g n : Nat} {f t : Nat → Nat} (h : Arr w g n f t) (hg : w.grownBy w' none) : Arr w' g n f t :=
  h.below ((Below.refl w.heap.size w).grown hg (Nat.le_refl _) (by simp)) h.1

theorem Arr.congr {w : World} {g n : Nat} {f f' t t' : Nat → Nat} (h : Arr w g n f t) (e : ∀ j, j < n → f j = f' j) (e' : ∀ j, j < n → t j = t' j) : Arr w g n f' t' :=
  ⟨h.1, fun j hj => by rw [← e j hj, ← e' j hj]; exact h.2.1 j hj, h.2.2⟩

theorem arr_made {w : World} {base e g n : Nat} (h : w.ownsRow base e 2 (.slice (some ⟨g, 0, none⟩) n n) n (madeCells (Value.agg #[.int .u32 0, .int .u32 0]).cells (n * 2)).toList) : Arr w g n (fun _ => 0) (fun _ => 0) := by
  have hh := made_block h
  have hc : ∀ o, o < n * 2 → (madeCells (Value.agg #[.int .u32 0, .int .u32 0]).cells (n * 2))[o]? = some (.int .u32 0) := by
    intro o ho
    simp only [madeCells, Value.cells]
    have h2 : o % 2 = 0 ∨ o % 2 = 1 := by omega
    rcases h2 with h2 | h2 <;> simp [ho, h2]
  refine ⟨(Array.getElem?_eq_some_iff.1 hh).1, fun j hj => ⟨?_, ?_⟩, fun o => ?_⟩
  · simp only [World.cell?, hh]
    exact hc _ (by omega)
  · simp only [World.cell?, hh]
    exact hc _ (by omega)
  · simp only [World.frozen?, hh]
    simp

theorem block_lt {w : World} {a : Addr} {v : Value} (h : w.cell? a = some v) : a.block < w.heap.size := by
  rcases Nat.lt_or_ge a.block w.heap.size with h1 | h1
  · exact h1
  · simp [World.cell?, Array.getElem?_eq_none h1] at h

theorem info38 : (Trym.prog.info? 38).map (fun i => (i.zero, i.size, i.bytes)) = some (some (.int .u32 0), 1, 4) := by kernel_rfl
theorem info3 : (Trym.prog.info? 3).map (fun i => (i.zero, i.size, i.bytes)) = some (some (.int .i64 0), 1, 8) := by kernel_rfl
theorem info53 : (Trym.prog.info? 53).map (fun i => (i.zero, i.size, i.bytes)) = some (some (.agg #[.int .u32 0, .int .u32 0]), 2, 8) := by kernel_rfl
end Go.Proofs.Qxb6000430aMods
