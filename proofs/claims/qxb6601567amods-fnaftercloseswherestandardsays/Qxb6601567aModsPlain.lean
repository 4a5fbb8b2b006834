import Derived.Test.Qxb6601567aModsLeaf
namespace Go.Proofs.Qxb6601567aMods
open Go.ChangeShapes Go.WideShapes Go.ChangeAt Go.RowKit
set_option linter.unusedVariables false
set_option linter.unusedSimpArgs false

/-! ### The plain law -/
/-- The k-th byte ahead of place i; -1 where there is none. -/
def bk (u : ByteArray) (i k : Nat) : Int := if k ≤ i then (byteAt u (i - k) : Int) else -1
theorem bk_zero (u : ByteArray) (k : Nat) (h : 0 < k) : bk u 0 k = -1 := by unfold bk; rw [if_neg (by omega)]
theorem bk_one (u : ByteArray) (i : Nat) : bk u (i + 1) 1 = (byteAt u i : Int) := by unfold bk; rw [if_pos (by omega)]; rfl
theorem bk_next (u : ByteArray) (i k : Nat) : bk u (i + 1) (k + 1) = bk u i k := by
  unfold bk
  by_cases h : k ≤ i
  · rw [if_pos (by omega), if_pos h, show i + 1 - (k + 1) = i - k by omega]
  · rw [if_neg (by omega), if_neg h]

def EndsH (h1 h2 h3 : Int) : Prop := h1 = -1 ∨ (h1 = 45 ∧ h2 = -1) ∨ (h1 = 45 ∧ h2 = 45) ∨ (h1 = 33 ∧ h2 = 45 ∧ h3 = 45)
def EndsAt (u : ByteArray) (i : Nat) : Prop := EndsH (bk u i 1) (bk u i 2) (bk u i 3)
/-- The comment closes at place i. -/
def Closes (u : ByteArray) (i : Nat) : Prop := byteAt u i = 62 ∧ EndsAt u i

/-- What the state says of the bytes ahead. -/
def StH (st h1 h2 h3 : Int) : Prop :=
  (h1 = -1 ∧ st = 1) ∨ (h1 = 45 ∧ h2 = -1 ∧ st = 2) ∨ (h1 = 45 ∧ h2 = 45 ∧ st = 4) ∨ (h1 = 45 ∧ h2 ≠ 45 ∧ h2 ≠ -1 ∧ st = 3) ∨ (h1 = 33 ∧ h2 = 45 ∧ h3 = 45 ∧ st = 5)
    ∨ (h1 ≠ -1 ∧ h1 ≠ 45 ∧ ¬ (h1 = 33 ∧ h2 = 45 ∧ h3 = 45) ∧ st = 0)
def StAt (u : ByteArray) (i : Nat) (st : Int) : Prop := StH st (bk u i 1) (bk u i 2) (bk u i 3)

theorem st_start (u : ByteArray) : StAt u 0 1 := Or.inl ⟨bk_zero u 1 (by omega), rfl⟩

theorem sth_close {st h1 h2 h3 x : Int} (h : StH st h1 h2 h3) : aft st x = 6 ↔ x = 62 ∧ EndsH h1 h2 h3 := by
  unfold StH at h
  unfold aft EndsH
  (repeat' split) <;> omega

theorem sth_next {st h1 h2 h3 x : Int} (h : StH st h1 h2 h3) (hx : 0 ≤ x) (hn : ¬ aft st x = 6) : StH (aft st x) x h1 h2 := by
  unfold StH at h
  by_cases x62 : x = 62
  · have e : aft st x = 0 := by
      by_cases hs : st = 0 ∨ st = 3
      · unfold aft
        rw [if_neg (by omega), if_neg (by omega), if_neg (by omega), if_neg (by omega), if_neg (by omega)]
      · exact absurd (by unfold aft; rw [if_pos (by omega)]) hn
    rw [e]
    unfold StH
    omega
  · by_cases x45 : x = 45
    · by_cases s1 : st = 1
      · have e : aft st x = 2 := by unfold aft; rw [if_neg (by omega), if_pos (by omega)]
        rw [e]; unfold StH; omega
      · by_cases s2 : st = 2 ∨ st = 3 ∨ st = 4
        · have e : aft st x = 4 := by unfold aft; rw [if_neg (by omega), if_neg (by omega), if_pos (by omega)]
          rw [e]; unfold StH; omega
        · have e : aft st x = 3 := by unfold aft; rw [if_neg (by omega), if_neg (by omega), if_neg (by omega), if_pos (by omega)]
          rw [e]; unfold StH; omega
    · by_cases s4 : x = 33 ∧ st = 4
      · have e : aft st x = 5 := by unfold aft; rw [if_neg (by omega), if_neg (by omega), if_neg (by omega), if_neg (by omega), if_pos (by omega)]
        rw [e]; unfold StH; omega
      · have e : aft st x = 0 := by unfold aft; rw [if_neg (by omega), if_neg (by omega), if_neg (by omega), if_neg (by omega), if_neg (by omega)]
        rw [e]; unfold StH; omega

theorem st_close {u : ByteArray} {i : Nat} {st : Int} (h : StAt u i st) : aft st (byteAt u i) = 6 ↔ Closes u i := by
  rw [sth_close h]
  unfold Closes EndsAt
  constructor
  · rintro ⟨h1, h2⟩; exact ⟨by omega, h2⟩
  · rintro ⟨h1, h2⟩; exact ⟨by omega, h2⟩
theorem st_next {u : ByteArray} {i : Nat} {st : Int} (h : StAt u i st) (hn : ¬ aft st (byteAt u i) = 6) : StAt u (i + 1) (aft st (byteAt u i)) := by
  unfold StAt
  rw [bk_one, bk_next, bk_next]
  exact sth_next h (by omega) hn

/-- The first place at which it closes; -1 where it closes nowhere. -/
def IsFirst (u : ByteArray) (n : Nat) (g : Int) : Prop := (g = -1 ∧ ∀ j, j < n → ¬ Closes u j) ∨ ∃ i : Nat, i < n ∧ g = i ∧ Closes u i ∧ ∀ j, j < i → ¬ Closes u j
theorem first_unique {u : ByteArray} {n : Nat} {g g' : Int} (h : IsFirst u n g) (h' : IsFirst u n g') : g = g' := by
  rcases h with ⟨rfl, h⟩ | ⟨i, hi, rfl, hc, hb⟩
  · rcases h' with ⟨rfl, h'⟩ | ⟨i', hi', rfl, hc', hb'⟩
    · rfl
    · exact absurd hc' (h i' hi')
  · rcases h' with ⟨rfl, h'⟩ | ⟨i', hi', rfl, hc', hb'⟩
    · exact absurd hc (h' i hi)
    · rcases Nat.lt_trichotomy i i' with h1 | h1 | h1
      · exact absurd hc (hb' i h1)
      · rw [h1]
      · exact absurd hc' (hb i' h1)

/-! ### The head of the text, as a string of its own -/
theorem byteAt_head (u : ByteArray) (i t : Nat) (hi : i ≤ u.size) (ht : t < i) : byteAt (u.extract 0 i) t = byteAt u t := by
  unfold byteAt
  rw [Lib.extract_data]
  simp [List.getD_eq_getElem?_getD, List.getElem?_take, ht]
theorem head_size (u : ByteArray) (i : Nat) (hi : i ≤ u.size) : (u.extract 0 i).size = i := by
  simp; omega
theorem head_list (u : ByteArray) (i : Nat) (hi : i ≤ u.size) : (u.extract 0 i).toList.length = i := by
  rw [ByteArray.toList_eq, ← Lib.size_eq, head_size u i hi]

theorem suf2 (u : ByteArray) (i : Nat) (hi : i ≤ u.size) : Suf (u.extract 0 i) ⟨#[45, 45]⟩ ↔ 2 ≤ i ∧ byteAt u (i - 2) = 45 ∧ byteAt u (i - 1) = 45 := by
  have hs : (ByteArray.mk #[45, 45]).size = 2 := rfl
  have b0 : byteAt ⟨#[45, 45]⟩ 0 = 45 := rfl
  have b1 : byteAt ⟨#[45, 45]⟩ 1 = 45 := rfl
  unfold Suf
  rw [hs, head_size u i hi]
  constructor
  · rintro ⟨h1, h2⟩
    have e0 := h2 0 (by omega)
    have e1 := h2 1 (by omega)
    rw [byteAt_head u i _ hi (by omega)] at e0 e1
    rw [b0, Nat.add_zero] at e0
    rw [b1, show i - 2 + 1 = i - 1 by omega] at e1
    exact ⟨h1, e0, e1⟩
  · rintro ⟨h1, e0, e1⟩
    refine ⟨h1, fun t ht => ?_⟩
    rw [byteAt_head u i _ hi (by omega)]
    have : t = 0 ∨ t = 1 := by omega
    rcases this with rfl | rfl
    · rw [b0, Nat.add_zero]; exact e0
    · rw [b1, show i - 2 + 1 = i - 1 by omega]; exact e1

theorem suf3 (u : ByteArray) (i : Nat) (hi : i ≤ u.size) : Suf (u.extract 0 i) ⟨#[45, 45, 33]⟩ ↔ 3 ≤ i ∧ byteAt u (i - 3) = 45 ∧ byteAt u (i - 2) = 45 ∧ byteAt u (i - 1) = 33 := by
  have hs : (ByteArray.mk #[45, 45, 33]).size = 3 := rfl
  have b0 : byteAt ⟨#[45, 45, 33]⟩ 0 = 45 := rfl
  have b1 : byteAt ⟨#[45, 45, 33]⟩ 1 = 45 := rfl
  have b2 : byteAt ⟨#[45, 45, 33]⟩ 2 = 33 := rfl
  unfold Suf
  rw [hs, head_size u i hi]
  constructor
  · rintro ⟨h1, h2⟩
    have e0 := h2 0 (by omega)
    have e1 := h2 1 (by omega)
    have e2 := h2 2 (by omega)
    rw [byteAt_head u i _ hi (by omega)] at e0 e1 e2
    rw [b0, Nat.add_zero] at e0
    rw [b1, show i - 3 + 1 = i - 2 by omega] at e1
    rw [b2, show i - 3 + 2 = i - 1 by omega] at e2
    exact ⟨h1, e0, e1, e2⟩
  · rintro ⟨h1, e0, e1, e2⟩
    refine ⟨h1, fun t ht => ?_⟩
    rw [byteAt_head u i _ hi (by omega)]
    have : t = 0 ∨ t = 1 ∨ t = 2 := by omega
    rcases this with rfl | rfl | rfl
    · rw [b0, Nat.add_zero]; exact e0
    · rw [b1, show i - 3 + 1 = i - 2 by omega]; exact e1
    · rw [b2, show i - 3 + 2 = i - 1 by omega]; exact e2

theorem head_nil (u : ByteArray) (i : Nat) (hi : i ≤ u.size) : (u.extract 0 i).toList = [] ↔ i = 0 := by
  have := head_list u i hi
  constructor
  · intro h; rw [h] at this; simpa using this.symm
  · intro h; subst h; exact List.eq_nil_of_length_eq_zero this
theorem head_one (u : ByteArray) (i : Nat) (hi : i ≤ u.size) : (u.extract 0 i).toList = [45] ↔ i = 1 ∧ byteAt u 0 = 45 := by
  have hl := head_list u i hi
  have hb : ∀ t, t < i → ((u.extract 0 i).toList.getD t 0).toNat = byteAt u t := fun t ht => by
    rw [← byteAt_head u i t hi ht]
    unfold byteAt
    rw [ByteArray.toList_eq]
  constructor
  · intro h
    rw [h] at hl hb
    have e : i = 1 := by simpa using hl.symm
    subst e
    exact ⟨rfl, (hb 0 (by omega)).symm⟩
  · rintro ⟨rfl, h⟩
    generalize (u.extract 0 1).toList = l at *
    match l, hl with
    | [x], _ =>
      have := hb 0 (by omega)
      rw [h] at this
      have : x.toNat = 45 := this
      have : x = 45 := UInt8.toNat_inj.1 this
      rw [this]

theorem ends_head (u : ByteArray) (i : Nat) (hi : i ≤ u.size) : EndsP (u.extract 0 i) ↔ EndsAt u i := by
  unfold EndsP EndsAt EndsH
  rw [head_nil u i hi, head_one u i hi, suf2 u i hi, suf3 u i hi]
  rcases i with _ | _ | _ | i
  · simp [bk]
  · simp [bk]; omega
  · simp [bk]; omega
  · have e1 : bk u (i + 1 + 1 + 1) 1 = (byteAt u (i + 2) : Int) := by unfold bk; rw [if_pos (by omega)]; rfl
    have e2 : bk u (i + 1 + 1 + 1) 2 = (byteAt u (i + 1) : Int) := by unfold bk; rw [if_pos (by omega)]; rfl
    have e3 : bk u (i + 1 + 1 + 1) 3 = (byteAt u i : Int) := by unfold bk; rw [if_pos (by omega)]; rfl
    rw [e1, e2, e3, show i + 1 + 1 + 1 - 1 = i + 2 by omega, show i + 1 + 1 + 1 - 2 = i + 1 by omega, show i + 1 + 1 + 1 - 3 = i by omega]
    generalize byteAt u (i + 2) = x
    generalize byteAt u (i + 1) = y
    generalize byteAt u i = z
    constructor <;> intro h <;> omega
end Go.Proofs.Qxb6601567aMods
