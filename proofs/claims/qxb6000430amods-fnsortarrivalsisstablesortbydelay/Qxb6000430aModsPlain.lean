/-
  The plain mathematics of the two sorts: one pass of the radix sort; the merge of two runs; what is sorted and a permutation is one list. No Go here.
-/
namespace Go.Proofs.Qxb6000430aMods.Srt

theorem pw_mono {α : Type} {R S : α → α → Prop} : ∀ {l : List α}, (∀ a ∈ l, ∀ b ∈ l, R a b → S a b) → l.Pairwise R → l.Pairwise S
  | [], _, _ => List.Pairwise.nil
  | x :: l, h, hp => by
    rw [List.pairwise_cons] at hp ⊢
    exact ⟨fun y hy => h x (by simp) y (by simp [hy]) (hp.1 y hy), pw_mono (fun a ha b hb => h a (by simp [ha]) b (by simp [hb])) hp.2⟩

/-! ### One pass of the radix sort -/
section
variable (D : Nat → Nat)

/-- The order after the bytes below M. -/
def R (M x y : Nat) : Prop := D x % M < D y % M ∨ (D x % M = D y % M ∧ x < y)
def key (M x : Nat) : Nat := D x / M % 256
theorem key_lt (M x : Nat) : key D M x < 256 := Nat.mod_lt _ (by decide)
/-- The pass: the elements of each byte, in their order, one byte behind the other. -/
def flat (M : Nat) (p : List Nat) (B : Nat) : List Nat := (List.range B).flatMap fun b => p.filter fun x => key D M x == b
def pass (M : Nat) (p : List Nat) : List Nat := flat D M p 256

/-- How many bytes lie below b; how many of the first j are b. -/
def lo (M : Nat) (p : List Nat) (b : Nat) : Nat := p.countP fun x => decide (key D M x < b)
def cnt (M : Nat) (p : List Nat) (b j : Nat) : Nat := (p.take j).countP fun x => key D M x == b
def pos (M : Nat) (p : List Nat) (i : Nat) : Nat := lo D M p (key D M (p.getD i 0)) + cnt D M p (key D M (p.getD i 0)) i

theorem flat_succ (M : Nat) (p : List Nat) (B : Nat) : flat D M p (B + 1) = flat D M p B ++ p.filter fun x => key D M x == B := by
  unfold flat
  rw [List.range_succ, List.flatMap_append]
  simp

theorem lo_succ (M b : Nat) : ∀ p : List Nat, lo D M p (b + 1) = lo D M p b + p.countP fun x => key D M x == b
  | [] => rfl
  | x :: p => by
    have ih := lo_succ M b p
    unfold lo at ih ⊢
    rw [List.countP_cons, List.countP_cons, List.countP_cons, ih]
    by_cases h1 : key D M x < b
    · have h2 : ¬ key D M x = b := by omega
      have h3 : key D M x < b + 1 := by omega
      simp [h1, h2, h3]; omega
    · by_cases h2 : key D M x = b
      · simp [h2]; omega
      · have h3 : ¬ key D M x < b + 1 := by omega
        simp [h1, h2, h3]

theorem lo_zero (M : Nat) (p : List Nat) : lo D M p 0 = 0 := by simp [lo]
theorem lo_full (M : Nat) (p : List Nat) : lo D M p 256 = p.length := by
  unfold lo
  rw [List.countP_eq_length]
  intro x _
  simpa using key_lt D M x
theorem cnt_full (M : Nat) (p : List Nat) (b : Nat) : cnt D M p b p.length = p.countP fun x => key D M x == b := by
  unfold cnt; rw [List.take_length]
theorem cnt_zero (M : Nat) (p : List Nat) (b : Nat) : cnt D M p b 0 = 0 := rfl
theorem cnt_succ (M : Nat) (p : List Nat) (b j : Nat) (hj : j < p.length) : cnt D M p b (j + 1) = cnt D M p b j + if key D M (p.getD j 0) = b then 1 else 0 := by
  unfold cnt
  rw [List.take_succ_eq_append_getElem hj, List.countP_append]
  have : p.getD j 0 = p[j] := by simp [List.getD, hj]
  rw [this]
  by_cases h : key D M p[j] = b <;> simp [h]
theorem cnt_le (M : Nat) (p : List Nat) (b j : Nat) : cnt D M p b j ≤ j := by
  unfold cnt
  exact Nat.le_trans List.countP_le_length (by simp; omega)
theorem cnt_le_len (M : Nat) (p : List Nat) (b j : Nat) : cnt D M p b j ≤ p.length := by
  unfold cnt
  exact Nat.le_trans List.countP_le_length (by simp; omega)
theorem lo_le (M : Nat) (p : List Nat) (b : Nat) : lo D M p b ≤ p.length := List.countP_le_length

theorem flat_length (M : Nat) (p : List Nat) : ∀ B, (flat D M p B).length = lo D M p B
  | 0 => by simp [flat, lo_zero]
  | B + 1 => by rw [flat_succ, List.length_append, flat_length M p B, lo_succ, List.countP_eq_length_filter]

theorem flat_perm (M : Nat) (p : List Nat) : ∀ B, (flat D M p B).Perm (p.filter fun x => decide (key D M x < B))
  | 0 => by simp [flat]
  | B + 1 => by
    rw [flat_succ]
    have h := List.filter_append_perm (fun x => decide (key D M x < B)) (p.filter fun x => decide (key D M x < B + 1))
    rw [List.filter_filter, List.filter_filter] at h
    have e1 : (fun x => decide (key D M x < B) && decide (key D M x < B + 1)) = fun x => decide (key D M x < B) := by
      funext x; rw [Bool.eq_iff_iff]; simp; omega
    have e2 : (fun x => (!decide (key D M x < B)) && decide (key D M x < B + 1)) = fun x => key D M x == B := by
      funext x; rw [Bool.eq_iff_iff]; simp; omega
    rw [e1, e2] at h
    exact ((flat_perm M p B).append_right _).trans h

theorem pass_perm (M : Nat) (p : List Nat) : (pass D M p).Perm p := by
  have h := flat_perm D M p 256
  have e : (p.filter fun x => decide (key D M x < 256)) = p := by
    rw [List.filter_eq_self]
    intro x _
    simpa using key_lt D M x
  rw [e] at h
  exact h

theorem flat_at (M : Nat) (p : List Nat) (b c : Nat) (hc : c < (p.filter fun x => key D M x == b).length) : ∀ B, b < B → (flat D M p B)[lo D M p b + c]? = (p.filter fun x => key D M x == b)[c]?
  | 0, h => by omega
  | B + 1, h => by
    rw [flat_succ]
    by_cases hb : b < B
    · have hl := flat_length D M p B
      have hm : lo D M p b + c < lo D M p B := by
        have h1 := lo_succ D M b p
        rw [List.countP_eq_length_filter] at h1
        have h2 : lo D M p (b + 1) ≤ lo D M p B := by
          unfold lo
          apply List.countP_mono_left
          intro x _ hx
          simp at hx ⊢
          omega
        omega
      rw [List.getElem?_append_left (by omega)]
      exact flat_at M p b c hc B hb
    · obtain rfl : b = B := by omega
      rw [List.getElem?_append_right (by rw [flat_length]; omega), flat_length]
      congr 1
      omega

theorem filter_at (q : Nat → Bool) (p : List Nat) (i : Nat) (hi : i < p.length) (hq : q p[i] = true) : (p.filter q)[(p.take i).countP q]? = some p[i] := by
  have e : p = p.take i ++ p[i] :: p.drop (i + 1) := by simp
  have e2 : p.filter q = (p.take i).filter q ++ p[i] :: (p.drop (i + 1)).filter q := by
    conv => lhs; rw [e]
    rw [List.filter_append, List.filter_cons, if_pos hq]
  rw [e2, List.countP_eq_length_filter, List.getElem?_append_right (Nat.le_refl _)]
  simp

theorem pos_at (M : Nat) (p : List Nat) (i : Nat) (hi : i < p.length) : (pass D M p)[pos D M p i]? = some (p.getD i 0) := by
  have e : p.getD i 0 = p[i] := by simp [List.getD, hi]
  unfold pos
  rw [e]
  have h := filter_at (fun x => key D M x == key D M p[i]) p i hi (by simp)
  have hl : (p.take i).countP (fun x => key D M x == key D M p[i]) < (p.filter fun x => key D M x == key D M p[i]).length := by
    exact (List.getElem?_eq_some_iff.1 h).1
  have := flat_at D M p (key D M p[i]) _ hl 256 (key_lt D M _)
  unfold cnt pass
  rw [this]
  exact h

theorem pos_lt (M : Nat) (p : List Nat) (i : Nat) (hi : i < p.length) : pos D M p i < p.length := by
  have h := (List.getElem?_eq_some_iff.1 (pos_at D M p i hi)).1
  rwa [(pass_perm D M p).length_eq] at h

theorem nodup_inj {l : List Nat} (h : l.Nodup) {i j : Nat} {x : Nat} (h1 : l[i]? = some x) (h2 : l[j]? = some x) : i = j := by
  obtain ⟨a1, b1⟩ := List.getElem?_eq_some_iff.1 h1
  obtain ⟨a2, b2⟩ := List.getElem?_eq_some_iff.1 h2
  have hp := List.pairwise_iff_getElem.1 h
  rcases Nat.lt_trichotomy i j with hlt | heq | hgt
  · exact absurd (b1.trans b2.symm) (hp i j a1 a2 hlt)
  · exact heq
  · exact absurd (b2.trans b1.symm) (hp j i a2 a1 hgt)

theorem pos_inj (M : Nat) (p : List Nat) (hp : p.Nodup) (i j : Nat) (hi : i < p.length) (hj : j < p.length) (h : pos D M p i = pos D M p j) : i = j := by
  have h1 := pos_at D M p i hi
  have h2 := pos_at D M p j hj
  rw [h, h2] at h1
  have e : p.getD j 0 = p.getD i 0 := Option.some.inj h1
  refine nodup_inj hp (x := p.getD i 0) ?_ ?_
  · simp [List.getD, hi]
  · rw [← e]; simp [List.getD, hj]

/-- What was put at each place fills the whole. -/
theorem filled (M : Nat) (p : List Nat) (hp : p.Nodup) (F : Nat → Nat) (G : Nat → Nat) (h : ∀ i, i < p.length → F (pos D M p i) = G (p.getD i 0)) (x : Nat) (hx : x < p.length) :
    F x = G ((pass D M p).getD x 0) := by
  have hperm := pass_perm D M p
  have hl := hperm.length_eq
  have hx' : x < (pass D M p).length := by omega
  have hm : (pass D M p)[x] ∈ p := hperm.mem_iff.1 (List.getElem_mem hx')
  obtain ⟨i, hi, he⟩ := List.getElem_of_mem hm
  have h1 := pos_at D M p i hi
  have h2 : (pass D M p)[x]? = some (p.getD i 0) := by
    rw [List.getElem?_eq_getElem hx', ← he]; simp [List.getD, hi]
  have hn : (pass D M p).Nodup := hperm.nodup_iff.2 hp
  have e := nodup_inj hn h2 h1
  have e3 : (pass D M p).getD x 0 = p.getD i 0 := by rw [List.getD_eq_getElem?_getD, h2]; rfl
  rw [e3, e]
  exact h i hi

theorem pass_sorted (M : Nat) (p : List Nat) (h : p.Pairwise (R D M)) : (pass D M p).Pairwise (R D (M * 256)) := by
  have hmod : ∀ x, D x % (M * 256) = D x % M + M * key D M x := fun x => by unfold key; exact Nat.mod_mul
  unfold pass flat
  rw [List.pairwise_flatMap]
  constructor
  · intro b _
    have h1 := h.filter (fun x => key D M x == b)
    refine pw_mono ?_ h1
    intro x hx y hy hr
    have kx : key D M x = b := by simpa using (List.mem_filter.1 hx).2
    have ky : key D M y = b := by simpa using (List.mem_filter.1 hy).2
    unfold R at hr ⊢
    rw [hmod, hmod, kx, ky]
    omega
  · refine pw_mono ?_ List.pairwise_lt_range
    intro a _ b _ hab x hx y hy
    have kx : key D M x = a := by simpa using (List.mem_filter.1 hx).2
    have ky : key D M y = b := by simpa using (List.mem_filter.1 hy).2
    unfold R
    rw [hmod, hmod, kx, ky]
    left
    rcases Nat.eq_zero_or_pos M with h0 | h0
    · exfalso
      subst h0
      simp only [key, Nat.div_zero, Nat.zero_mod] at kx ky
      omega
    · have h1 := Nat.mod_lt (D x) h0
      have h2 : M * (a + 1) ≤ M * b := Nat.mul_le_mul_left M hab
      rw [Nat.mul_succ] at h2
      omega

/-! ### The order of the whole -/
def leB (x y : Nat) : Bool := decide (D x < D y ∨ (D x = D y ∧ x ≤ y))
theorem leB_trans (a b c : Nat) (h1 : leB D a b = true) (h2 : leB D b c = true) : leB D a c = true := by
  simp only [leB, decide_eq_true_eq] at *; omega
theorem leB_total (a b : Nat) : (leB D a b || leB D b a) = true := by
  simp only [leB, Bool.or_eq_true, decide_eq_true_eq]; omega

theorem unique {l1 l2 : List Nat} (h1 : l1.Pairwise fun a b => leB D a b = true) (h2 : l2.Pairwise fun a b => leB D a b = true) (h : l1.Perm l2) : l1 = l2 := by
  refine List.Perm.eq_of_pairwise ?_ h1 h2 h
  intro a b _ _ ha hb
  simp only [leB, decide_eq_true_eq] at ha hb
  omega

theorem sorted_of_R (M : Nat) (p : List Nat) (hM : ∀ x ∈ p, D x < M) (h : p.Pairwise (R D M)) : p.Pairwise fun a b => leB D a b = true := by
  refine pw_mono ?_ h
  intro a ha b hb hr
  unfold R at hr
  rw [Nat.mod_eq_of_lt (hM a ha), Nat.mod_eq_of_lt (hM b hb)] at hr
  simp only [leB, decide_eq_true_eq]
  omega

theorem start_sorted (n : Nat) : (List.range n).Pairwise (R D 1) := by
  refine pw_mono ?_ List.pairwise_lt_range
  intro a _ b _ h
  unfold R
  rw [Nat.mod_one, Nat.mod_one]
  omega

/-- What lies at the places of a list; the counts and the heads as functions of the byte (names that a walk does not open). -/
def via (F : Nat → Nat) (p : List Nat) : Nat → Nat := fun j => F (p.getD j 0)
def cntF (M : Nat) (p : List Nat) (j : Nat) : Nat → Nat := fun b => cnt D M p b j
def preF (M : Nat) (p : List Nat) (c : Nat) : Nat → Nat := fun b => if b < c then lo D M p b else cnt D M p b p.length
def headF (M : Nat) (p : List Nat) (j : Nat) : Nat → Nat := fun b => lo D M p b + cnt D M p b j

theorem cntF_next (M : Nat) (p : List Nat) (j : Nat) (hj : j < p.length) (b : Nat) (hb : b = key D M (p.getD j 0)) (c : Nat) (hc : c = cntF D M p j b) (b' : Nat) : (if b' = b then c + 1 else cntF D M p j b') = cntF D M p (j + 1) b' := by
  subst hc
  unfold cntF
  rw [cnt_succ D M p b' j hj, ← hb]
  by_cases e : b' = b
  · subst e; simp
  · have e' : ¬ b = b' := fun x => e x.symm
    simp [e, e']

theorem preF_start (M : Nat) (p : List Nat) (b : Nat) : cntF D M p p.length b = preF D M p 0 b := by simp [cntF, preF]
theorem preF_at (M : Nat) (p : List Nat) (c : Nat) : preF D M p c c = cnt D M p c p.length := by simp [preF]
theorem preF_next (M : Nat) (p : List Nat) (c b' : Nat) : (if b' = c then lo D M p c else preF D M p c b') = preF D M p (c + 1) b' := by
  unfold preF
  by_cases e : b' = c
  · subst e; simp
  · by_cases h : b' < c
    · have : b' < c + 1 := by omega
      simp [e, h, this]
    · have : ¬ b' < c + 1 := by omega
      simp [e, h, this]
theorem lo_next (M : Nat) (p : List Nat) (c : Nat) : lo D M p c + cnt D M p c p.length = lo D M p (c + 1) := by rw [lo_succ, cnt_full]
theorem headF_start (M : Nat) (p : List Nat) (b : Nat) (hb : b < 256) : preF D M p 256 b = headF D M p 0 b := by simp [preF, headF, hb, cnt_zero]
theorem headF_pos (M : Nat) (p : List Nat) (j : Nat) (b : Nat) (hb : b = key D M (p.getD j 0)) : headF D M p j b = pos D M p j := by subst hb; rfl
theorem headF_next (M : Nat) (p : List Nat) (j : Nat) (hj : j < p.length) (b : Nat) (hb : b = key D M (p.getD j 0)) (b' : Nat) : (if b' = b then pos D M p j + 1 else headF D M p j b') = headF D M p (j + 1) b' := by
  unfold headF
  rw [cnt_succ D M p b' j hj, ← hb]
  by_cases e : b' = b
  · subst e; unfold pos; rw [← hb]; simp; omega
  · have e' : ¬ b = b' := fun x => e x.symm
    simp [e, e']

theorem key_cast (d s : Nat) : ((d : Int) / 2 ^ (8 * s) % 256) = ((d / 256 ^ s % 256 : Nat) : Int) := by
  rw [Int.natCast_emod, Int.natCast_ediv, Int.natCast_pow]
  rw [Int.pow_mul]
  rfl

theorem shr_cast (d s : Nat) : ((d : Int) / 2 ^ (8 * s)) = ((d / 256 ^ s : Nat) : Int) := by
  rw [Int.natCast_ediv, Int.natCast_pow]
  rw [Int.pow_mul]
  rfl

/-! ### The merge sort -/
def seg (f : Nat → Nat) (a b : Nat) : List Nat := (List.range' a (b - a)).map f
theorem seg_nil (f : Nat → Nat) (a b : Nat) (h : b ≤ a) : seg f a b = [] := by
  unfold seg; rw [show b - a = 0 by omega]; rfl
theorem seg_cons (f : Nat → Nat) (a b : Nat) (h : a < b) : seg f a b = f a :: seg f (a + 1) b := by
  unfold seg
  rw [show b - a = (b - (a + 1)) + 1 by omega, List.range'_succ]
  rfl
theorem seg_snoc (f : Nat → Nat) (a b : Nat) (h : a ≤ b) : seg f a (b + 1) = seg f a b ++ [f b] := by
  unfold seg
  rw [show b + 1 - a = (b - a) + 1 by omega, List.range'_concat, List.map_append]
  simp
  congr 1; omega
theorem seg_congr (f g : Nat → Nat) (a b : Nat) (h : ∀ x, a ≤ x → x < b → f x = g x) : seg f a b = seg g a b := by
  unfold seg
  apply List.map_congr_left
  intro x hx
  rw [List.mem_range'_1] at hx
  exact h x (by omega) (by omega)

def upd (f : Nat → Nat) (i v : Nat) : Nat → Nat := fun j => if j = i then v else f j
theorem upd_same (f : Nat → Nat) (i v : Nat) : upd f i v i = v := by simp [upd]
theorem upd_other (f : Nat → Nat) (i v j : Nat) (h : j ≠ i) : upd f i v j = f j := by simp [upd, h]
theorem seg_upd (f : Nat → Nat) (a b v : Nat) (h : a ≤ b) : seg (upd f b v) a (b + 1) = seg f a b ++ [v] := by
  rw [seg_snoc _ _ _ h, upd_same, seg_congr (upd f b v) f a b (fun x _ hx => upd_other _ _ _ _ (by omega))]

/-- A run that is whole: the indices from a to b, in order. -/
def Good (a b : Nat) (l : List Nat) : Prop := l.Perm (List.range' a (b - a)) ∧ l.Pairwise fun x y => leB D x y = true

theorem good_one (a : Nat) : Good D a (a + 1) [a] := by
  refine ⟨?_, by simp⟩
  rw [show a + 1 - a = 1 by omega]
  exact List.Perm.refl _

theorem good_merge (a m b : Nat) (l r : List Nat) (h1 : a ≤ m) (h2 : m ≤ b) (hl : Good D a m l) (hr : Good D m b r) : Good D a b (l.merge r (leB D)) := by
  refine ⟨?_, List.pairwise_merge (leB_trans D) (leB_total D) l r hl.2 hr.2⟩
  refine (List.merge_perm_append _).trans ((hl.1.append hr.1).trans ?_)
  have e := List.range'_append (s := a) (m := m - a) (n := b - m) (step := 1)
  rw [show a + 1 * (m - a) = m by omega, show m - a + (b - m) = b - a by omega] at e
  rw [e]

theorem good_mem (a b : Nat) (l : List Nat) (h : Good D a b l) (x : Nat) (hx : x ∈ l) : a ≤ x ∧ x < b := by
  have := h.1.mem_iff.1 hx
  rw [List.mem_range'_1] at this
  omega

/-- The state of one merge: what has been written, and what is left, are the merge of the whole. -/
structure MInv (f g g0 : Nat → Nat) (a m b i j k : Nat) : Prop where
  hai : a ≤ i
  him : i ≤ m
  hmj : m ≤ j
  hjb : j ≤ b
  hk : k + m = i + j
  eq : seg g a k ++ (seg f i m).merge (seg f j b) (leB D) = (seg f a m).merge (seg f m b) (leB D)
  old : ∀ x, x < a → g x = g0 x

theorem minv_start (f g0 : Nat → Nat) (a m b : Nat) (h1 : a ≤ m) (h2 : m ≤ b) : MInv D f g0 g0 a m b a m a :=
  ⟨Nat.le_refl _, h1, Nat.le_refl _, h2, by omega, by rw [seg_nil g0 a a (Nat.le_refl _)]; rfl, fun _ _ => rfl⟩

theorem merge_left (x : Nat) (l r : List Nat) (h : ∀ y ∈ r.head?, leB D x y = true) : (x :: l).merge r (leB D) = x :: l.merge r (leB D) := by
  cases r with
  | nil => simp [List.merge_right]
  | cons y r => rw [List.cons_merge_cons, if_pos (h y (by simp))]

theorem merge_right' (y : Nat) (l r : List Nat) (h : ∀ x ∈ l.head?, leB D x y = false) : l.merge (y :: r) (leB D) = y :: l.merge r (leB D) := by
  cases l with
  | nil => simp [List.nil_merge]
  | cons x l => rw [List.cons_merge_cons, if_neg (by simp [h x (by simp)])]

theorem seg_head (f : Nat → Nat) (a b : Nat) (y : Nat) (h : y ∈ (seg f a b).head?) : a < b ∧ y = f a := by
  by_cases hab : a < b
  · rw [seg_cons f a b hab] at h
    simp at h
    exact ⟨hab, h.symm⟩
  · rw [seg_nil f a b (by omega)] at h
    simp at h

theorem minv_left {f g g0 : Nat → Nat} {a m b i j k : Nat} (h : MInv D f g g0 a m b i j k) (hi : i < m) (ht : j < b → ¬ D (f j) < D (f i)) (hlt : j < b → f i < f j) :
    MInv D f (upd g k (f i)) g0 a m b (i + 1) j (k + 1) := by
  refine ⟨by have := h.hai; omega, hi, h.hmj, h.hjb, by have := h.hk; omega, ?_, fun x hx => ?_⟩
  · have := h.hai; have := h.hmj; have := h.hk
    rw [seg_upd _ _ _ _ (by omega), ← h.eq, seg_cons f i m hi, merge_left D (f i)]
    · simp
    · intro y hy
      obtain ⟨h1, rfl⟩ := seg_head f j b y hy
      have := ht h1; have := hlt h1
      simp only [leB, decide_eq_true_eq]; omega
  · have := h.hai; have := h.hmj; have := h.hk
    rw [upd_other _ _ _ _ (by omega)]
    exact h.old x hx

theorem minv_right {f g g0 : Nat → Nat} {a m b i j k : Nat} (h : MInv D f g g0 a m b i j k) (hj : j < b) (ht : i < m → D (f j) < D (f i)) :
    MInv D f (upd g k (f j)) g0 a m b i (j + 1) (k + 1) := by
  refine ⟨h.hai, h.him, by have := h.hmj; omega, hj, by have := h.hk; omega, ?_, fun x hx => ?_⟩
  · have := h.hai; have := h.hmj; have := h.hk
    rw [seg_upd _ _ _ _ (by omega), ← h.eq, seg_cons f j b hj, merge_right' D (f j)]
    · simp
    · intro x hx
      obtain ⟨h1, rfl⟩ := seg_head f i m x hx
      have := ht h1
      simp only [leB, decide_eq_false_iff_not]; omega
  · have := h.hai; have := h.hmj; have := h.hk
    rw [upd_other _ _ _ _ (by omega)]
    exact h.old x hx

theorem minv_done {f g g0 : Nat → Nat} {a m b k : Nat} (h : MInv D f g g0 a m b m b k) : k = b ∧ seg g a b = (seg f a m).merge (seg f m b) (leB D) := by
  have hk := h.hk
  have e : k = b := by omega
  subst e
  refine ⟨rfl, ?_⟩
  have := h.eq
  rw [seg_nil f m m (Nat.le_refl _), seg_nil f k k (Nat.le_refl _), List.nil_merge, List.append_nil] at this
  exact this

/-- All runs of width W are whole, up to 'top'. -/
def Runs (W n top : Nat) (f : Nat → Nat) : Prop := ∀ t, t * W < top → Good D (t * W) (min (t * W + W) n) (seg f (t * W) (min (t * W + W) n))

theorem runs_one (n : Nat) (f : Nat → Nat) (h : ∀ x, x < n → f x = x) : Runs D 1 n n f := by
  intro t ht
  rw [Nat.mul_one] at ht ⊢
  rw [show min (t + 1) n = t + 1 by omega, seg_cons f t (t + 1) (by omega), seg_nil f (t + 1) (t + 1) (Nat.le_refl _), h t ht]
  exact good_one D t

theorem runs_full (W n : Nat) (f : Nat → Nat) (hn : n ≤ W) (h0 : 0 < n) (h : Runs D W n n f) : Good D 0 n (seg f 0 n) := by
  have := h 0 (by omega)
  simp only [Nat.zero_mul, Nat.zero_add] at this
  rwa [show min W n = n by omega] at this

/-- One more run of twice the width. -/
theorem runs_next (W n t : Nat) (f g g0 : Nat → Nat) (hW : 0 < W) (hf : Runs D W n n f) (ht : t * (2 * W) < n) (hg0 : Runs D (2 * W) n (t * (2 * W)) g0)
    (hold : ∀ x, x < t * (2 * W) → g x = g0 x)
    (heq : seg g (t * (2 * W)) (min (t * (2 * W) + 2 * W) n) = (seg f (t * (2 * W)) (min (t * (2 * W) + W) n)).merge (seg f (min (t * (2 * W) + W) n) (min (t * (2 * W) + 2 * W) n)) (leB D)) :
    Runs D (2 * W) n ((t + 1) * (2 * W)) g := by
  intro u hu
  have e1 : (t + 1) * (2 * W) = t * (2 * W) + 2 * W := by rw [Nat.succ_mul]
  by_cases h : u = t
  · subst h
    rw [heq]
    have ea : u * (2 * W) = (2 * u) * W := by rw [← Nat.mul_assoc, Nat.mul_comm u 2]
    have eb : u * (2 * W) + W = (2 * u + 1) * W := by rw [show (2 * u + 1) * W = 2 * u * W + W from Nat.succ_mul _ _, ← ea]
    by_cases hm : u * (2 * W) + W < n
    · have g1 := hf (2 * u) (by rw [← ea]; exact ht)
      have g2 := hf (2 * u + 1) (by rw [← eb]; exact hm)
      rw [← ea] at g1
      rw [← eb] at g2
      have e2 : min (u * (2 * W) + W) n = u * (2 * W) + W := by omega
      rw [e2] at g1 ⊢
      have e3 : u * (2 * W) + W + W = u * (2 * W) + 2 * W := by omega
      rw [e3] at g2
      exact good_merge D _ _ _ _ _ (by omega) (by omega) g1 g2
    · have g1 := hf (2 * u) (by rw [← ea]; exact ht)
      rw [← ea] at g1
      have e2 : min (u * (2 * W) + W) n = n := by omega
      have e3 : min (u * (2 * W) + 2 * W) n = n := by omega
      rw [e2] at g1 ⊢
      rw [e3, seg_nil f n n (Nat.le_refl _), List.merge_right]
      exact g1
  · have hle : u * (2 * W) < t * (2 * W) := by
      rcases Nat.lt_or_ge u t with h1 | h1
      · exact Nat.mul_lt_mul_of_pos_right h1 (by omega)
      · have h3 : (t + 1) * (2 * W) ≤ u * (2 * W) := Nat.mul_le_mul_right _ (by omega)
        omega
    have g1 := hg0 u hle
    have h4 : u * (2 * W) + 2 * W ≤ t * (2 * W) := by
      have : u + 1 ≤ t := by
        rcases Nat.lt_or_ge u t with h1 | h1
        · exact h1
        · have : t * (2 * W) ≤ u * (2 * W) := Nat.mul_le_mul_right _ h1
          omega
      have := Nat.mul_le_mul_right (2 * W) this
      rwa [Nat.succ_mul] at this
    rw [seg_congr g g0 _ _ (fun x _ hx => hold x (by omega))]
    exact g1

/-- The two runs that are merged: every index of the left one is less than every one of the right. -/
theorem runs_lt (W n t : Nat) (f : Nat → Nat) (hf : Runs D W n n f) (i j : Nat) (hi : t * (2 * W) ≤ i) (him : i < min (t * (2 * W) + W) n) (hj : min (t * (2 * W) + W) n ≤ j) (hjb : j < min (t * (2 * W) + 2 * W) n) : f i < f j := by
  have ea : t * (2 * W) = (2 * t) * W := by rw [← Nat.mul_assoc, Nat.mul_comm t 2]
  have eb : t * (2 * W) + W = (2 * t + 1) * W := by rw [show (2 * t + 1) * W = 2 * t * W + W from Nat.succ_mul _ _, ← ea]
  have g1 := hf (2 * t) (by rw [← ea]; omega)
  have g2 := hf (2 * t + 1) (by rw [← eb]; omega)
  rw [← ea] at g1
  rw [← eb] at g2
  have m1 := good_mem D _ _ _ g1 (f i) (by unfold seg; exact List.mem_map_of_mem (by rw [List.mem_range'_1]; omega))
  have m2 := good_mem D _ _ _ g2 (f j) (by unfold seg; exact List.mem_map_of_mem (by rw [List.mem_range'_1]; omega))
  omega

/-- Every index of a whole run is below n. -/
theorem runs_bound (W n : Nat) (f : Nat → Nat) (hW : 0 < W) (hf : Runs D W n n f) (i : Nat) (hi : i < n) : f i < n := by
  have hd := Nat.div_add_mod i W
  have hm := Nat.mod_lt i hW
  rw [Nat.mul_comm] at hd
  have g1 := hf (i / W) (by omega)
  have m1 := good_mem D _ _ _ g1 (f i) (by unfold seg; exact List.mem_map_of_mem (by rw [List.mem_range'_1]; omega))
  omega
end
end Go.Proofs.Qxb6000430aMods.Srt
