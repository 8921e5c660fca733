/-
  PLAIN: labels as functions with a length; parts past the end are zero. Covers, merge, equality. No Go in sight.
-/
namespace Go.Proofs.Qxb6604163a.Lbl

/-- Part i of the label of n parts F. -/
def pt (F : Nat → Int) (n i : Nat) : Int := if i < n then F i else 0
theorem pt_in {F : Nat → Int} {n i : Nat} (h : i < n) : pt F n i = F i := if_pos h
theorem pt_out {F : Nat → Int} {n i : Nat} (h : n ≤ i) : pt F n i = 0 := if_neg (by omega)
def Nn (F : Nat → Int) (n : Nat) : Prop := ∀ i, i < n → 0 ≤ F i
theorem pt_nn {F : Nat → Int} {n : Nat} (h : Nn F n) (i : Nat) : 0 ≤ pt F n i := by
  unfold pt; split
  · exact h i (by assumption)
  · omega

/-- Does (F, n) cover the first k parts of G? -/
def covB (F : Nat → Int) (n : Nat) (G : Nat → Int) : Nat → Bool
  | 0 => true
  | k + 1 => covB F n G k && decide (G k ≤ pt F n k)
theorem cov_step {F G : Nat → Int} {n k : Nat} (h : covB F n G k = true) (h2 : ¬ pt F n k < G k) : covB F n G (k + 1) = true := by
  simp only [covB, h, Bool.true_and, decide_eq_true_eq]; omega
theorem cov_iff {F G : Nat → Int} {n : Nat} : ∀ {m : Nat}, covB F n G m = true ↔ ∀ i, i < m → G i ≤ pt F n i := by
  intro m
  induction m with
  | zero => simp [covB]
  | succ m ih =>
    simp only [covB, Bool.and_eq_true, decide_eq_true_eq, ih]
    constructor
    · rintro ⟨h1, h2⟩ i hi
      by_cases e : i = m
      · subst e; exact h2
      · exact h1 i (by omega)
    · intro h
      exact ⟨fun i hi => h i (by omega), h m (by omega)⟩
theorem cov_fail {F G : Nat → Int} {n k m : Nat} (hk : k < m) (h : pt F n k < G k) : covB F n G m = false := by
  rw [← Bool.not_eq_true, cov_iff]
  intro c
  have := c k hk
  omega
/-- The order. -/
def Le (G : Nat → Int) (m : Nat) (F : Nat → Int) (n : Nat) : Prop := ∀ i, pt G m i ≤ pt F n i
theorem cov_le {F G : Nat → Int} {n m : Nat} (hF : Nn F n) : covB F n G m = true ↔ Le G m F n := by
  rw [cov_iff]
  constructor
  · intro h i
    by_cases c : i < m
    · rw [pt_in c]; exact h i c
    · rw [pt_out (by omega)]; exact pt_nn hF i
  · intro h i hi
    have := h i
    rwa [pt_in hi] at this

/-- Equal parts among the first k. -/
def sameB (F : Nat → Int) (n : Nat) (G : Nat → Int) (m : Nat) : Nat → Bool
  | 0 => true
  | k + 1 => sameB F n G m k && decide (pt F n k = pt G m k)
theorem same_step {F G : Nat → Int} {n m k : Nat} (h : sameB F n G m k = true) (h2 : pt F n k = pt G m k) : sameB F n G m (k + 1) = true := by
  simp only [sameB, h, Bool.true_and, decide_eq_true_eq]; exact h2
theorem same_iff {F G : Nat → Int} {n m : Nat} : ∀ {k : Nat}, sameB F n G m k = true ↔ ∀ i, i < k → pt F n i = pt G m i := by
  intro k
  induction k with
  | zero => simp [sameB]
  | succ k ih =>
    simp only [sameB, Bool.and_eq_true, decide_eq_true_eq, ih]
    constructor
    · rintro ⟨h1, h2⟩ i hi
      by_cases e : i = k
      · subst e; exact h2
      · exact h1 i (by omega)
    · intro h
      exact ⟨fun i hi => h i (by omega), h k (by omega)⟩
theorem same_fail {F G : Nat → Int} {n m k l : Nat} (hk : k < l) (h : ¬ pt F n k = pt G m k) : sameB F n G m l = false := by
  rw [← Bool.not_eq_true, same_iff]
  intro c
  exact h (c k hk)
theorem same_le {F G : Nat → Int} {n m k : Nat} (hF : Nn F n) (hG : Nn G m) (hn : n ≤ k) (hm : m ≤ k) : sameB F n G m k = (covB F n G m && covB G m F n) := by
  rw [Bool.eq_iff_iff, Bool.and_eq_true, cov_le hF, cov_le hG, same_iff]
  constructor
  · intro h
    have e : ∀ i, pt F n i = pt G m i := fun i => by
      by_cases c : i < k
      · exact h i c
      · rw [pt_out (by omega), pt_out (by omega)]
    exact ⟨fun i => by rw [e i]; omega, fun i => by rw [e i]; omega⟩
  · rintro ⟨h1, h2⟩ i _
    have := h1 i
    have := h2 i
    omega
theorem cov_refl {F : Nat → Int} {n : Nat} (hF : Nn F n) : covB F n F n = true := (cov_le hF).2 fun _ => by omega
theorem cov_trans {F G H : Nat → Int} {n m l : Nat} (hF : Nn F n) (hG : Nn G m) (h1 : covB F n G m = true) (h2 : covB G m H l = true) : covB F n H l = true :=
  (cov_le hF).2 fun i => by have a := (cov_le hF).1 h1 i; have b := (cov_le hG).1 h2 i; omega

/-- M is the partwise greater of F and G. -/
def IsMax (M : Nat → Int) (l : Nat) (F : Nat → Int) (n : Nat) (G : Nat → Int) (m : Nat) : Prop := ∀ i, pt M l i = if pt F n i < pt G m i then pt G m i else pt F n i
theorem max_left {M F G : Nat → Int} {l n m : Nat} (hM : Nn M l) (h : IsMax M l F n G m) : covB M l F n = true := (cov_le hM).2 fun i => by rw [h i]; split <;> omega
theorem max_right {M F G : Nat → Int} {l n m : Nat} (hM : Nn M l) (h : IsMax M l F n G m) : covB M l G m = true := (cov_le hM).2 fun i => by rw [h i]; split <;> omega
theorem max_least {M F G C : Nat → Int} {l n m k : Nat} (hC : Nn C k) (h : IsMax M l F n G m) : (covB C k F n && covB C k G m) = covB C k M l := by
  rw [Bool.eq_iff_iff, Bool.and_eq_true, cov_le hC, cov_le hC, cov_le hC]
  constructor
  · rintro ⟨h1, h2⟩ i
    rw [h i]
    have := h1 i
    have := h2 i
    split <;> omega
  · intro h1
    refine ⟨fun i => ?_, fun i => ?_⟩
    · have a := h1 i; rw [h i] at a; split at a <;> omega
    · have a := h1 i; rw [h i] at a; split at a <;> omega
/-- The label in its documented form: no zero at its end. -/
def Trim (F : Nat → Int) (n : Nat) : Prop := n = 0 ∨ F (n - 1) ≠ 0
theorem trim_le {F G : Nat → Int} {n m : Nat} (hF : Trim F n) (h : ∀ i, pt F n i = pt G m i) : n ≤ m := by
  rcases hF with h0 | h1
  · omega
  · by_cases c : n ≤ m
    · exact c
    · have := h (n - 1)
      rw [pt_in (by omega), pt_out (by omega)] at this
      exact absurd this h1
theorem trim_unique {F G : Nat → Int} {n m : Nat} (hF : Trim F n) (hG : Trim G m) (h : ∀ i, pt F n i = pt G m i) : n = m ∧ ∀ i, i < n → F i = G i := by
  have a := trim_le hF h
  have b := trim_le hG fun i => (h i).symm
  refine ⟨by omega, fun i hi => ?_⟩
  have := h i
  rwa [pt_in hi, pt_in (by omega)] at this

/-! ### Merge's three ways -/
theorem merge_l {F G : Nat → Int} {n m : Nat} (hF : Nn F n) (h : covB F n G m = true) : IsMax F n F n G m := fun i => by
  have := (cov_le hF).1 h i
  rw [if_neg (by omega)]
theorem merge_r {F G : Nat → Int} {n m : Nat} (hG : Nn G m) (h : covB G m F n = true) : IsMax G m F n G m := fun i => by
  have := (cov_le hG).1 h i
  split <;> omega
/-- The long label, its first k parts raised to the short one's. -/
def up (L S : Nat → Int) (k i : Nat) : Int := if i < k then (if L i < S i then S i else L i) else L i
theorem up_zero (L S : Nat → Int) : up L S 0 = L := by funext i; unfold up; rw [if_neg (by omega)]
theorem up_put {L S : Nat → Int} {k : Nat} (h : L k < S k) (i : Nat) : up L S (k + 1) i = if i = k then S k else up L S k i := by
  unfold up
  by_cases c : i = k
  · subst c; rw [if_pos (by omega), if_pos h, if_pos rfl]
  · rw [if_neg c]
    by_cases d : i < k
    · rw [if_pos (by omega), if_pos d]
    · rw [if_neg (by omega), if_neg d]
theorem up_keep {L S : Nat → Int} {k : Nat} (h : ¬ L k < S k) (i : Nat) : up L S (k + 1) i = up L S k i := by
  unfold up
  by_cases c : i = k
  · subst c; rw [if_pos (by omega), if_neg h, if_neg (by omega)]
  · by_cases d : i < k
    · rw [if_pos (by omega), if_pos d]
    · rw [if_neg (by omega), if_neg d]
theorem up_at (L S : Nat → Int) (k : Nat) : up L S k k = L k := if_neg (by omega)
theorem up_nn {L S : Nat → Int} {n k : Nat} (hL : Nn L n) : Nn (up L S k) n := fun i hi => by
  have := hL i hi
  unfold up; split
  · split <;> omega
  · exact this
theorem up_lt {L S : Nat → Int} {n m : Nat} (hL : ∀ i, i < n → L i < 18446744073709551616) (hS : ∀ i, i < m → S i < 18446744073709551616) : ∀ i, i < n → up L S m i < 18446744073709551616 := fun i hi => by
  have := hL i hi
  unfold up; split
  · have := hS i (by assumption); split <;> omega
  · exact this
theorem up_max {L S : Nat → Int} {n m : Nat} (hL : Nn L n) (h : m ≤ n) : IsMax (up L S m) n L n S m := fun i => by
  by_cases c : i < n
  · rw [pt_in c, pt_in c]
    unfold up
    by_cases d : i < m
    · rw [if_pos d, pt_in d]
    · have := hL i c
      rw [if_neg d, pt_out (by omega), if_neg (by omega)]
  · rw [pt_out (by omega), pt_out (by omega), pt_out (by omega), if_neg (by omega)]
theorem up_max' {L S : Nat → Int} {n m : Nat} (hL : Nn L n) (h : m ≤ n) : IsMax (up L S m) n S m L n := fun i => by
  have := up_max (S := S) hL h i
  rw [this]
  split <;> split <;> omega
theorem up_trim {L S : Nat → Int} {n m : Nat} (hL : Nn L n) (h : Trim L n) : Trim (up L S m) n := by
  rcases h with h | h
  · exact .inl h
  · by_cases c : n = 0
    · exact .inl c
    · have := hL (n - 1) (by omega)
      refine .inr ?_
      unfold up; split
      · split <;> omega
      · exact h
end Go.Proofs.Qxb6604163a.Lbl
