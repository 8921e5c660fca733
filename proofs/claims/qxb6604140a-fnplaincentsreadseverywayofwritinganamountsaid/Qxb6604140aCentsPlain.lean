/-
  PLAIN: what plainCents and centsReadFromTheRight compute, on a reader of bytes 'b : Nat → Int' and a length. No Go in sight.
-/
namespace Go.Proofs.Qxb6604140a.Cents

/-- plainCents's scan: after k bytes: the cents gathered (mod 2^64) and the place of the point (-1: none yet); none: a byte that is neither. -/
def scanTo (b : Nat → Int) : Nat → Option (Int × Int)
  | 0 => some (0, -1)
  | k + 1 => match scanTo b k with
    | none => none
    | some (c, p) => if b k = 46 ∧ p < 0 then some (c, (k : Int)) else if 48 ≤ b k ∧ b k ≤ 57 then some ((c * 10 + (b k - 48)) % 18446744073709551616, p) else none

def mul10 : Nat → Int → Int
  | 0, c => c
  | j + 1, c => (mul10 j c * 10) % 18446744073709551616

def fin (n : Nat) (c p : Int) : Option Int :=
  if p < 0 then (if n = 0 ∨ 17 < n then none else some (mul10 2 c))
  else if p = 0 ∨ 17 < p ∨ (n : Int) - p - 1 = 0 ∨ 2 < (n : Int) - p - 1 then none
  else some (mul10 (2 - ((n : Int) - p - 1)).toNat c)

/-- plainCents. -/
def pc (b : Nat → Int) (n : Nat) : Option Int :=
  match scanTo b n with
  | none => none
  | some (c, p) => fin n c p

theorem scan_point {b : Nat → Int} {k : Nat} {c p : Int} (h : scanTo b k = some (c, p)) (h1 : b k = 46) (h2 : p < 0) : scanTo b (k + 1) = some (c, (k : Int)) := by
  simp [scanTo, h, h1, h2]
theorem scan_digit {b : Nat → Int} {k : Nat} {c p : Int} (h : scanTo b k = some (c, p)) (h1 : 48 ≤ b k) (h2 : b k ≤ 57) : scanTo b (k + 1) = some ((c * 10 + (b k - 48)) % 18446744073709551616, p) := by
  have : ¬ b k = 46 := by omega
  simp [scanTo, h, h1, h2, this]
theorem scan_bad {b : Nat → Int} {k : Nat} {c p : Int} (h : scanTo b k = some (c, p)) (h1 : ¬ (b k = 46 ∧ p < 0)) (h2 : ¬ (48 ≤ b k ∧ b k ≤ 57)) : scanTo b (k + 1) = none := by
  simp only [scanTo, h, if_neg h1, if_neg h2]
theorem scan_none {b : Nat → Int} {k : Nat} (h : scanTo b k = none) : ∀ n, k ≤ n → scanTo b n = none := by
  intro n hn
  induction n with
  | zero => have : k = 0 := by omega
            subst this; exact h
  | succ m ih =>
    by_cases e : k = m + 1
    · subst e; exact h
    · have := ih (by omega)
      simp [scanTo, this]
theorem pc_none {b : Nat → Int} {k n : Nat} (h : scanTo b k = none) (hn : k ≤ n) : pc b n = none := by
  simp [pc, scan_none h n hn]
theorem pc_some {b : Nat → Int} {n : Nat} {c p : Int} (h : scanTo b n = some (c, p)) : pc b n = fin n c p := by
  simp [pc, h]

/-! ### The right-to-left reader -/
def dig (x : Int) : Bool := decide (48 ≤ x ∧ x ≤ 57)
/-- The first k bytes as digits: none where one is no digit; mod 2^64. -/
def valTo (b : Nat → Int) : Nat → Option Int
  | 0 => some 0
  | k + 1 => match valTo b k with
    | none => none
    | some v => if dig (b k) = true then some ((v * 10 + (b k - 48)) % 18446744073709551616) else none
def rlFin (b : Nat → Int) (whole : Nat) (frac : Int) : Option Int :=
  if whole < 1 ∨ 17 < whole then none
  else match valTo b whole with
    | none => none
    | some v => some ((v * 100 + frac) % 18446744073709551616)
def rl (b : Nat → Int) (n : Nat) : Option Int :=
  if 2 ≤ n ∧ b (n - 2) = 46 then
    (if dig (b (n - 1)) = true then rlFin b (n - 2) ((b (n - 1) - 48) * 10) else none)
  else if 3 ≤ n ∧ b (n - 3) = 46 then
    (if dig (b (n - 2)) = true ∧ dig (b (n - 1)) = true then rlFin b (n - 3) ((b (n - 2) - 48) * 10 + (b (n - 1) - 48)) else none)
  else rlFin b n 0

theorem val_digit {b : Nat → Int} {k : Nat} {v : Int} (h : valTo b k = some v) (h1 : dig (b k) = true) : valTo b (k + 1) = some ((v * 10 + (b k - 48)) % 18446744073709551616) := by
  simp [valTo, h, h1]
theorem val_bad {b : Nat → Int} {k : Nat} {v : Int} (h : valTo b k = some v) (h1 : dig (b k) = false) : valTo b (k + 1) = none := by
  simp [valTo, h, h1]
theorem val_none {b : Nat → Int} {k : Nat} (h : valTo b k = none) : ∀ n, k ≤ n → valTo b n = none := by
  intro n hn
  induction n with
  | zero => have : k = 0 := by omega
            subst this; exact h
  | succ m ih =>
    by_cases e : k = m + 1
    · subst e; exact h
    · have := ih (by omega)
      simp [valTo, this]
theorem dig_iff {x : Int} : dig x = true ↔ (48 ≤ x ∧ x ≤ 57) := by simp [dig]
theorem dig_not {x : Int} : dig x = false ↔ ¬ (48 ≤ x ∧ x ≤ 57) := by rw [← Bool.not_eq_true, dig_iff]

/-! ### The two readers agree -/
theorem val_range {b : Nat → Int} : ∀ {k : Nat} {v : Int}, valTo b k = some v → (∀ i, i < k → dig (b i) = true) ∧ 0 ≤ v ∧ v < 18446744073709551616 ∧ (v < 10 ^ k) := by
  intro k
  induction k with
  | zero => intro v h; simp [valTo] at h; subst h; simp
  | succ k ih =>
    intro v h
    cases e : valTo b k with
    | none => simp [valTo, e] at h
    | some u =>
      obtain ⟨h1, h2, h3, h4⟩ := ih e
      cases hd : dig (b k) with
      | false => simp [valTo, e, hd] at h
      | true =>
        rw [val_digit e hd] at h
        simp only [Option.some.injEq] at h
        have hr := dig_iff.1 hd
        refine ⟨fun i hi => ?_, by omega, by omega, ?_⟩
        · by_cases c : i = k
          · subst c; exact hd
          · exact h1 i (by omega)
        · have : (u * 10 + (b k - 48)) % 18446744073709551616 ≤ u * 10 + (b k - 48) := by omega
          have e2 : (10 : Int) ^ (k + 1) = 10 ^ k * 10 := Int.pow_succ _ _
          omega

/-- Without a point the scan is the digits' reader. -/
theorem scan_val {b : Nat → Int} : ∀ {k : Nat} {v : Int}, valTo b k = some v → scanTo b k = some (v, -1) := by
  intro k
  induction k with
  | zero => intro v h; simp [valTo] at h; subst h; rfl
  | succ k ih =>
    intro v h
    cases e : valTo b k with
    | none => simp [valTo, e] at h
    | some u =>
      cases hd : dig (b k) with
      | false => simp [valTo, e, hd] at h
      | true =>
        rw [val_digit e hd] at h
        simp only [Option.some.injEq] at h
        have hr := dig_iff.1 hd
        rw [scan_digit (ih e) hr.1 hr.2, h]

/-- What a scan that has come through says. -/
theorem scan_says {b : Nat → Int} : ∀ {k : Nat} {c p : Int}, scanTo b k = some (c, p) →
    (p = -1 ∧ valTo b k = some c) ∨ (∃ q : Nat, p = q ∧ q < k ∧ b q = 46 ∧ (∃ v, valTo b q = some v ∧ (k = q + 1 → c = v) ∧ (k = q + 2 → c = (v * 10 + (b (q + 1) - 48)) % 18446744073709551616) ∧
      (k = q + 3 → c = ((v * 10 + (b (q + 1) - 48)) % 18446744073709551616 * 10 + (b (q + 2) - 48)) % 18446744073709551616)) ∧ ∀ i, q < i → i < k → dig (b i) = true) := by
  intro k
  induction k with
  | zero => intro c p h; simp [scanTo] at h; obtain ⟨rfl, rfl⟩ := h; exact .inl ⟨rfl, rfl⟩
  | succ k ih =>
    intro c p h
    cases e : scanTo b k with
    | none => simp [scanTo, e] at h
    | some cp =>
      obtain ⟨c0, p0⟩ := cp
      by_cases h1 : b k = 46 ∧ p0 < 0
      · rw [scan_point e h1.1 h1.2] at h
        simp only [Option.some.injEq, Prod.mk.injEq] at h
        obtain ⟨rfl, rfl⟩ := h
        rcases ih e with ⟨rfl, hv⟩ | ⟨q, rfl, _⟩
        · exact .inr ⟨k, rfl, by omega, h1.1, ⟨_, hv, fun _ => rfl, fun h => by omega, fun h => by omega⟩, fun i hi hj => by omega⟩
        · omega
      · by_cases h2 : 48 ≤ b k ∧ b k ≤ 57
        · rw [scan_digit e h2.1 h2.2] at h
          simp only [Option.some.injEq, Prod.mk.injEq] at h
          obtain ⟨h, rfl⟩ := h
          have hd : dig (b k) = true := dig_iff.2 h2
          rcases ih e with ⟨rfl, hv⟩ | ⟨q, rfl, hq, hb, ⟨v, hv, hc1, hc2, hc3⟩, hall⟩
          · exact .inl ⟨rfl, by rw [val_digit hv hd, h]⟩
          · refine .inr ⟨q, rfl, by omega, hb, ⟨v, hv, fun h => by omega, fun hk => ?_, fun hk => ?_⟩, fun i hi hj => ?_⟩
            · have : k = q + 1 := by omega
              rw [← h, hc1 this, this]
            · have : k = q + 2 := by omega
              rw [← h, hc2 this, this]
            · by_cases c : i = k
              · subst c; exact hd
              · exact hall i hi (by omega)
        · rw [scan_bad e h1 h2] at h; simp at h

theorem val_of_all {b : Nat → Int} : ∀ {k : Nat}, (∀ i, i < k → dig (b i) = true) → ∃ v, valTo b k = some v := by
  intro k
  induction k with
  | zero => intro _; exact ⟨0, rfl⟩
  | succ k ih =>
    intro h
    obtain ⟨v, hv⟩ := ih fun i hi => h i (by omega)
    exact ⟨_, val_digit hv (h k (by omega))⟩
theorem val_not {b : Nat → Int} {k i : Nat} (hi : i < k) (h : dig (b i) = false) : valTo b k = none := by
  cases e : valTo b k with
  | none => rfl
  | some v => have := (val_range e).1 i hi; rw [h] at this; cases this

theorem pow17 {k : Nat} {v : Int} (h : v < 10 ^ k) (hk : k ≤ 17) : v < 100000000000000000 := by
  have h1 : (10 : Nat) ^ k ≤ 10 ^ 17 := Nat.pow_le_pow_right (by omega) hk
  have h2 : (10 : Nat) ^ 17 = 100000000000000000 := by decide
  have h3 : (10 : Int) ^ k = ((10 ^ k : Nat) : Int) := by rw [Int.natCast_pow]; rfl
  omega

theorem rlFin_none {b : Nat → Int} {w : Nat} {f : Int} (h : valTo b w = none) : rlFin b w f = none := by
  unfold rlFin; split
  · rfl
  · rw [h]
theorem rlFin_out {b : Nat → Int} {w : Nat} {f : Int} (h : w < 1 ∨ 17 < w) : rlFin b w f = none := by
  unfold rlFin; rw [if_pos h]
theorem rlFin_some {b : Nat → Int} {w : Nat} {f v : Int} (h1 : 1 ≤ w) (h2 : w ≤ 17) (h : valTo b w = some v) : rlFin b w f = some ((v * 100 + f) % 18446744073709551616) := by
  unfold rlFin; rw [if_neg (by omega), h]

theorem dot_nodig {x : Int} (h : x = 46) : dig x = false := by subst h; rfl
theorem dig_nodot {x : Int} (h : dig x = true) : ¬ x = 46 := by intro c; rw [dot_nodig c] at h; cases h

theorem pc_rl (b : Nat → Int) (n : Nat) : pc b n = rl b n := by
  cases e : scanTo b n with
  | some cp =>
    obtain ⟨c, p⟩ := cp
    rw [pc_some e]
    rcases scan_says e with ⟨rfl, hv⟩ | ⟨q, rfl, hq, hb, ⟨v, hv, hc1, hc2, hc3⟩, hall⟩
    · obtain ⟨hd, v0, v1, v2⟩ := val_range hv
      unfold rl
      rw [if_neg (fun h => dig_nodot (hd (n - 2) (by omega)) h.2), if_neg (fun h => dig_nodot (hd (n - 3) (by omega)) h.2)]
      unfold fin
      rw [if_pos (by omega)]
      by_cases hn : n = 0 ∨ 17 < n
      · rw [if_pos hn, rlFin_out (by omega)]
      · rw [if_neg hn, rlFin_some (by omega) (by omega) hv]
        have := pow17 v2 (by omega)
        simp only [mul10, Option.some.injEq]
        omega
    · obtain ⟨hd, v0, v1, v2⟩ := val_range hv
      unfold fin
      rw [if_neg (by omega)]
      by_cases h1 : n = q + 2
      · have d1 := dig_iff.1 (hall (q + 1) (by omega) (by omega))
        have hd1 := dig_iff.2 d1
        have hr : rl b n = rlFin b q ((b (q + 1) - 48) * 10) := by
          unfold rl
          have e1 : n - 2 = q := by omega
          have e2 : n - 1 = q + 1 := by omega
          rw [e1, e2, if_pos ⟨by omega, hb⟩, if_pos hd1]
        rw [hr]
        by_cases hw : (q : Int) = 0 ∨ 17 < (q : Int)
        · rw [if_pos (by omega), rlFin_out (by omega)]
        · rw [if_neg (by omega), rlFin_some (by omega) (by omega) hv, hc2 h1]
          have := pow17 v2 (by omega)
          have e3 : (2 - ((n : Int) - (q : Int) - 1)).toNat = 1 := by omega
          rw [e3]
          simp only [mul10, Option.some.injEq]
          omega
      · by_cases h2 : n = q + 3
        · have d1 := dig_iff.1 (hall (q + 1) (by omega) (by omega))
          have d2 := dig_iff.1 (hall (q + 2) (by omega) (by omega))
          have hd1 := dig_iff.2 d1
          have hd2 := dig_iff.2 d2
          have hr : rl b n = rlFin b q ((b (q + 1) - 48) * 10 + (b (q + 2) - 48)) := by
            unfold rl
            have e1 : n - 2 = q + 1 := by omega
            have e2 : n - 1 = q + 2 := by omega
            have e3 : n - 3 = q := by omega
            rw [e1, e2, e3, if_neg (fun h => dig_nodot hd1 h.2), if_pos ⟨by omega, hb⟩, if_pos ⟨hd1, hd2⟩]
          rw [hr]
          by_cases hw : (q : Int) = 0 ∨ 17 < (q : Int)
          · rw [if_pos (by omega), rlFin_out (by omega)]
          · rw [if_neg (by omega), rlFin_some (by omega) (by omega) hv, hc3 h2]
            have := pow17 v2 (by omega)
            have e3 : (2 - ((n : Int) - (q : Int) - 1)).toNat = 0 := by omega
            rw [e3]
            simp only [mul10, Option.some.injEq]
            omega
        · rw [if_pos (by omega)]
          have hall0 : ∀ i, i < n → i ≠ q → dig (b i) = true := by
            intro i hi hne
            by_cases c : i < q
            · exact hd i c
            · exact hall i (by omega) hi
          unfold rl
          rw [if_neg, if_neg, rlFin_none (val_not hq (dot_nodig hb))]
          · intro h; exact dig_nodot (hall0 (n - 3) (by omega) (by omega)) h.2
          · intro h; exact dig_nodot (hall0 (n - 2) (by omega) (by omega)) h.2
  | none =>
    have hp : pc b n = none := pc_none e (Nat.le_refl _)
    rw [hp]
    have key : ∀ q v, valTo b q = some v → q < n → b q = 46 → (∀ i, q < i → i < n → dig (b i) = true) → False := by
      intro q v hv hq hb hall
      have : ∀ m, q + 1 + m ≤ n → ∃ c, scanTo b (q + 1 + m) = some (c, (q : Int)) := by
        intro m
        induction m with
        | zero => intro _; exact ⟨v, scan_point (scan_val hv) hb (by omega)⟩
        | succ m ih =>
          intro hm
          obtain ⟨c, hc⟩ := ih (by omega)
          have d := dig_iff.1 (hall (q + 1 + m) (by omega) (by omega))
          exact ⟨_, scan_digit hc d.1 d.2⟩
      obtain ⟨c, hc⟩ := this (n - (q + 1)) (by omega)
      rw [show q + 1 + (n - (q + 1)) = n from by omega, e] at hc
      cases hc
    symm
    unfold rl
    by_cases h1 : 2 ≤ n ∧ b (n - 2) = 46
    · rw [if_pos h1]
      by_cases h2 : dig (b (n - 1)) = true
      · rw [if_pos h2]
        cases hv : valTo b (n - 2) with
        | none => exact rlFin_none hv
        | some v => exact (key (n - 2) v hv (by omega) h1.2 fun i hi hj => by rw [show i = n - 1 from by omega]; exact h2).elim
      · rw [if_neg h2]
    · rw [if_neg h1]
      by_cases h3 : 3 ≤ n ∧ b (n - 3) = 46
      · rw [if_pos h3]
        by_cases h2 : dig (b (n - 2)) = true ∧ dig (b (n - 1)) = true
        · rw [if_pos h2]
          cases hv : valTo b (n - 3) with
          | none => exact rlFin_none hv
          | some v =>
            refine (key (n - 3) v hv (by omega) h3.2 fun i hi hj => ?_).elim
            by_cases c : i = n - 2
            · rw [c]; exact h2.1
            · rw [show i = n - 1 from by omega]; exact h2.2
        · rw [if_neg h2]
      · rw [if_neg h3]
        cases hv : valTo b n with
        | none => exact rlFin_none hv
        | some v => have := scan_val hv; rw [e] at this; cases this
end Go.Proofs.Qxb6604140a.Cents
