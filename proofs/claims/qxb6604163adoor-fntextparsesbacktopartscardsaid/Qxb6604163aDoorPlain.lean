/-
  PLAIN: a label's text, and what the law's reader makes of it. No Go in sight.
-/
import Derived.Lib.ItoaNum
namespace Go.Proofs.Qxb6604163aDoor.Txt
open Go.Lib

theorem dec_lt {u : Nat} (h : u < 10) : decDigits u = [UInt8.ofNat (48 + u)] := decDigits_one h
theorem dec_ge {u : Nat} (h : ¬ u < 10) : decDigits u = decDigits (u / 10) ++ [UInt8.ofNat (48 + u % 10)] := by rw [decDigits, dif_neg h]
theorem digit_nat {d : Nat} (h : d < 10) : (UInt8.ofNat (48 + d)).toNat = 48 + d := by
  have : (UInt8.ofNat (48 + d)).toNat = (48 + d) % 256 := UInt8.toNat_ofNat'
  omega

/-- The text of the first k parts. -/
def txt (F : Nat → Int) : Nat → List UInt8
  | 0 => []
  | k + 1 => (if k = 0 then [] else txt F k ++ [46]) ++ decDigits (F k).toNat
theorem txt_one (F : Nat → Int) : txt F 1 = decDigits (F 0).toNat := rfl
theorem txt_next {F : Nat → Int} {k : Nat} (h : k ≠ 0) : txt F (k + 1) = txt F k ++ [46] ++ decDigits (F k).toNat := by simp [txt, h]

/-- The reader's state: the parts read, the part in hand, its digits so far, whether its first digit is a zero. -/
structure St where
  got : List Int
  cur : Int
  nd : Nat
  lead : Bool

def step (s : St) (b : UInt8) : Option St :=
  if b.toNat = 46 then (if s.nd = 0 then none else some ⟨s.got ++ [s.cur], 0, 0, false⟩)
  else if b.toNat < 48 ∨ 57 < b.toNat then none
  else if s.nd = 1 ∧ s.lead = true then none
  else if (18446744073709551615 - ((b.toNat : Int) - 48)) / 10 < s.cur then none
  else some ⟨s.got, s.cur * 10 + ((b.toNat : Int) - 48), s.nd + 1, if s.nd = 0 ∧ b.toNat = 48 then true else s.lead⟩

def run (s : St) : List UInt8 → Option St
  | [] => some s
  | b :: l => match step s b with
    | none => none
    | some s' => run s' l
theorem run_append {s : St} {l r : List UInt8} : ∀ {s' : St}, run s l = some s' → run s (l ++ r) = run s' r := by
  induction l generalizing s with
  | nil => intro s' h; simp only [run, Option.some.injEq] at h; subst h; rfl
  | cons b l ih =>
    intro s' h
    simp only [run, List.cons_append] at h ⊢
    cases e : step s b with
    | none => rw [e] at h; cases h
    | some t => rw [e] at h; exact ih h
theorem run_one {s s' : St} {b : UInt8} (h : step s b = some s') : run s [b] = some s' := by simp [run, h]
/-- A reading that comes through comes through each of its beginnings. -/
theorem run_take {s : St} {l : List UInt8} : ∀ {f : St} (k : Nat), run s l = some f → ∃ t, run s (l.take k) = some t := by
  induction l generalizing s with
  | nil => intro f k h; exact ⟨s, by simp [run]⟩
  | cons b l ih =>
    intro f k h
    cases k with
    | zero => exact ⟨s, rfl⟩
    | succ k =>
      simp only [run] at h
      cases e : step s b with
      | none => rw [e] at h; cases h
      | some t =>
        rw [e] at h
        obtain ⟨u, hu⟩ := ih k h
        exact ⟨u, by simp only [List.take_succ_cons, run, e]; exact hu⟩
theorem run_next {s : St} {l : List UInt8} {f t : St} {k : Nat} {b : UInt8} (h : run s l = some f) (ht : run s (l.take k) = some t) (hb : l[k]? = some b) : ∃ t', step t b = some t' ∧ run s (l.take (k + 1)) = some t' := by
  obtain ⟨u, hu⟩ := run_take (k + 1) h
  have hk : k < l.length := (List.getElem?_eq_some_iff.1 hb).1
  have hb' : l[k] = b := (List.getElem?_eq_some_iff.1 hb).2
  rw [List.take_succ_eq_append_getElem hk, hb', run_append ht] at hu
  cases e : step t b with
  | none => simp [run, e] at hu
  | some t' =>
    refine ⟨t', rfl, ?_⟩
    rw [List.take_succ_eq_append_getElem hk, hb', run_append ht]
    exact run_one e

theorem step_digit {s : St} {d : Nat} (hd : d < 10) (h1 : ¬ (s.nd = 1 ∧ s.lead = true)) (h2 : s.cur * 10 + d ≤ 18446744073709551615) :
    step s (UInt8.ofNat (48 + d)) = some ⟨s.got, s.cur * 10 + d, s.nd + 1, if s.nd = 0 ∧ d = 0 then true else s.lead⟩ := by
  unfold step
  rw [digit_nat hd, if_neg (by omega), if_neg (by omega), if_neg h1, if_neg (by omega)]
  congr 2
  · omega
  · by_cases c : s.nd = 0 ∧ d = 0
    · rw [if_pos c, if_pos (by omega)]
    · rw [if_neg c, if_neg (by omega)]
/-- A part's digits. -/
theorem run_dec (G : List Int) : ∀ (m u : Nat), u ≤ m → u ≤ 18446744073709551615 → ∃ nd, 0 < nd ∧ run ⟨G, 0, 0, false⟩ (decDigits u) = some ⟨G, (u : Int), nd, u == 0⟩ := by
  intro m
  induction m with
  | zero =>
    intro u h _
    have : u = 0 := by omega
    subst this
    refine ⟨1, by omega, ?_⟩
    rw [dec_lt (by omega)]
    have := step_digit (s := ⟨G, 0, 0, false⟩) (d := 0) (by omega) (by simp) (by simp)
    rw [run_one this]
    simp
  | succ m ih =>
    intro u h hu
    by_cases c : u < 10
    · refine ⟨1, by omega, ?_⟩
      rw [dec_lt c]
      have := step_digit (s := ⟨G, 0, 0, false⟩) (d := u) c (by simp) (by simp; omega)
      rw [run_one this]
      by_cases z : u = 0
      · subst z; simp
      · simp [z]
    · obtain ⟨nd, hnd, hr⟩ := ih (u / 10) (by omega) (by omega)
      refine ⟨nd + 1, by omega, ?_⟩
      have z : (u / 10 == 0) = false := by simp; omega
      rw [z] at hr
      rw [dec_ge c, run_append hr]
      have := step_digit (s := ⟨G, ((u / 10 : Nat) : Int), nd, false⟩) (d := u % 10) (by omega) (by simp) (by simp; omega)
      rw [run_one this]
      have z2 : (u == 0) = false := by simp; omega
      rw [z2]
      congr 2
      · simp; omega
      · rw [if_neg (by intro q; have := q.1; simp at this; omega)]

def parts (F : Nat → Int) (n : Nat) : List Int := (List.range n).map F
theorem parts_succ (F : Nat → Int) (n : Nat) : parts F (n + 1) = parts F n ++ [F n] := by simp [parts, List.range_succ]
def Rg (F : Nat → Int) (n : Nat) : Prop := ∀ i, i < n → 0 ≤ F i ∧ F i < 18446744073709551616
/-- The text is read back. -/
theorem run_txt (F : Nat → Int) : ∀ n, Rg F (n + 1) → ∃ nd, 0 < nd ∧ run ⟨[], 0, 0, false⟩ (txt F (n + 1)) = some ⟨parts F n, F n, nd, (F n).toNat == 0⟩ := by
  intro n
  induction n with
  | zero =>
    intro h
    have h0 := h 0 (by omega)
    obtain ⟨nd, h1, h2⟩ := run_dec [] (F 0).toNat (F 0).toNat (Nat.le_refl _) (by omega)
    refine ⟨nd, h1, ?_⟩
    rw [txt_one, h2]
    congr 2
    omega
  | succ n ih =>
    intro h
    obtain ⟨nd, h1, h2⟩ := ih fun i hi => h i (by omega)
    have h0 := h (n + 1) (by omega)
    obtain ⟨nd', h3, h4⟩ := run_dec (parts F (n + 1)) (F (n + 1)).toNat (F (n + 1)).toNat (Nat.le_refl _) (by omega)
    refine ⟨nd', h3, ?_⟩
    rw [txt_next (by omega), List.append_assoc, run_append h2]
    have hdot : step ⟨parts F n, F n, nd, (F n).toNat == 0⟩ 46 = some ⟨parts F n ++ [F n], 0, 0, false⟩ := by
      have e : (46 : UInt8).toNat = 46 := rfl
      unfold step; rw [if_pos e, if_neg (by show ¬ nd = 0; omega)]
    rw [run_append (run_one hdot), ← parts_succ, h4]
    congr 2
    omega
theorem run_zero : run ⟨[], 0, 0, false⟩ [48] = some ⟨[], 0, 1, true⟩ := by
  have := step_digit (s := ⟨[], 0, 0, false⟩) (d := 0) (by omega) (by simp) (by simp)
  exact run_one this

/-! ### Lengths -/
theorem dec_len_le : ∀ (k u : Nat), u < 10 ^ (k + 1) → (decDigits u).length ≤ k + 1 := by
  intro k
  induction k with
  | zero => intro u h; rw [dec_lt (by simpa using h)]; simp
  | succ k ih =>
    intro u h
    by_cases c : u < 10
    · rw [dec_lt c]; simp
    · rw [dec_ge c]
      have : u / 10 < 10 ^ (k + 1) := by rw [Nat.pow_succ] at h; omega
      have := ih (u / 10) this
      simp; omega
theorem dec_len20 {u : Nat} (h : u < 18446744073709551616) : (decDigits u).length ≤ 20 := dec_len_le 19 u (by omega)
theorem txt_len {F : Nat → Int} : ∀ {n : Nat}, Rg F n → (txt F n).length ≤ 21 * n := by
  intro n
  induction n with
  | zero => intro _; simp [txt]
  | succ n ih =>
    intro h
    have h0 := h n (by omega)
    have h1 := dec_len20 (u := (F n).toNat) (by omega)
    have h2 := ih fun i hi => h i (by omega)
    unfold txt
    by_cases c : n = 0
    · rw [if_pos c]; simp; omega
    · rw [if_neg c]; simp; omega
end Go.Proofs.Qxb6604163aDoor.Txt
