/-
  PLAIN: the bytes of a key, and where takeKey stops. No Go in sight.
-/
namespace Go.Proofs.Qxb6604202a.Key
/-- A byte that may open a key. -/
def kst (x : Int) : Bool := decide (97 ≤ x ∧ x ≤ 122) || (x == 42)
/-- A byte that may stand inside a key. -/
def kch (x : Int) : Bool := kst x || decide (48 ≤ x ∧ x ≤ 57) || (x == 95) || (x == 45) || (x == 46)
/-- takeKey goes on at byte x, place k. -/
def go (k : Nat) (x : Int) : Bool := kst x || (decide (k ≠ 0) && kch x)
theorem kst_iff {x : Int} : kst x = true ↔ ((97 ≤ x ∧ x ≤ 122) ∨ x = 42) := by simp [kst]
theorem kch_iff {x : Int} : kch x = true ↔ ((97 ≤ x ∧ x ≤ 122) ∨ x = 42 ∨ (48 ≤ x ∧ x ≤ 57) ∨ x = 95 ∨ x = 45 ∨ x = 46) := by
  simp [kch, kst, or_assoc]
theorem go_iff {k : Nat} {x : Int} : go k x = true ↔ (kst x = true ∨ (k ≠ 0 ∧ kch x = true)) := by simp [go]
theorem kch_of_kst {x : Int} (h : kst x = true) : kch x = true := by rw [kch_iff]; rw [kst_iff] at h; omega
theorem go_zero {x : Int} : go 0 x = kst x := by simp [go]
theorem go_pos {k : Nat} {x : Int} (h : k ≠ 0) : go k x = kch x := by
  rw [Bool.eq_iff_iff, go_iff]
  constructor
  · rintro (a | a)
    · exact kch_of_kst a
    · exact a.2
  · exact fun a => .inr ⟨h, a⟩
end Go.Proofs.Qxb6604202a.Key
