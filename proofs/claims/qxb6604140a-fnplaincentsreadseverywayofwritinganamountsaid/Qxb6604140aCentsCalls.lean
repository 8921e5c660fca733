/-
  THE CONTRACTS OF plainCents, ZZplainCents and centsReadFromTheRight as callers meet them.
-/
import Derived.Test.Qxb6604140aCentsRight
namespace Go.Proofs.Qxb6604140a.Cents
open Go.RowKit
/-- What plainCents answers at a string: the cents (0 where it refuses), and whether it reads it. -/
def pcV (s : ByteArray) : Int := (pc (bt s) s.size).getD 0
def pcB (s : ByteArray) : Bool := (pc (bt s) s.size).isSome
theorem ans_pc (s : ByteArray) : ans (pc (bt s) s.size) = .returned (.tuple #[.int .u64 (pcV s), .bool (pcB s)]) := rfl
theorem ans_rl (s : ByteArray) : ans (rl (bt s) s.size) = .returned (.tuple #[.int .u64 (pcV s), .bool (pcB s)]) := by rw [← pc_rl]; rfl
theorem pcV_of {s : ByteArray} {v : Int} (h : pc (bt s) s.size = some v) : pcV s = v ∧ pcB s = true := by unfold pcV pcB; rw [h]; exact ⟨rfl, rfl⟩
theorem pcV_none {s : ByteArray} (h : pc (bt s) s.size = none) : pcV s = 0 ∧ pcB s = false := by unfold pcV pcB; rw [h]; exact ⟨rfl, rfl⟩

theorem f26_any (s : ByteArray) (hs : s.size ≤ maxLen) (w : World) :
    Calls Try.prog 26 #[.string s] w fun e w' => e = .returned (.tuple #[.int .u64 (pcV s), .bool (pcB s)]) ∧ w' = w :=
  (pc_any s hs w).mono fun _ _ h => ⟨h.1.trans (ans_pc s), h.2⟩
theorem f10_any (s : ByteArray) (hs : s.size ≤ maxLen) (w : World) :
    Calls Try.prog 10 #[.string s] w fun e w' => e = .returned (.tuple #[.int .u64 (pcV s), .bool (pcB s)]) ∧ ∃ n, w' = w.drewN n :=
  (rl_any s hs w).mono fun _ _ h => ⟨h.1.trans (ans_rl s), h.2⟩
theorem f9_any (s : ByteArray) (hs : s.size ≤ maxLen) (w : World) :
    Calls Try.prog 9 #[.string s] w fun e w' => e = .returned (.tuple #[.int .u64 (pcV s), .bool (pcB s)]) ∧ w' = w := by
  go_enter Try.func9, Try.ntmps9
  go_wp2_with (go_at_call 26; refine (f26_any _ hs _).mono ?_; rintro e w' ⟨rfl, rfl⟩)
  go_ret2
  exact ⟨rfl, rfl⟩
end Go.Proofs.Qxb6604140a.Cents
