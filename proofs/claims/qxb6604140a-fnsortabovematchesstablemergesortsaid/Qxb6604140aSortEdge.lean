/-
  THE EMPTY CASES, ZZsortAbove, and the law's walk.
-/
import Derived.Test.Qxb6604140aSortAbove
namespace Go.Proofs.Qxb6604140a.Srt
open Go.RowKit

/-- An empty slice, nil or not, is cloned to an empty slice. -/
theorem clone_zero (a : Option Addr) (c : Nat) (hc : a = none → c = 0) (w : World) :
    Calls Try.prog 22 #[.slice a 0 c] w fun e w' => (∃ a' c', e = .returned (.slice a' 0 c') ∧ (a' = none → c' = 0)) ∧ Below w.heap.size w w' := by
  cases a with
  | none =>
    obtain rfl := hc rfl
    exact (clone_nil w).mono fun e w' ⟨he, hw⟩ => ⟨⟨none, 0, he, fun _ => rfl⟩, hw ▸ Below.refl _ _⟩
  | some x => exact (clone_any x 0 c (fun _ => 0) (by omega) w (fun i hi => by omega)).mono fun e w' ⟨he, _, hb⟩ => ⟨⟨_, _, he, fun h => by cases h⟩, hb⟩

set_option maxHeartbeats 400000 in
theorem stable_zero (a : Option Addr) (c : Nat) (hc : a = none → c = 0) (bit : Int) (w : World) :
    Calls Try.prog 23 #[.slice a 0 c, .int .i64 bit] w fun e w' => (∃ a' c', e = .returned (.slice a' 0 c')) ∧ Below w.heap.size w w' := by
  have hmk : ∀ w : World, (Instr.makeSlice 37 (.int .i64 0) (.int .i64 0)).run Try.prog w = .ok (.slice (some ⟨w.heap.size, 0, none⟩) 0 0) (w.alloc (.cells (madeCells #[.int .u64 0] 0) 23)) := fun w => run_make_row' (P := Try.prog) 37 23 (.int .u64 0) 8 Try.underlying37 info23 rfl .i64 .i64 0 (by omega) (by omega) w
  have HC : Hid (a = none → c = 0) := hc
  clear hc
  go_enter Try.func23, Try.ntmps23
  go_wp2_with fail
  refine (clone_zero a c HC.out _).mono ?_
  rintro e w1 ⟨⟨a', c', rfl, _⟩, hb1⟩
  go_wp2_with fail
  refine wp_loop_rounds 1 ?_
  rw [rounds_succ]
  go_wp2
  go_ret
  exact ⟨⟨a', c', rfl⟩, hb1.alloc hb1.size _⟩

theorem has_zero : has (fun _ => 0) 0 2048 = true := has_yes (m := 0) rfl (by omega)

set_option maxRecDepth 100000 in
set_option maxHeartbeats 1000000 in
theorem sort_zero (a : Option Addr) (c bit : Nat) (hbit : bit ≤ 9223372036854775807) (w : World) :
    Calls Try.prog 30 #[.slice a 0 c, .int .i64 (bit : Int)] w fun e w' => e = .returned (.tuple #[]) ∧ Below w.heap.size w w' := by
  have hmk : ∀ w : World, (Instr.makeSlice 37 (.int .i64 0) (.int .i64 0)).run Try.prog w = .ok (.slice (some ⟨w.heap.size, 0, none⟩) 0 0) (w.alloc (.cells (madeCells #[.int .u64 0] 0) 23)) := fun w => run_make_row' (P := Try.prog) 37 23 (.int .u64 0) 8 Try.underlying37 info23 rfl .i64 .i64 0 (by omega) (by omega) w
  have hcp := fun W => run_copy_none (P := Try.prog) W 37 37 3 23 a a 0 c 0 c Try.underlying37 size23 rfl
  go_enter Try.func30, Try.ntmps30
  go_wp2
  go_region
  go_wp2
  go_loopw [1, 4, 5] (fun bt fr to wr => ∃ (Bt : Nat), Bt ≤ 9223372036854775807 ∧ bt = .int .i64 (Bt : Int) ∧ fr = .slice a 0 c ∧ to = .slice (some ⟨w.heap.size, 0, none⟩) 0 0 ∧ Below w.heap.size w wr) (fun bt _ _ _ => (64 - intOf bt).toNat)
  case atStart => exact ⟨bit, hbit, rfl, rfl, rfl, ((Below.refl _ _).alloc (Nat.le_refl _) _).drew⟩
  case round =>
    obtain ⟨Bt, hBt, rfl, rfl, rfl, hb⟩ := hrel
    obtain ⟨wo, rfl⟩ : ∃ wo : World, wo = wr := ⟨_, rfl⟩
    by_cases h64 : Bt < 64
    · have hz := zero47
      have hsl := fun W s => run_whole W s
      have HST : Hid ((wo.alloc (.cells Z47 47)).rowIs wo.heap.size 47 2048 (fun _ => .int .i64 0)) := starts_new wo
      go_wp2_with fail
      refine wp_loop_rounds 1 ?_
      rw [rounds_succ]
      go_wp2_with fail
      refine (contains_any wo.heap.size 2048 (fun _ => 0) 0 (by omega) _ (fun i hi => HST.out.cell hi)).mono ?_
      rintro e w2 ⟨rfl, rfl⟩
      rw [has_zero]
      go_wp2
      go_roundw
      case rel => exact ⟨Bt + 11, by omega, by go_num, rfl, rfl, hb.alloc hb.size _⟩
      case measure => simp [intOf]; omega
    · go_wp2
      go_end0
      exact ⟨rfl, hb⟩

theorem zz_zero (a : Option Addr) (c bit : Nat) (hbit : bit ≤ 9223372036854775807) (w : World) :
    Calls Try.prog 24 #[.slice a 0 c, .int .i64 (bit : Int)] w fun e w' => e = .returned (.tuple #[]) ∧ Below w.heap.size w w' := by
  go_enter Try.func24, Try.ntmps24
  go_wp2_with fail
  refine (sort_zero a c bit hbit _).mono ?_
  rintro e w1 ⟨rfl, hb⟩
  go_wp2
  go_end0
  exact ⟨rfl, hb⟩
theorem zz_any (b n bit : Nat) (L0 : Nat → Int) (hn0 : 1 ≤ n) (hn : n ≤ 131072) (hbit : bit ≤ 9223372036854775807) (w : World) (hr : Row w b n L0) (hL0 : ∀ i, i < n → 0 ≤ L0 i ∧ L0 i < 18446744073709551616) :
    Calls Try.prog 24 #[.slice (some ⟨b, 0, none⟩) n n, .int .i64 (bit : Int)] w fun e w' => e = .returned (.tuple #[]) ∧ ∃ R, Row w' b n R ∧ SS (ky bit) (seg R 0 n) (seg L0 0 n) ∧ w.grownBy w' (some b) := by
  have H1 : Hid (Row w b n L0) := hr
  have H2 : Hid (∀ i, i < n → 0 ≤ L0 i ∧ L0 i < 18446744073709551616) := hL0
  clear hr hL0
  go_enter Try.func24, Try.ntmps24
  go_wp2_with fail
  refine (sort_any b n bit L0 hn0 hn hbit _ H1.out H2.out).mono ?_
  rintro e w1 ⟨rfl, R, h1, h2, h3⟩
  go_wp2
  go_end0
  exact ⟨rfl, R, h1, h2, h3⟩
end Go.Proofs.Qxb6604140a.Srt
