/-
  THE WALKS OF lblClone, ZZMake, lblEndsInZero, lblSameParts (as in the sister seat, at this dump's numbers).
-/
import Derived.Test.Qxb6604163aDoorRows
import Derived.Test.Qxb6604163aDoorPlain
import Derived.Test.Qxb6604163aDoorShelf
import Derived.WalkKit
import Derived.WalkSpells
import Derived.BigQuiet
import Derived.Deep.QuietTactic
import Derived.Deep.OwnRows
import Derived.Deep.Draws
import Derived.Deep.AppendLies
import Derived.Lib.SliceRun
import Derived.Lib.SlBytesConst
namespace Go.Proofs.Qxb6604163aDoor.Txt
open Go.RowKit
set_option linter.unusedVariables false
theorem info30 : (Tryd.prog.info? 30).map (fun i => (i.zero, i.size, i.bytes)) = some (some (.int .u64 0), 1, 8) := by kernel_rfl

/-- Block b holds, in its first n cells, the uint64s F; none is frozen. -/
def Row (w : World) (b n : Nat) (F : Nat → Int) : Prop := ∃ (N : Nat) (f : Nat → Value), n ≤ N ∧ w.rowIs b 30 N f ∧ ∀ i, i < n → f i = .int .u64 (F i)
theorem Row.lt {w : World} {b n : Nat} {F : Nat → Int} (h : Row w b n F) : b < w.heap.size := by obtain ⟨N, f, _, hr, _⟩ := h; exact hr.lt
theorem Row.cell {w : World} {b n i : Nat} {F : Nat → Int} (h : Row w b n F) (hi : i < n) : w.cell? ⟨b, i, none⟩ = some (.int .u64 (F i)) := by
  obtain ⟨N, f, hN, hr, hf⟩ := h
  rw [hr.cell (by omega), hf i hi]
theorem Row.frozen {w : World} {b n : Nat} {F : Nat → Int} (h : Row w b n F) (i : Nat) : w.frozen? ⟨b, i, none⟩ = false := by obtain ⟨N, f, _, hr, _⟩ := h; exact hr.frozen i
theorem Row.of_block {w w' : World} {b n : Nat} {F : Nat → Int} (h : Row w b n F) (e : w'.heap[b]? = w.heap[b]?) : Row w' b n F := by obtain ⟨N, f, hN, hr, hf⟩ := h; exact ⟨N, f, hN, hr.of_block e, hf⟩
theorem Row.put {w : World} {b n : Nat} {F : Nat → Int} (h : Row w b n F) (k : Nat) (v : Int) : Row (w.setCell ⟨b, k, none⟩ (.int .u64 v)) b n (fun x => if x = k then v else F x) := by
  obtain ⟨N, f, hN, hr, hf⟩ := h
  refine ⟨N, _, hN, hr.set k (.int .u64 v), fun i hi => ?_⟩
  by_cases e : i = k
  · simp [e]
  · simp [e, hf i hi]
theorem Row.congr {w : World} {b n : Nat} {F G : Nat → Int} (h : Row w b n F) (e : ∀ i, i < n → F i = G i) : Row w b n G := by
  obtain ⟨N, f, hN, hr, hf⟩ := h; exact ⟨N, f, hN, hr, fun i hi => by rw [hf i hi, e i hi]⟩

/-- A slice of n parts F: empty, or at the head of a block. -/
def LS (w : World) (a : Option Addr) (n : Nat) (F : Nat → Int) : Prop := n = 0 ∨ ∃ b, a = some ⟨b, 0, none⟩ ∧ Row w b n F
theorem LS.below {w w' : World} {a : Option Addr} {n : Nat} {F : Nat → Int} (h : LS w a n F) (hb : Below w.heap.size w w') : LS w' a n F := by
  rcases h with h | ⟨b, rfl, hr⟩
  · exact .inl h
  · exact .inr ⟨b, rfl, hr.of_block (hb.block b hr.lt)⟩
theorem LS.alloc {w : World} {a : Option Addr} {n : Nat} {F : Nat → Int} (h : LS w a n F) (o : Obj) : LS (w.alloc o) a n F := h.below ((Below.refl _ _).alloc (Nat.le_refl _) _)

theorem copied {D F : Nat → Int} {k : Nat} (h : ∀ j, j < k → D j = F j) : ∀ j, j < k + 1 → (if j = k then F k else D j) = F j := by
  intro j hj
  by_cases e : j = k
  · subst e; rw [if_pos rfl]
  · rw [if_neg e]; exact h j (by omega)
set_option maxHeartbeats 400000 in
theorem clone_any (x : Addr) (n cap : Nat) (F : Nat → Int) (hn : n ≤ 1048576) (w : World) (hc : ∀ i, i < n → w.cell? (x.add i) = some (.int .u64 (F i))) :
    Calls Tryd.prog 6 #[.slice (some x) n cap] w fun e w' => e = .returned (.slice (some ⟨w.heap.size, 0, none⟩) n n) ∧ Row w' w.heap.size n F ∧ Below w.heap.size w w' := by
  have hmk := run_make_row' (P := Tryd.prog) 22 30 (.int .u64 0) 8 Tryd.underlying22 info30 rfl .i64 .i64 n (by omega) (by omega)
  have heq : ∀ w, (binOp .eql 22 (.slice (some x) n cap) (.slice none 0 0)).run Tryd.prog w = .ok (.bool false) w := fun w => Lib.run_eql_slice_nil w 22 30 (some x) n cap 0 0 Tryd.underlying22
  have Hc : Hid (∀ i, i < n → w.cell? (x.add i) = some (.int .u64 (F i))) := hc
  clear hc
  go_enter Tryd.func6, Tryd.ntmps6
  go_wp2
  go_loopw [4] (fun i wr => ∃ (k : Nat) (D : Nat → Int), k ≤ n ∧ i = .int .i64 (k : Int) ∧ Hid (Row wr w.heap.size n D) ∧ Hid (∀ j, j < k → D j = F j) ∧ Hid (Below w.heap.size w wr)) (fun i _ => n - (intOf i).toNat)
  case atStart => exact ⟨0, fun _ => 0, by omega, rfl, ⟨n, _, Nat.le_refl _, World.rowIs_made w (.int .u64 0) n 30, fun _ _ => rfl⟩, fun j hj => by omega, (Below.refl _ _).alloc (Nat.le_refl _) _⟩
  case round =>
    obtain ⟨k, D, hk, rfl, HR, HD, HB⟩ := hrel
    by_cases hlt : k < n
    · have c1 : wr.cell? (x.add k) = some (.int .u64 (F k)) := by rw [HB.out.cell (block_lt_of_cell (Hc.out k hlt))]; exact Hc.out k hlt
      have c2 := HR.out.cell hlt
      have f2 := HR.out.frozen k
      have hi : (k : Int) < (n : Int) := by omega
      go_wp2
      go_roundw
      case rel => exact ⟨k + 1, _, by omega, by go_num, HR.out.put k (F k), copied HD.out, HB.out.setCell (Nat.le_refl _) _⟩
      case measure => simp [intOf]; omega
    · obtain rfl : k = n := by omega
      go_wp2
      go_ret
      exact ⟨rfl, HR.out.congr fun i hi => HD.out i hi, HB.out⟩
theorem clone_nil (w : World) : Calls Tryd.prog 6 #[.slice none 0 0] w fun e w' => e = .returned (.slice none 0 0) ∧ w' = w := by
  have heq : ∀ w, (binOp .eql 22 (.slice none 0 0) (.slice none 0 0)).run Tryd.prog w = .ok (.bool true) w := fun w => Lib.run_eql_slice_nil w 22 30 none 0 0 0 0 Tryd.underlying22
  go_enter Tryd.func6, Tryd.ntmps6
  go_wp2
  go_ret
  exact ⟨rfl, rfl⟩

/-- A slice that came in: nil, or its n elements are F. -/
def Came (w : World) (a : Option Addr) (n cap : Nat) (F : Nat → Int) : Prop := (a = none ∧ n = 0 ∧ cap = 0) ∨ ∃ x, a = some x ∧ ∀ i, i < n → w.cell? (x.add i) = some (.int .u64 (F i))
theorem Came.below {w w' : World} {a : Option Addr} {n cap : Nat} {F : Nat → Int} (h : Came w a n cap F) (hb : Below w.heap.size w w') : Came w' a n cap F := by
  rcases h with h | ⟨x, rfl, hx⟩
  · exact .inl h
  · exact .inr ⟨x, rfl, fun i hi => by rw [hb.cell (block_lt_of_cell (hx i hi))]; exact hx i hi⟩
theorem clone_came (a : Option Addr) (n cap : Nat) (F : Nat → Int) (hn : n ≤ 1048576) (w : World) (h : Came w a n cap F) :
    Calls Tryd.prog 6 #[.slice a n cap] w fun e w' => (∃ a' c', e = .returned (.slice a' n c') ∧ LS w' a' n F) ∧ Below w.heap.size w w' := by
  rcases h with ⟨rfl, rfl, rfl⟩ | ⟨x, rfl, hx⟩
  · exact (clone_nil w).mono fun e w' ⟨he, hw⟩ => ⟨⟨none, 0, he, .inl rfl⟩, hw ▸ Below.refl _ _⟩
  · exact (clone_any x n cap F hn w hx).mono fun e w' ⟨he, hr, hb⟩ => ⟨⟨_, n, he, .inr ⟨_, rfl, hr⟩⟩, hb⟩

theorem make_any (a : Option Addr) (n c : Nat) (w : World) :
    Calls Tryd.prog 8 #[.slice a n c] w fun e w' => e = .returned (.agg #[.slice a n c]) ∧ Below w.heap.size w w' := by
  go_enter Tryd.func8, Tryd.ntmps8
  go_wp2
  exact bodyPost_ret (v := .agg #[.slice a n c]) (by simp [results, Tryd.results8, go_sem]) rfl ⟨rfl, (Below.refl _ _).alloc (Nat.le_refl _) _⟩
/-- Does the label end in a zero? -/
def ezB (F : Nat → Int) (n : Nat) : Bool := if n = 0 then false else (F (n - 1) == 0)
theorem ez_last {F : Nat → Int} {n : Nat} (h : ezB F n = false) (hn : n ≠ 0) : F (n - 1) ≠ 0 := by
  unfold ezB at h
  rw [if_neg hn] at h
  simpa using h
theorem ez_zero (a : Option Addr) (c : Nat) (w : World) : Calls Tryd.prog 5 #[.slice a 0 c] w fun e w' => e = .returned (.bool false) ∧ w' = w := by
  go_enter Tryd.func5, Tryd.ntmps5
  go_wp2
  go_ret
  exact ⟨rfl, rfl⟩
theorem ez_pos (x : Addr) (n c : Nat) (v : Int) (hn : 0 < n) (hn2 : n ≤ 1048576) (w : World) (hc : w.cell? (x.add (n - 1)) = some (.int .u64 v)) : Calls Tryd.prog 5 #[.slice (some x) n c] w fun e w' => e = .returned (.bool (v == 0)) ∧ w' = w := by
  have h1 : (0 : Int) < (n : Int) := by omega
  go_enter Tryd.func5, Tryd.ntmps5
  go_wp2
  go_ret
  exact ⟨rfl, rfl⟩
theorem ez_any (a : Option Addr) (n cap : Nat) (F : Nat → Int) (hn : n ≤ 1048576) (w : World) (h : Came w a n cap F) :
    Calls Tryd.prog 5 #[.slice a n cap] w fun e w' => e = .returned (.bool (ezB F n)) ∧ w' = w := by
  unfold ezB
  by_cases c : n = 0
  · subst c; rw [if_pos rfl]; exact ez_zero a cap w
  · rw [if_neg c]
    rcases h with ⟨_, h0, _⟩ | ⟨x, rfl, hx⟩
    · omega
    · exact ez_pos x n cap _ (by omega) hn w (hx (n - 1) (by omega))

set_option maxHeartbeats 400000 in
theorem same_row (p q n c1 c2 : Nat) (F : Nat → Int) (hn : n ≤ 1048576) (w : World) (hp : Row w p n F) (hq : Row w q n F) :
    Calls Tryd.prog 9 #[.slice (some ⟨p, 0, none⟩) n c1, .slice (some ⟨q, 0, none⟩) n c2] w fun e w' => e = .returned (.bool true) ∧ ∃ m, w' = w.drewN m := by
  have Hp : Hid (Row w p n F) := hp
  have Hq : Hid (Row w q n F) := hq
  clear hp hq
  go_enter Tryd.func9, Tryd.ntmps9
  go_wp2
  go_loopw [5] (fun i wr => ∃ (k m : Nat), k ≤ n ∧ i = .int .i64 (k : Int) ∧ wr = w.drewN m) (fun i _ => n - (intOf i).toNat)
  case atStart => exact ⟨0, 0, by omega, rfl, rfl⟩
  case round =>
    obtain ⟨k, m, hk, rfl, rfl⟩ := hrel
    by_cases hlt : k < n
    · have g1 := Hp.out.cell hlt
      have g2 := Hq.out.cell hlt
      have hi : (k : Int) < (n : Int) := by omega
      go_wp2
      go_quiet (fail)
      go_wp2
      go_roundw
      case rel => exact ⟨k + 1, _, by omega, by go_num, rfl⟩
      case measure => simp [intOf]; omega
    · go_wp2
      go_ret
      exact ⟨rfl, _, rfl⟩
theorem same_zero (a b : Option Addr) (c1 c2 : Nat) (w : World) :
    Calls Tryd.prog 9 #[.slice a 0 c1, .slice b 0 c2] w fun e w' => e = .returned (.bool true) ∧ w' = w := by
  go_enter Tryd.func9, Tryd.ntmps9
  go_wp2
  refine wp_loop_rounds 1 ?_
  rw [rounds_succ]
  go_wp2
  go_ret
  exact ⟨rfl, rfl⟩
theorem same_any (a : Option Addr) (q n c1 c2 : Nat) (F : Nat → Int) (hn : n ≤ 1048576) (w : World) (hp : LS w a n F) (hq : Row w q n F) :
    Calls Tryd.prog 9 #[.slice a n c1, .slice (some ⟨q, 0, none⟩) n c2] w fun e w' => e = .returned (.bool true) ∧ Below w.heap.size w w' := by
  rcases hp with rfl | ⟨p, rfl, hp⟩
  · exact (same_zero a _ c1 c2 w).mono fun e w' ⟨he, hw⟩ => ⟨he, hw ▸ Below.refl _ _⟩
  · exact (same_row p q n c1 c2 F hn w hp hq).mono fun e w' ⟨he, m, hw⟩ => ⟨he, hw ▸ ⟨rfl, rfl, rfl, Nat.le_refl _, fun _ _ => rfl⟩⟩

end Go.Proofs.Qxb6604163aDoor.Txt
