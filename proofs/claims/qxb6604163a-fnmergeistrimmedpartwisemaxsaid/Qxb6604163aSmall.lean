/-
  THE WALKS OF lblClone, Part, Covers, ZZMake.
-/
import Derived.Test.Qxb6604163aRows
import Derived.Test.Qxb6604163aPlain
import Derived.WalkKit
import Derived.WalkSpells
import Derived.BigQuiet
import Derived.Deep.QuietTactic
import Derived.Deep.OwnRows
import Derived.Deep.Draws
import Derived.Lib.SliceRun
namespace Go.Proofs.Qxb6604163a.Lbl
open Go.RowKit
set_option linter.unusedVariables false
theorem info27 : (Try.prog.info? 27).map (fun i => (i.zero, i.size, i.bytes)) = some (some (.int .u64 0), 1, 8) := by kernel_rfl

/-- Block b holds, in its first n cells, the uint64s F; none is frozen. -/
def Row (w : World) (b n : Nat) (F : Nat → Int) : Prop := ∃ (N : Nat) (f : Nat → Value), n ≤ N ∧ w.rowIs b 27 N f ∧ ∀ i, i < n → f i = .int .u64 (F i)
theorem Row.lt {w : World} {b n : Nat} {F : Nat → Int} (h : Row w b n F) : b < w.heap.size := by obtain ⟨N, f, _, hr, _⟩ := h; exact hr.lt
theorem Row.cell {w : World} {b n i : Nat} {F : Nat → Int} (h : Row w b n F) (hi : i < n) : w.cell? ⟨b, i, none⟩ = some (.int .u64 (F i)) := by
  obtain ⟨N, f, hN, hr, hf⟩ := h
  rw [hr.cell (by omega), hf i hi]
theorem Row.frozen {w : World} {b n : Nat} {F : Nat → Int} (h : Row w b n F) (i : Nat) : w.frozen? ⟨b, i, none⟩ = false := by obtain ⟨N, f, _, hr, _⟩ := h; exact hr.frozen i
theorem Row.of_block {w w' : World} {b n : Nat} {F : Nat → Int} (h : Row w b n F) (e : w'.heap[b]? = w.heap[b]?) : Row w' b n F := by obtain ⟨N, f, hN, hr, hf⟩ := h; exact ⟨N, f, hN, hr.of_block e, hf⟩
theorem Row.put {w : World} {b n : Nat} {F : Nat → Int} (h : Row w b n F) (k : Nat) (v : Int) : Row (w.setCell ⟨b, k, none⟩ (.int .u64 v)) b n (fun x => if x = k then v else F x) := by
  obtain ⟨N, f, hN, hr, hf⟩ := h
  refine ⟨N, _, hN, hr.set k (.int .u64 v), fun i hi => ?_⟩
  by_cases e : i = k
  · simp [e]
  · simp [e, hf i hi]
theorem Row.congr {w : World} {b n : Nat} {F G : Nat → Int} (h : Row w b n F) (e : ∀ i, i < n → F i = G i) : Row w b n G := by
  obtain ⟨N, f, hN, hr, hf⟩ := h; exact ⟨N, f, hN, hr, fun i hi => by rw [hf i hi, e i hi]⟩

/-- A slice of n parts F: empty, or at the head of a block. -/
def LS (w : World) (a : Option Addr) (n : Nat) (F : Nat → Int) : Prop := n = 0 ∨ ∃ b, a = some ⟨b, 0, none⟩ ∧ Row w b n F
theorem LS.below {w w' : World} {a : Option Addr} {n : Nat} {F : Nat → Int} (h : LS w a n F) (hb : Below w.heap.size w w') : LS w' a n F := by
  rcases h with h | ⟨b, rfl, hr⟩
  · exact .inl h
  · exact .inr ⟨b, rfl, hr.of_block (hb.block b hr.lt)⟩
theorem LS.alloc {w : World} {a : Option Addr} {n : Nat} {F : Nat → Int} (h : LS w a n F) (o : Obj) : LS (w.alloc o) a n F := h.below ((Below.refl _ _).alloc (Nat.le_refl _) _)

theorem copied {D F : Nat → Int} {k : Nat} (h : ∀ j, j < k → D j = F j) : ∀ j, j < k + 1 → (if j = k then F k else D j) = F j := by
  intro j hj
  by_cases e : j = k
  · subst e; rw [if_pos rfl]
  · rw [if_neg e]; exact h j (by omega)
set_option maxHeartbeats 400000 in
theorem clone_any (x : Addr) (n cap : Nat) (F : Nat → Int) (hn : n ≤ 1048576) (w : World) (hc : ∀ i, i < n → w.cell? (x.add i) = some (.int .u64 (F i))) :
    Calls Try.prog 8 #[.slice (some x) n cap] w fun e w' => e = .returned (.slice (some ⟨w.heap.size, 0, none⟩) n n) ∧ Row w' w.heap.size n F ∧ Below w.heap.size w w' := by
  have hmk := run_make_row' (P := Try.prog) 22 27 (.int .u64 0) 8 Try.underlying22 info27 rfl .i64 .i64 n (by omega) (by omega)
  have heq : ∀ w, (binOp .eql 22 (.slice (some x) n cap) (.slice none 0 0)).run Try.prog w = .ok (.bool false) w := fun w => Lib.run_eql_slice_nil w 22 27 (some x) n cap 0 0 Try.underlying22
  have Hc : Hid (∀ i, i < n → w.cell? (x.add i) = some (.int .u64 (F i))) := hc
  clear hc
  go_enter Try.func8, Try.ntmps8
  go_wp2
  go_loopw [4] (fun i wr => ∃ (k : Nat) (D : Nat → Int), k ≤ n ∧ i = .int .i64 (k : Int) ∧ Hid (Row wr w.heap.size n D) ∧ Hid (∀ j, j < k → D j = F j) ∧ Hid (Below w.heap.size w wr)) (fun i _ => n - (intOf i).toNat)
  case atStart => exact ⟨0, fun _ => 0, by omega, rfl, ⟨n, _, Nat.le_refl _, World.rowIs_made w (.int .u64 0) n 27, fun _ _ => rfl⟩, fun j hj => by omega, (Below.refl _ _).alloc (Nat.le_refl _) _⟩
  case round =>
    obtain ⟨k, D, hk, rfl, HR, HD, HB⟩ := hrel
    by_cases hlt : k < n
    · have c1 : wr.cell? (x.add k) = some (.int .u64 (F k)) := by rw [HB.out.cell (block_lt_of_cell (Hc.out k hlt))]; exact Hc.out k hlt
      have c2 := HR.out.cell hlt
      have f2 := HR.out.frozen k
      have hi : (k : Int) < (n : Int) := by omega
      go_wp2
      go_roundw
      case rel => exact ⟨k + 1, _, by omega, by go_num, HR.out.put k (F k), copied HD.out, HB.out.setCell (Nat.le_refl _) _⟩
      case measure => simp [intOf]; omega
    · obtain rfl : k = n := by omega
      go_wp2
      go_ret
      exact ⟨rfl, HR.out.congr fun i hi => HD.out i hi, HB.out⟩
theorem clone_nil (w : World) : Calls Try.prog 8 #[.slice none 0 0] w fun e w' => e = .returned (.slice none 0 0) ∧ w' = w := by
  have heq : ∀ w, (binOp .eql 22 (.slice none 0 0) (.slice none 0 0)).run Try.prog w = .ok (.bool true) w := fun w => Lib.run_eql_slice_nil w 22 27 none 0 0 0 0 Try.underlying22
  go_enter Try.func8, Try.ntmps8
  go_wp2
  go_ret
  exact ⟨rfl, rfl⟩

/-! ### Part -/
theorem part_in (b n c i : Nat) (F : Nat → Int) (hn : n ≤ 1048576) (hi : i < n) (w : World) (hr : Row w b n F) :
    Calls Try.prog 19 #[.agg #[.slice (some ⟨b, 0, none⟩) n c], .int .i64 (i : Int)] w fun e w' => e = .returned (.int .u64 (F i)) ∧ Below w.heap.size w w' := by
  have hl := hr.lt
  have c1 : ∀ o, (w.alloc o).cell? ⟨b, i, none⟩ = some (.int .u64 (F i)) := fun o => by rw [World.cell?_alloc_past _ _ _ hl]; exact hr.cell hi
  have hii : (i : Int) < (n : Int) := by omega
  clear hr
  go_enter Try.func19, Try.ntmps19
  go_wp2
  go_ret
  exact ⟨rfl, (Below.refl _ _).alloc (Nat.le_refl _) _⟩
theorem part_out (a : Option Addr) (n c i : Nat) (hn : n ≤ 1048576) (hi : n ≤ i) (w : World) :
    Calls Try.prog 19 #[.agg #[.slice a n c], .int .i64 (i : Int)] w fun e w' => e = .returned (.int .u64 0) ∧ Below w.heap.size w w' := by
  have hii : ¬ (i : Int) < (n : Int) := by omega
  go_enter Try.func19, Try.ntmps19
  go_wp2
  go_ret
  exact ⟨rfl, (Below.refl _ _).alloc (Nat.le_refl _) _⟩
theorem part_any (a : Option Addr) (n c i : Nat) (F : Nat → Int) (hn : n ≤ 1048576) (w : World) (h : LS w a n F) :
    Calls Try.prog 19 #[.agg #[.slice a n c], .int .i64 (i : Int)] w fun e w' => e = .returned (.int .u64 (pt F n i)) ∧ Below w.heap.size w w' := by
  by_cases hi : i < n
  · rw [pt_in hi]
    rcases h with h | ⟨b, rfl, hr⟩
    · omega
    · exact part_in b n c i F hn hi w hr
  · rw [pt_out (by omega)]
    exact part_out a n c i hn (by omega) w

/-! ### Covers -/
set_option maxHeartbeats 400000 in
theorem covers_row (a : Option Addr) (n c b m d : Nat) (F G : Nat → Int) (hn : n ≤ 1048576) (hm : m ≤ 1048576) (w : World) (hl : LS w a n F) (hr : Row w b m G) :
    Calls Try.prog 16 #[.agg #[.slice a n c], .agg #[.slice (some ⟨b, 0, none⟩) m d]] w fun e w' => e = .returned (.bool (covB F n G m)) ∧ Below w.heap.size w w' := by
  have HL : Hid (LS w a n F) := hl
  have HR : Hid (Row w b m G) := hr
  clear hl hr
  go_enter Try.func16, Try.ntmps16
  go_wp2
  obtain ⟨W2, hW2⟩ : ∃ W2, W2 = (w.alloc (.cells #[.slice a n c] 31)).alloc (.cells #[.slice (some ⟨b, 0, none⟩) m d] 31) := ⟨_, rfl⟩
  have HW : Hid (W2 = (w.alloc (.cells #[.slice a n c] 31)).alloc (.cells #[.slice (some ⟨b, 0, none⟩) m d] 31)) := hW2
  have HB0 : Hid (Below w.heap.size w W2) := by rw [hW2]; exact ((Below.refl _ _).alloc (Nat.le_refl _) _).alloc (by simp) _
  have HZ : Hid (W2.heap.size = w.heap.size + 2) := by rw [hW2]; show _ = _; simp
  have HC0 : Hid (W2.cell? ⟨w.heap.size, 0, none⟩ = some (.slice a n c)) := by rw [hW2]; show _ = _; rw [World.cell?_alloc_past _ _ _ (by simp), World.cell?_alloc_at _ _ _ _ rfl]; rfl
  rw [← hW2]
  clear hW2
  go_loopw [10] (fun i wr => ∃ (k : Nat), k ≤ m ∧ i = .int .i64 (k : Int) ∧ Hid (Below W2.heap.size W2 wr) ∧ Hid (covB F n G k = true)) (fun i _ => m - (intOf i).toNat)
  case atStart => exact ⟨0, by omega, rfl, Below.refl _ _, rfl⟩
  case round =>
    obtain ⟨k, hk, rfl, HB, HC⟩ := hrel
    have HBw : Hid (Below w.heap.size w wr) := HB0.out.trans (HB.out.mono HB0.out.size)
    by_cases hlt : k < m
    · have hbl := HR.out.lt
      have c1 : wr.cell? ⟨b, k, none⟩ = some (.int .u64 (G k)) := by rw [HBw.out.cell (p := ⟨b, k, none⟩) hbl]; exact HR.out.cell hlt
      have c2 : wr.cell? ⟨w.heap.size, 0, none⟩ = some (.slice a n c) := by rw [HB.out.cell (p := ⟨w.heap.size, 0, none⟩) (by rw [HZ.out]; show w.heap.size < _; omega)]; exact HC0.out
      have hii : (k : Int) < (m : Int) := by omega
      have HLr : Hid (LS wr a n F) := HL.out.below HBw.out
      by_cases hc : pt F n k < G k
      · have HF : Hid (covB F n G m = false) := cov_fail hlt hc
        go_wp2_with (go_at_call 19; refine (part_any a n c k F hn _ HLr.out).mono ?_; rintro e w3 ⟨rfl, hb3⟩)
        go_ret
        exact ⟨by rw [HF.out]; rfl, HBw.out.trans (hb3.mono HBw.out.size)⟩
      · have HF : Hid (covB F n G (k + 1) = true) := cov_step HC.out hc
        go_wp2_with (go_at_call 19; refine (part_any a n c k F hn _ HLr.out).mono ?_; rintro e w3 ⟨rfl, hb3⟩)
        go_roundw
        case rel => exact ⟨k + 1, by omega, by go_num, HB.out.trans (hb3.mono HB.out.size), HF⟩
        case measure => simp [intOf]; omega
    · obtain rfl : k = m := by omega
      go_wp2
      go_ret
      exact ⟨by rw [HC.out]; rfl, HBw.out⟩
theorem covers_zero (a q : Option Addr) (n c d : Nat) (w : World) :
    Calls Try.prog 16 #[.agg #[.slice a n c], .agg #[.slice q 0 d]] w fun e w' => e = .returned (.bool true) ∧ Below w.heap.size w w' := by
  go_enter Try.func16, Try.ntmps16
  go_wp2
  refine wp_loop_rounds 1 ?_
  rw [rounds_succ]
  go_wp2
  go_ret
  exact ⟨rfl, ((Below.refl _ _).alloc (Nat.le_refl _) _).alloc (by simp) _⟩
theorem covers_any (a q : Option Addr) (n c m d : Nat) (F G : Nat → Int) (hn : n ≤ 1048576) (hm : m ≤ 1048576) (w : World) (hl : LS w a n F) (hr : LS w q m G) :
    Calls Try.prog 16 #[.agg #[.slice a n c], .agg #[.slice q m d]] w fun e w' => e = .returned (.bool (covB F n G m)) ∧ Below w.heap.size w w' := by
  rcases hr with rfl | ⟨b, rfl, hr⟩
  · exact covers_zero a q n c d w
  · exact covers_row a n c b m d F G hn hm w hl hr

/-! ### ZZMake, ZZParts -/
theorem make_any (a : Option Addr) (n c : Nat) (w : World) :
    Calls Try.prog 12 #[.slice a n c] w fun e w' => e = .returned (.agg #[.slice a n c]) ∧ Below w.heap.size w w' := by
  go_enter Try.func12, Try.ntmps12
  go_wp2
  exact bodyPost_ret (v := .agg #[.slice a n c]) (by simp [results, Try.results12, go_sem]) rfl ⟨rfl, (Below.refl _ _).alloc (Nat.le_refl _) _⟩
theorem parts_any (a : Option Addr) (n c : Nat) (w : World) :
    Calls Try.prog 11 #[.agg #[.slice a n c]] w fun e w' => e = .returned (.slice a n c) ∧ Below w.heap.size w w' := by
  go_enter Try.func11, Try.ntmps11
  go_wp2
  go_ret
  exact ⟨rfl, (Below.refl _ _).alloc (Nat.le_refl _) _⟩
end Go.Proofs.Qxb6604163a.Lbl
