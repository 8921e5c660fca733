/-
  THE WALKS OF cloneWords, sameWords, slices.Contains at []int.
-/
import Derived.Test.Qxb6604140aRows
import Derived.Test.Qxb6604140aSortPlain
import Derived.WalkKit
import Derived.WalkSpells
import Derived.BigQuiet
import Derived.Deep.QuietTactic
import Derived.Deep.OwnRows
import Derived.Deep.Draws
import Derived.Laws.CopyOwn
import Derived.Lib.SliceRun
namespace Go.Proofs.Qxb6604140a.Srt
open Go.RowKit
theorem info23 : (Try.prog.info? 23).map (fun i => (i.zero, i.size, i.bytes)) = some (some (.int .u64 0), 1, 8) := by kernel_rfl
theorem size23 : (Try.prog.info? 23).map (·.size) = some 1 := by kernel_rfl

/-- Block b is a row of n uint64s, F. -/
def Row (w : World) (b n : Nat) (F : Nat → Int) : Prop := w.rowIs b 23 n (fun i => .int .u64 (F i))

/-- The cells of a segment. -/
def cls (F : Nat → Int) (n : Nat) : List Value := (seg F 0 n).map (Value.int .u64)
theorem cls_length (F : Nat → Int) (n : Nat) : (cls F n).length = n := by simp [cls, seg_length]
theorem seg_get (F : Nat → Int) : ∀ n a j, j < n → (seg F a n)[j]? = some (F (a + j)) := by
  intro n; induction n with
  | zero => intro a j h; omega
  | succ n ih =>
    intro a j h
    cases j with
    | zero => rfl
    | succ j => simp only [seg, List.getElem?_cons_succ]; rw [ih (a + 1) j (by omega), show a + 1 + j = a + (j + 1) from by omega]
theorem cls_get {F : Nat → Int} {n j : Nat} (h : j < n) : (cls F n)[j]? = some (.int .u64 (F j)) := by
  simp [cls, seg_get F n 0 j h]
theorem cls_at {F : Nat → Int} {n j : Nat} {v : Value} (h : (cls F n)[j]? = some v) : j < n ∧ v = .int .u64 (F j) := by
  have hj : j < n := by
    have := (List.getElem?_eq_some_iff.1 h).1
    rwa [cls_length] at this
  rw [cls_get hj] at h
  exact ⟨hj, by simpa using h.symm⟩
theorem cls_one (F : Nat → Int) (n : Nat) : ∀ v ∈ cls F n, v.oneCell' = true := by
  intro v hv
  simp only [cls, List.mem_map] at hv
  obtain ⟨x, _, rfl⟩ := hv
  rfl
theorem row_of_splice {w : World} {b n : Nat} {F : Nat → Int} {cur : List Value} (hc : cur.length = n) (h : w.heap[b]? = some (.cells (splice cur 0 (cls F n)).toArray 23 (0, 0))) : Row w b n F := by
  refine ⟨_, h, ?_, fun i hi => ?_⟩
  · simp [splice, cls_length, hc]
  · have h0 : splice cur 0 (cls F n) = cls F n ++ cur.drop n := by simp [splice, cls_length]
    rw [List.getElem?_toArray, h0, List.getElem?_append_left (by rw [cls_length]; exact hi), cls_get hi]

/-- copy(row, src) over a whole row of the same length. -/
theorem copy_into {w : World} {g n cap scap : Nat} {x : Addr} {F : Nat → Int} {f : Nat → Value} {B : Nat} (hr : w.rowIs g 23 n f) (hB : B ≤ g) (hc : ∀ i, i < n → w.cell? (x.add i) = some (.int .u64 (F i))) :
    ∃ w', (Builtin.copy_ #[37, 37] 3 #[.slice (some ⟨g, 0, none⟩) n cap, .slice (some x) n scap]).run Try.prog w = .ok (goInt n) w' ∧ Row w' g n F ∧ Below B w w' ∧ w.grownBy w' (some g) := by
  obtain ⟨cur, hg, hsz, _⟩ := hr
  have hrun := run_copy_row (P := Try.prog) w 37 37 3 23 g 0 n cap x n scap cur 23 (cls F n) Try.underlying37 size23 hg (by simp [cls_length]) (fun j v hv => by obtain ⟨hj, rfl⟩ := cls_at hv; exact hc j hj) (by rw [cls_length]; omega) (cls_one F n)
  rw [cls_length] at hrun
  refine ⟨_, hrun, ?_, below_setRow (Below.refl _ _) hB _, ?_⟩
  · refine row_of_splice (cur := cur.toList) (by simpa using hsz) ?_
    have := setRow_heap w g cur (cur.toList.take 0 ++ cls F n ++ cur.toList.drop (0 + n)).toArray 23 (0, 0) hg
    rw [this]
    simp [splice, cls_length]
  · exact ⟨rfl, rfl, rfl, by simp [World.setRow], fun k _ hk => setRow_other w g k _ (fun e => hk (by rw [e]))⟩

set_option maxHeartbeats 400000 in
theorem clone_any (x : Addr) (n cap : Nat) (F : Nat → Int) (hn : n ≤ 1048576) (w : World) (hc : ∀ i, i < n → w.cell? (x.add i) = some (.int .u64 (F i))) :
    Calls Try.prog 22 #[.slice (some x) n cap] w fun e w' => e = .returned (.slice (some ⟨w.heap.size, 0, none⟩) n n) ∧ Row w' w.heap.size n F ∧ Below w.heap.size w w' := by
  have hmk := run_make_row' (P := Try.prog) 37 23 (.int .u64 0) 8 Try.underlying37 info23 rfl .i64 .i64 n (by omega) (by omega)
  have heq : ∀ w, (binOp .eql 37 (.slice (some x) n cap) (.slice none 0 0)).run Try.prog w = .ok (.bool false) w := fun w => Lib.run_eql_slice_nil w 37 23 (some x) n cap 0 0 Try.underlying37
  have hbm : Below w.heap.size w (w.alloc (.cells (madeCells #[Value.int .u64 0] n) 23)) := (Below.refl _ _).alloc (Nat.le_refl _) _
  obtain ⟨w2, hcp, hrow, hb, _⟩ := copy_into (cap := n) (scap := cap) (World.rowIs_made w (.int .u64 0) n 23) (Nat.le_refl w.heap.size) (x := x) (F := F) fun i hi => by
    have h1 := hc i hi
    rw [hbm.cell (block_lt_of_cell h1)]
    exact h1
  have HR : Hid (Row w2 w.heap.size n F) := hrow
  clear hc hrow
  go_enter Try.func22, Try.ntmps22
  go_wp2
  go_ret
  exact ⟨rfl, HR.out, hbm.trans hb⟩

theorem clone_nil (w : World) : Calls Try.prog 22 #[.slice none 0 0] w fun e w' => e = .returned (.slice none 0 0) ∧ w' = w := by
  have heq : ∀ w, (binOp .eql 37 (.slice none 0 0) (.slice none 0 0)).run Try.prog w = .ok (.bool true) w := fun w => Lib.run_eql_slice_nil w 37 23 none 0 0 0 0 Try.underlying37
  go_enter Try.func22, Try.ntmps22
  go_wp2
  go_ret
  exact ⟨rfl, rfl⟩

set_option maxHeartbeats 400000 in
theorem same_any (p q n c1 c2 : Nat) (F : Nat → Int) (hn : n ≤ 1048576) (w : World) (hp : ∀ i, i < n → w.cell? ⟨p, i, none⟩ = some (.int .u64 (F i))) (hq : ∀ i, i < n → w.cell? ⟨q, i, none⟩ = some (.int .u64 (F i))) :
    Calls Try.prog 25 #[.slice (some ⟨p, 0, none⟩) n c1, .slice (some ⟨q, 0, none⟩) n c2] w fun e w' => e = .returned (.bool true) ∧ ∃ m, w' = w.drewN m := by
  have Hp : Hid (∀ i, i < n → w.cell? ⟨p, i, none⟩ = some (.int .u64 (F i))) := hp
  have Hq : Hid (∀ i, i < n → w.cell? ⟨q, i, none⟩ = some (.int .u64 (F i))) := hq
  clear hp hq
  go_enter Try.func25, Try.ntmps25
  go_wp2
  go_loopw [5] (fun i wr => ∃ (k m : Nat), k ≤ n ∧ i = .int .i64 (k : Int) ∧ wr = w.drewN m) (fun i _ => n - (intOf i).toNat)
  case atStart => exact ⟨0, 0, by omega, rfl, rfl⟩
  case round =>
    obtain ⟨k, m, hk, rfl, rfl⟩ := hrel
    by_cases hlt : k < n
    · have g1 := Hp.out k hlt
      have g2 := Hq.out k hlt
      have hi : (k : Int) < (n : Int) := by omega
      go_wp2
      go_quiet (fail)
      go_wp2
      go_roundw
      case rel => exact ⟨k + 1, _, by omega, by go_num, rfl⟩
      case measure => simp [intOf]; omega
    · go_wp2
      go_ret
      exact ⟨rfl, _, rfl⟩
theorem same_zero (a b : Option Addr) (c1 c2 : Nat) (w : World) :
    Calls Try.prog 25 #[.slice a 0 c1, .slice b 0 c2] w fun e w' => e = .returned (.bool true) ∧ w' = w := by
  go_enter Try.func25, Try.ntmps25
  go_wp2
  refine wp_loop_rounds 1 ?_
  rw [rounds_succ]
  go_wp2
  go_ret
  exact ⟨rfl, rfl⟩

/-! ### slices.Contains over a row of ints -/
/-- Is v among the first m? -/
def has (c : Nat → Int) (v : Int) : Nat → Bool
  | 0 => false
  | m + 1 => has c v m || (v == c m)
theorem has_yes {c : Nat → Int} {v : Int} {m n : Nat} (h : v = c m) (hm : m < n) : has c v n = true := by
  induction n with
  | zero => omega
  | succ n ih =>
    simp only [has]
    by_cases e : m = n
    · subst e; simp [h]
    · rw [ih (by omega)]; rfl
theorem has_says {c : Nat → Int} {v : Int} : ∀ {n : Nat}, has c v n = true → ∃ m, m < n ∧ v = c m := by
  intro n
  induction n with
  | zero => intro h; simp [has] at h
  | succ n ih =>
    intro h
    simp only [has, Bool.or_eq_true, beq_iff_eq] at h
    rcases h with h | h
    · obtain ⟨m, h1, h2⟩ := ih h; exact ⟨m, by omega, h2⟩
    · exact ⟨n, by omega, h⟩

set_option maxHeartbeats 400000 in
theorem index_any (p n : Nat) (c : Nat → Int) (v : Int) (hn : n ≤ 1048576) (w : World) (hp : ∀ i, i < n → w.cell? ⟨p, i, none⟩ = some (.int .i64 (c i))) :
    Calls Try.prog 34 #[.slice (some ⟨p, 0, none⟩) n n, .int .i64 v] w fun e w' => (∃ r : Int, e = .returned (.int .i64 r) ∧ decide (0 ≤ r) = has c v n) ∧ w' = w := by
  have Hp : Hid (∀ i, i < n → w.cell? ⟨p, i, none⟩ = some (.int .i64 (c i))) := hp
  clear hp
  go_enter Try.func34, Try.ntmps34
  go_wp2
  go_loop [8] (fun i => ∃ (k : Nat), k ≤ n ∧ i = .int .i64 (k : Int) ∧ Hid (has c v k = false)) (fun i => n - (intOf i).toNat)
  case atStart => exact ⟨0, by omega, rfl, rfl⟩
  case round =>
    obtain ⟨k, hk, rfl, HF⟩ := hrel
    by_cases hlt : k < n
    · have g1 := Hp.out k hlt
      have hi : (k : Int) < (n : Int) := by omega
      cases hv : v == c k with
      | true =>
        have HY : Hid (has c v n = true) := has_yes (by simpa using hv) hlt
        go_wp2
        go_ret
        exact ⟨⟨k, rfl, by rw [HY.out]; simp⟩, rfl⟩
      | false =>
        have HN : Hid (has c v (k + 1) = false) := by show has c v (k + 1) = false; simp only [has, HF.out, hv]; rfl
        go_wp2
        go_round
        case rel => exact ⟨k + 1, by omega, by go_num, HN⟩
        case measure => simp [intOf]; omega
    · obtain rfl : k = n := by omega
      go_wp2
      go_ret
      exact ⟨⟨-1, rfl, by rw [HF.out]; rfl⟩, rfl⟩
theorem contains_any (p n : Nat) (c : Nat → Int) (v : Int) (hn : n ≤ 1048576) (w : World) (hp : ∀ i, i < n → w.cell? ⟨p, i, none⟩ = some (.int .i64 (c i))) :
    Calls Try.prog 32 #[.slice (some ⟨p, 0, none⟩) n n, .int .i64 v] w fun e w' => e = .returned (.bool (has c v n)) ∧ w' = w := by
  have Hp : Hid (∀ i, i < n → w.cell? ⟨p, i, none⟩ = some (.int .i64 (c i))) := hp
  clear hp
  go_enter Try.func32, Try.ntmps32
  go_wp2_with (go_at_call 34; refine (index_any _ _ c _ hn _ Hp.out).mono ?_; rintro e w' ⟨⟨r, rfl, hr⟩, rfl⟩)
  go_ret
  exact ⟨rfl, rfl⟩
end Go.Proofs.Qxb6604140a.Srt
