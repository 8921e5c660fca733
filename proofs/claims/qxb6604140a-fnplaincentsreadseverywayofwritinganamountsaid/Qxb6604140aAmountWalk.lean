/-
  THE LAW's WALK: every way of writing an amount. The callees by their contracts.
-/
import Derived.Test.Qxb6604140aDecimal
namespace Go.Proofs.Qxb6604140a.Cents
open Go.RowKit

theorem reads_any (s : ByteArray) (c : Int) (hs : s.size ≤ maxLen) (w : World) :
    Calls Try.prog 12 #[.string s, .int .u64 c] w fun e w' => e = .returned (.bool (pcB s && (pcV s == c))) ∧ w' = w := by
  cases h : pcB s with
  | false =>
    go_enter Try.func12, Try.ntmps12
    go_wp2_with (go_at_call 9; refine (f9_any _ hs _).mono ?_; rintro e w' ⟨rfl, rfl⟩)
    go_ret
    exact ⟨rfl, rfl⟩
  | true =>
    go_enter Try.func12, Try.ntmps12
    go_wp2_with (go_at_call 9; refine (f9_any _ hs _).mono ?_; rintro e w' ⟨rfl, rfl⟩)
    go_ret
    exact ⟨by simp, rfl⟩
theorem refused_any (s : ByteArray) (hs : s.size ≤ maxLen) (w : World) :
    Calls Try.prog 13 #[.string s] w fun e w' => e = .returned (.bool (!pcB s && (pcV s == 0))) ∧ w' = w := by
  cases h : pcB s with
  | false =>
    go_enter Try.func13, Try.ntmps13
    go_wp2_with (go_at_call 9; refine (f9_any _ hs _).mono ?_; rintro e w' ⟨rfl, rfl⟩)
    go_ret
    exact ⟨by simp, rfl⟩
  | true =>
    go_enter Try.func13, Try.ntmps13
    go_wp2_with (go_at_call 9; refine (f9_any _ hs _).mono ?_; rintro e w' ⟨rfl, rfl⟩)
    go_ret
    exact ⟨rfl, rfl⟩

theorem bt_lb (s : ByteArray) : bt s = lb s.data.toList := by
  funext k
  unfold bt lb
  by_cases h : k < s.size
  · rw [dif_pos h, List.getElem?_eq_getElem (by simpa using h)]; rfl
  · rw [dif_neg h, List.getElem?_eq_none (by simpa using h)]; rfl
theorem read_of {s : ByteArray} {l : List UInt8} {v : Int} (hl : s.data.toList = l) (h : rl (lb l) l.length = some v) : pcB s = true ∧ pcV s = v := by
  have hn : s.size = l.length := by rw [← hl]; simp
  have := pcV_of (s := s) (v := v) (by rw [pc_rl, bt_lb, hl, hn]; exact h)
  exact ⟨this.2, this.1⟩
theorem refuse_of {s : ByteArray} {l : List UInt8} (hl : s.data.toList = l) (h : rl (lb l) l.length = none) : pcB s = false ∧ pcV s = 0 := by
  have hn : s.size = l.length := by rw [← hl]; simp
  have := pcV_none (s := s) (by rw [pc_rl, bt_lb, hl, hn]; exact h)
  exact ⟨this.2, this.1⟩

theorem conv2 (t o : UInt8) (x y : Int) (hx : (t.toNat : Int) = x) (hy : (o.toNat : Int) = y) (w : World) :
    (convert 27 9 (.slice (some ⟨w.heap.size, 0, none⟩) 2 2)).run Try.prog (w.alloc (.cells #[.int .u8 x, .int .u8 y] 5)) = .ok (.string ⟨#[t, o]⟩) (w.alloc (.cells #[.int .u8 x, .int .u8 y] 5)) := by
  subst hx hy
  refine run_convert_bytes_back _ 27 9 5 _ _ [t, o] Try.underlying27 Try.underlying5 Try.underlying9 ?_
  intro j hj
  have hp : (⟨w.heap.size, 0, none⟩ : Addr).add j = ⟨w.heap.size, j, none⟩ := by simp [Addr.add]; exact fun h => h.symm
  rw [hp, World.cell?_alloc_at _ _ _ _ rfl]
  match j, hj with
  | 0, _ => rfl
  | 1, _ => rfl
theorem conv1 (t : UInt8) (x : Int) (hx : (t.toNat : Int) = x) (w : World) :
    (convert 27 9 (.slice (some ⟨w.heap.size, 0, none⟩) 1 1)).run Try.prog (w.alloc (.cells #[.int .u8 x] 5)) = .ok (.string ⟨#[t]⟩) (w.alloc (.cells #[.int .u8 x] 5)) := by
  subst hx
  refine run_convert_bytes_back _ 27 9 5 _ _ [t] Try.underlying27 Try.underlying5 Try.underlying9 ?_
  intro j hj
  have hp : (⟨w.heap.size, 0, none⟩ : Addr).add j = ⟨w.heap.size, j, none⟩ := by simp [Addr.add]; exact fun h => h.symm
  rw [hp, World.cell?_alloc_at _ _ _ _ rfl]
  match j, hj with
  | 0, _ => rfl

/-- The whole part's text. -/
def wtext (V : Nat) : List UInt8 := if V = 0 then [48] else dec 20 V
theorem wtext_says (V : Nat) (h : V < 100000000000000000) : digs (wtext V) ∧ 1 ≤ (wtext V).length ∧ (wtext V).length ≤ 17 ∧ nval (wtext V) = V := by
  unfold wtext
  by_cases hV : V = 0
  · subst hV
    refine ⟨?_, by simp, by simp, rfl⟩
    intro b hb
    simp at hb
    subst hb
    decide
  · rw [if_neg hV]
    refine ⟨dec_digs _ _, ?_, dec_len_pow 20 V 17 (by omega), nval_dec 20 V (by omega)⟩
    rw [dec_pos (by omega)]; simp
theorem dt_any (V : Nat) (h1 : V < 18446744073709551616) (w : World) :
    Calls Try.prog 11 #[.int .u64 (V : Int)] w fun e w' => e = .returned (.string ⟨(wtext V).toArray⟩) ∧ Grown w w' := by
  unfold wtext
  by_cases hV : V = 0
  · subst hV; exact dt_zero w
  · rw [if_neg hV]; exact dt_pos V (by omega) h1 w

set_option maxHeartbeats 1000000 in
theorem law_walk (c : Int) (h0 : 0 ≤ c) (h1 : c < 10000000000000000000) (w : World) :
    Calls Try.prog 4 #[.int .u64 c] w fun e w' => e = .returned (.bool true) ∧ Grown w w' := by
  obtain ⟨V, hV⟩ : ∃ V : Nat, (V : Int) = c / 100 := ⟨(c / 100).toNat, by omega⟩
  obtain ⟨wd, wl, wh, wn⟩ := wtext_says V (by omega)
  have hdt : ∀ w, Calls Try.prog 11 #[.int .u64 (c / 100)] w fun e w' => e = .returned (.string ⟨(wtext V).toArray⟩) ∧ Grown w w' := fun w => by
    rw [← hV]; exact dt_any V (by omega) w
  generalize hW : wtext V = W at *
  obtain ⟨t, ht⟩ : ∃ t : UInt8, (t.toNat : Int) = c % 100 / 10 + 48 := ⟨UInt8.ofNat (c % 100 / 10 + 48).toNat, by
    have : (UInt8.ofNat (c % 100 / 10 + 48).toNat).toNat = (c % 100 / 10 + 48).toNat % 256 := UInt8.toNat_ofNat'
    omega⟩
  obtain ⟨o, ho⟩ : ∃ o : UInt8, (o.toNat : Int) = c % 10 + 48 := ⟨UInt8.ofNat (c % 10 + 48).toNat, by
    have : (UInt8.ofNat (c % 10 + 48).toNat).toNat = (c % 10 + 48).toNat % 256 := UInt8.toNat_ofNat'
    omega⟩
  have ht2 : 48 ≤ t.toNat ∧ t.toNat ≤ 57 := by omega
  have ho2 : 48 ≤ o.toNat ∧ o.toNat ≤ 57 := by omega
  obtain ⟨S, hS⟩ : ∃ S : ByteArray, S = ⟨W.toArray⟩ := ⟨_, rfl⟩
  rw [← hS] at hdt
  have hSl : S.data.toList = W := by rw [hS]
  have hSz : S.size = W.length := by rw [hS]; rfl
  have r2 := read_of (s := S ++ ⟨#[46]⟩ ++ ⟨#[t, o]⟩) (l := W ++ [46, t, o]) (v := c) (by simp [ByteArray.data_append, hSl]) (by
    rw [rl_two W t o _ (c / 100) wd wl wh ht2 ho2 (by simp) (by rw [wn]; exact hV) (by omega) (by omega)]; congr 1; omega)
  have r1 : c % 10 = 0 → pcB (S ++ ⟨#[46]⟩ ++ ⟨#[t]⟩) = true ∧ pcV (S ++ ⟨#[46]⟩ ++ ⟨#[t]⟩) = c := fun h10 =>
    read_of (l := W ++ [46, t]) (v := c) (by simp [ByteArray.data_append, hSl]) (by
    rw [rl_one W t _ (c / 100) wd wl wh ht2 (by simp) (by rw [wn]; exact hV) (by omega) (by omega)]; congr 1; omega)
  have r0 : c % 100 = 0 → pcB S = true ∧ pcV S = c := fun h10 =>
    read_of (l := W) (v := c) hSl (by
    rw [rl_none W _ (c / 100) wd wl wh rfl (by rw [wn]; exact hV) (by omega) (by omega)]; congr 1; omega)
  have rz : W.length < 17 → pcB (⟨#[48]⟩ ++ (S ++ ⟨#[46]⟩ ++ ⟨#[t, o]⟩)) = true ∧ pcV (⟨#[48]⟩ ++ (S ++ ⟨#[46]⟩ ++ ⟨#[t, o]⟩)) = c := fun hl =>
    read_of (l := (48 :: W) ++ [46, t, o]) (v := c) (by simp [ByteArray.data_append, hSl]) (by
    rw [rl_two (48 :: W) t o _ (c / 100) (fun b hb => by rcases List.mem_cons.1 hb with h | h
                                                         · subst h; decide
                                                         · exact wd b h) (by simp) (by simp; omega) ht2 ho2 (by simp) (by rw [nval_zero_cons, wn]; exact hV) (by omega) (by omega)]; congr 1; omega)
  have rx : ¬ W.length < 17 → pcB (⟨#[48]⟩ ++ (S ++ ⟨#[46]⟩ ++ ⟨#[t, o]⟩)) = false ∧ pcV (⟨#[48]⟩ ++ (S ++ ⟨#[46]⟩ ++ ⟨#[t, o]⟩)) = 0 := fun hl =>
    refuse_of (l := (48 :: W) ++ [46, t, o]) (by simp [ByteArray.data_append, hSl]) (by
    rw [rl_long (48 :: W) t o _ (by simp; omega) ht2 (by simp)])
  have f0 := refuse_of (s := S ++ ⟨#[46]⟩ ++ ⟨#[t, o]⟩ ++ ⟨#[48]⟩) (l := W ++ [46, t, o, 48]) (by simp [ByteArray.data_append, hSl]) (rl_tail W t o 48 _ ht2 ho2 (by simp))
  have f1 := refuse_of (s := S ++ ⟨#[46]⟩ ++ ⟨#[t, o]⟩ ++ ⟨#[46]⟩) (l := W ++ [46, t, o, 46]) (by simp [ByteArray.data_append, hSl]) (rl_tail W t o 46 _ ht2 ho2 (by simp))
  have f2 := refuse_of (s := ⟨#[46]⟩ ++ (S ++ ⟨#[46]⟩ ++ ⟨#[t, o]⟩)) (l := 46 :: W ++ [46, t, o]) (by simp [ByteArray.data_append, hSl]) (rl_lead W t o _ ht2 (by simp))
  have hcv2 := conv2 t o _ _ ht ho
  have hcv1 : ∀ (X : World) (n : Nat), n = X.heap.size → (convert 27 9 (.slice (some ⟨n, 0, none⟩) 1 1)).run Try.prog (X.alloc (.cells #[.int .u8 (c % 100 / 10 + 48)] 5)) = .ok (.string ⟨#[t]⟩) (X.alloc (.cells #[.int .u8 (c % 100 / 10 + 48)] 5)) :=
    fun X n hn => by subst hn; exact conv1 t _ ht X
  have hS17 : S.size ≤ 17 := by omega
  obtain ⟨r2a, r2b⟩ := r2
  obtain ⟨f0a, f0b⟩ := f0
  obtain ⟨f1a, f1b⟩ := f1
  obtain ⟨f2a, f2b⟩ := f2
  have Hdt : Hid (∀ w, Calls Try.prog 11 #[.int .u64 (c / 100)] w fun e w' => e = .returned (.string S) ∧ Grown w w') := hdt
  have hge : ¬ (10000000000000000000 ≤ c) := by omega
  rw [← hSz] at rz rx
  clear hdt ht ho ht2 ho2 hV wd wl wh wn hW hS hSl hSz
  by_cases h10 : c % 10 = 0
  · obtain ⟨r1a, r1b⟩ := r1 h10
    have hone : (c % 10 + 48 == 48) = true := by rw [h10]; rfl
    by_cases h100 : c % 100 = 0
    · obtain ⟨r0a, r0b⟩ := r0 h100
      have hf0 : (c % 100 == 0) = true := beq_iff_eq.2 h100
      clear r1 r0 h10 h100
      by_cases hlen : S.size < 17
      · obtain ⟨rza, rzb⟩ := rz hlen
        clear rz rx
        go_enter Try.func4, Try.ntmps4
        go_wp2_with (first | (go_at_call 11; refine (Hdt.out _).mono ?_; rintro e w1 ⟨rfl, hg1⟩) | (go_at_call 12; refine (reads_any _ _ (by simp [maxLen, Go.ByteArray.size_mk']; omega) _).mono ?_; rintro e w' ⟨rfl, rfl⟩) | (go_at_call 13; refine (refused_any _ (by simp [maxLen, Go.ByteArray.size_mk']; omega) _).mono ?_; rintro e w' ⟨rfl, rfl⟩))
        go_ret
        exact ⟨rfl, by repeat (first | exact hg1 | apply Grown.drew | apply Grown.alloc)⟩
      · obtain ⟨rxa, rxb⟩ := rx hlen
        clear rz rx
        go_enter Try.func4, Try.ntmps4
        go_wp2_with (first | (go_at_call 11; refine (Hdt.out _).mono ?_; rintro e w1 ⟨rfl, hg1⟩) | (go_at_call 12; refine (reads_any _ _ (by simp [maxLen, Go.ByteArray.size_mk']; omega) _).mono ?_; rintro e w' ⟨rfl, rfl⟩) | (go_at_call 13; refine (refused_any _ (by simp [maxLen, Go.ByteArray.size_mk']; omega) _).mono ?_; rintro e w' ⟨rfl, rfl⟩))
        go_ret
        exact ⟨rfl, by repeat (first | exact hg1 | apply Grown.drew | apply Grown.alloc)⟩
    · have hf0 : (c % 100 == 0) = false := beq_eq_false_iff_ne.2 h100
      clear r1 r0 h10 h100
      by_cases hlen : S.size < 17
      · obtain ⟨rza, rzb⟩ := rz hlen
        clear rz rx
        go_enter Try.func4, Try.ntmps4
        go_wp2_with (first | (go_at_call 11; refine (Hdt.out _).mono ?_; rintro e w1 ⟨rfl, hg1⟩) | (go_at_call 12; refine (reads_any _ _ (by simp [maxLen, Go.ByteArray.size_mk']; omega) _).mono ?_; rintro e w' ⟨rfl, rfl⟩) | (go_at_call 13; refine (refused_any _ (by simp [maxLen, Go.ByteArray.size_mk']; omega) _).mono ?_; rintro e w' ⟨rfl, rfl⟩))
        go_ret
        exact ⟨rfl, by repeat (first | exact hg1 | apply Grown.drew | apply Grown.alloc)⟩
      · obtain ⟨rxa, rxb⟩ := rx hlen
        clear rz rx
        go_enter Try.func4, Try.ntmps4
        go_wp2_with (first | (go_at_call 11; refine (Hdt.out _).mono ?_; rintro e w1 ⟨rfl, hg1⟩) | (go_at_call 12; refine (reads_any _ _ (by simp [maxLen, Go.ByteArray.size_mk']; omega) _).mono ?_; rintro e w' ⟨rfl, rfl⟩) | (go_at_call 13; refine (refused_any _ (by simp [maxLen, Go.ByteArray.size_mk']; omega) _).mono ?_; rintro e w' ⟨rfl, rfl⟩))
        go_ret
        exact ⟨rfl, by repeat (first | exact hg1 | apply Grown.drew | apply Grown.alloc)⟩
  · have hone : (c % 10 + 48 == 48) = false := beq_eq_false_iff_ne.2 (by omega)
    have hf0 : (c % 100 == 0) = false := beq_eq_false_iff_ne.2 (by omega)
    clear r1 r0 h10
    by_cases hlen : S.size < 17
    · obtain ⟨rza, rzb⟩ := rz hlen
      clear rz rx
      go_enter Try.func4, Try.ntmps4
      go_wp2_with (first | (go_at_call 11; refine (Hdt.out _).mono ?_; rintro e w1 ⟨rfl, hg1⟩) | (go_at_call 12; refine (reads_any _ _ (by simp [maxLen, Go.ByteArray.size_mk']; omega) _).mono ?_; rintro e w' ⟨rfl, rfl⟩) | (go_at_call 13; refine (refused_any _ (by simp [maxLen, Go.ByteArray.size_mk']; omega) _).mono ?_; rintro e w' ⟨rfl, rfl⟩))
      go_ret
      exact ⟨rfl, by repeat (first | exact hg1 | apply Grown.drew | apply Grown.alloc)⟩
    · obtain ⟨rxa, rxb⟩ := rx hlen
      clear rz rx
      go_enter Try.func4, Try.ntmps4
      go_wp2_with (first | (go_at_call 11; refine (Hdt.out _).mono ?_; rintro e w1 ⟨rfl, hg1⟩) | (go_at_call 12; refine (reads_any _ _ (by simp [maxLen, Go.ByteArray.size_mk']; omega) _).mono ?_; rintro e w' ⟨rfl, rfl⟩) | (go_at_call 13; refine (refused_any _ (by simp [maxLen, Go.ByteArray.size_mk']; omega) _).mono ?_; rintro e w' ⟨rfl, rfl⟩))
      go_ret
      exact ⟨rfl, by repeat (first | exact hg1 | apply Grown.drew | apply Grown.alloc)⟩
end Go.Proofs.Qxb6604140a.Cents
