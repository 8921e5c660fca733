/-
  lblEndsInZero, lblSameParts; THE LAW's WALK: Merge is the trimmed partwise maximum.
-/
import Derived.Test.Qxb6604163aOrder
namespace Go.Proofs.Qxb6604163a.Lbl
open Go.RowKit
set_option linter.unusedVariables false

/-- Does the label end in a zero? -/
def ezB (F : Nat → Int) (n : Nat) : Bool := if n = 0 then false else (F (n - 1) == 0)
theorem ez_trim {F : Nat → Int} {n : Nat} (h : ezB F n = false) : Trim F n := by
  unfold ezB at h
  by_cases c : n = 0
  · exact .inl c
  · rw [if_neg c] at h; exact .inr (by simpa using h)
theorem ez_zero (a : Option Addr) (c : Nat) (w : World) : Calls Try.prog 7 #[.slice a 0 c] w fun e w' => e = .returned (.bool false) ∧ w' = w := by
  go_enter Try.func7, Try.ntmps7
  go_wp2
  go_ret
  exact ⟨rfl, rfl⟩
theorem ez_pos (x : Addr) (n c : Nat) (v : Int) (hn : 0 < n) (hn2 : n ≤ 1048576) (w : World) (hc : w.cell? (x.add (n - 1)) = some (.int .u64 v)) : Calls Try.prog 7 #[.slice (some x) n c] w fun e w' => e = .returned (.bool (v == 0)) ∧ w' = w := by
  have h1 : (0 : Int) < (n : Int) := by omega
  go_enter Try.func7, Try.ntmps7
  go_wp2
  go_ret
  exact ⟨rfl, rfl⟩
theorem ez_any (a : Option Addr) (n cap : Nat) (F : Nat → Int) (hn : n ≤ 1048576) (w : World) (h : Came w a n cap F) :
    Calls Try.prog 7 #[.slice a n cap] w fun e w' => e = .returned (.bool (ezB F n)) ∧ w' = w := by
  unfold ezB
  by_cases c : n = 0
  · subst c; rw [if_pos rfl]; exact ez_zero a cap w
  · rw [if_neg c]
    rcases h with ⟨_, h0, _⟩ | ⟨x, rfl, hx⟩
    · omega
    · exact ez_pos x n cap _ (by omega) hn w (hx (n - 1) (by omega))

set_option maxHeartbeats 400000 in
theorem same_row (p q n c1 c2 : Nat) (F : Nat → Int) (hn : n ≤ 1048576) (w : World) (hp : Row w p n F) (hq : Row w q n F) :
    Calls Try.prog 14 #[.slice (some ⟨p, 0, none⟩) n c1, .slice (some ⟨q, 0, none⟩) n c2] w fun e w' => e = .returned (.bool true) ∧ ∃ m, w' = w.drewN m := by
  have Hp : Hid (Row w p n F) := hp
  have Hq : Hid (Row w q n F) := hq
  clear hp hq
  go_enter Try.func14, Try.ntmps14
  go_wp2
  go_loopw [5] (fun i wr => ∃ (k m : Nat), k ≤ n ∧ i = .int .i64 (k : Int) ∧ wr = w.drewN m) (fun i _ => n - (intOf i).toNat)
  case atStart => exact ⟨0, 0, by omega, rfl, rfl⟩
  case round =>
    obtain ⟨k, m, hk, rfl, rfl⟩ := hrel
    by_cases hlt : k < n
    · have g1 := Hp.out.cell hlt
      have g2 := Hq.out.cell hlt
      have hi : (k : Int) < (n : Int) := by omega
      go_wp2
      go_quiet (fail)
      go_wp2
      go_roundw
      case rel => exact ⟨k + 1, _, by omega, by go_num, rfl⟩
      case measure => simp [intOf]; omega
    · go_wp2
      go_ret
      exact ⟨rfl, _, rfl⟩
theorem same_zero (a b : Option Addr) (c1 c2 : Nat) (w : World) :
    Calls Try.prog 14 #[.slice a 0 c1, .slice b 0 c2] w fun e w' => e = .returned (.bool true) ∧ w' = w := by
  go_enter Try.func14, Try.ntmps14
  go_wp2
  refine wp_loop_rounds 1 ?_
  rw [rounds_succ]
  go_wp2
  go_ret
  exact ⟨rfl, rfl⟩
theorem same_any (a : Option Addr) (q n c1 c2 : Nat) (F : Nat → Int) (hn : n ≤ 1048576) (w : World) (hp : LS w a n F) (hq : Row w q n F) :
    Calls Try.prog 14 #[.slice a n c1, .slice (some ⟨q, 0, none⟩) n c2] w fun e w' => e = .returned (.bool true) ∧ Below w.heap.size w w' := by
  rcases hp with rfl | ⟨p, rfl, hp⟩
  · exact (same_zero a _ c1 c2 w).mono fun e w' ⟨he, hw⟩ => ⟨he, hw ▸ Below.refl _ _⟩
  · exact (same_row p q n c1 c2 F hn w hp hq).mono fun e w' ⟨he, m, hw⟩ => ⟨he, hw ▸ ⟨rfl, rfl, rfl, Nat.le_refl _, fun _ _ => rfl⟩⟩

/-! ### Plain -/
/-- The greater part. -/
def mx (F : Nat → Int) (n : Nat) (G : Nat → Int) (m i : Nat) : Int := if pt F n i < pt G m i then pt G m i else pt F n i
theorem mx_out {F G : Nat → Int} {n m i : Nat} (h1 : n ≤ i) (h2 : m ≤ i) : mx F n G m i = 0 := by unfold mx; rw [pt_out h1, pt_out h2, if_neg (by omega)]
theorem mx_pt {F G : Nat → Int} {n m k : Nat} (hz : ∀ i, k ≤ i → i < max n m → mx F n G m i = 0) (i : Nat) : pt (mx F n G m) k i = mx F n G m i := by
  by_cases c : i < k
  · rw [pt_in c]
  · rw [pt_out (by omega)]
    by_cases d : i < max n m
    · exact (hz i (by omega) d).symm
    · exact (mx_out (by omega) (by omega)).symm
theorem trimmed {F G M : Nat → Int} {n m k l : Nat} (hz : ∀ i, k ≤ i → i < max n m → mx F n G m i = 0) (ht : Trim (mx F n G m) k) (hM : IsMax M l F n G m) (hMt : Trim M l) : l = k ∧ ∀ i, i < l → M i = mx F n G m i :=
  trim_unique hMt ht fun i => by rw [hM i, mx_pt hz i]; rfl
theorem Row.short {w : World} {b n k : Nat} {F : Nat → Int} (h : Row w b n F) (hk : k ≤ n) : Row w b k F := by
  obtain ⟨N, f, hN, hr, hf⟩ := h; exact ⟨N, f, by omega, hr, fun i hi => hf i (by omega)⟩
set_option maxRecDepth 100000 in
set_option maxHeartbeats 1000000 in
theorem trim_core (a b : Option Addr) (n m ca cb : Nat) (F G : Nat → Int) (hn : n ≤ 65536) (hm : m ≤ 65536) (hF : Rg F n) (hG : Rg G m) (w : World)
    (h1 : Came w a n ca F) (h2 : Came w b m cb G) (hz1 : ezB F n = false) (hz2 : ezB G m = false) :
    Calls Try.prog 3 #[.slice a n ca, .slice b m cb] w fun e w' => e = .returned (.bool true) ∧ Below w.heap.size w w' := by
  have H1 : Hid (Came w a n ca F) := h1
  have H2 : Hid (Came w b m cb G) := h2
  have HF : Hid (Rg F n) := hF
  have HG : Hid (Rg G m) := hG
  have T1 : Hid (Trim F n) := ez_trim hz1
  have T2 : Hid (Trim G m) := ez_trim hz2
  clear h1 h2 hF hG
  go_enter Try.func3, Try.ntmps3
  go_wp2_with (first | (go_at_call 6; go_in))
  go_wp2_with fail
  refine (ez_any a n ca F (by omega) _ H1.out).mono ?_
  rintro e w0 ⟨rfl, rfl⟩
  rw [hz1]
  go_wp2_with fail
  refine (ez_any b m cb G (by omega) _ H2.out).mono ?_
  rintro e w1 ⟨rfl, rfl⟩
  rw [hz2]
  clear hz1 hz2
  go_wp2_with fail
  refine (clone_came a n ca F (by omega) _ H1.out).mono ?_
  rintro e w2 ⟨⟨a1, c1, rfl, hl1⟩, hb1⟩
  have L1 : Hid (LS w2 a1 n F) := hl1
  have B1 : Hid (Below _ _ w2) := hb1
  clear hl1 hb1
  go_wp2_with fail
  refine (clone_came b m cb G (by omega) _ (H2.out.below B1.out)).mono ?_
  rintro e w3 ⟨⟨a2, d2, rfl, hl2⟩, hb2⟩
  have M1 : Hid (LS w3 a1 n F) := L1.out.below hb2
  have M2 : Hid (LS w3 a2 m G) := hl2
  have B2 : Hid (Below _ _ w3) := B1.out.trans (hb2.mono B1.out.size)
  clear hl2 hb2 L1 B1 H1 H2
  obtain ⟨N, hN⟩ : ∃ N, N = max n m := ⟨_, rfl⟩
  have HN : Hid (N = max n m) := hN
  have hNb : N ≤ 65536 := by omega
  clear hN
  have hmk := run_make_row' (P := Try.prog) 22 27 (.int .u64 0) 8 Try.underlying22 info27 rfl .i64 .i64 N (by omega) (by omega)
  go_wp2_with fail
  refine (maxlen_any a1 a2 n c1 m d2 _).mono ?_
  rintro e w4 ⟨rfl, rfl⟩
  rw [← HN.out]
  go_wp2_with fail
  go_loopw [7] (fun i wr => ∃ (k : Nat) (D : Nat → Int), k ≤ N ∧ i = .int .i64 (k : Int) ∧ Hid (Row wr w4.heap.size N D) ∧ Hid (∀ j, j < k → D j = mx F n G m j) ∧ Hid (Below w4.heap.size w4 wr)) (fun i _ => N - (intOf i).toNat)
  case atStart => exact ⟨0, fun _ => 0, by omega, rfl, ⟨N, _, Nat.le_refl _, World.rowIs_made w4 (.int .u64 0) N 27, fun _ _ => rfl⟩, fun j hj => by omega, (Below.refl _ _).alloc (Nat.le_refl _) _⟩
  case round =>
    obtain ⟨k, D, hk, rfl, HR, HD, HB⟩ := hrel
    obtain ⟨w5, rfl⟩ : ∃ w5 : World, w5 = wr := ⟨_, rfl⟩
    by_cases hlt : k < N
    · have c2 := HR.out.cell hlt
      have f2 := HR.out.frozen k
      have hii : (k : Int) < (N : Int) := by omega
      by_cases hcmp : pt F n k < pt G m k
      · have HM : Hid (mx F n G m k = pt G m k) := if_pos hcmp
        go_wp2_with fail
        refine (at_any a1 n c1 k F _ (M1.out.below HB.out)).mono ?_
        rintro e w6 ⟨rfl, rfl⟩
        go_wp2_with fail
        refine (at_any a2 m d2 k G _ (M2.out.below HB.out)).mono ?_
        rintro e w7 ⟨rfl, rfl⟩
        go_wp2
        go_roundw
        case rel => exact ⟨k + 1, _, by omega, by go_num, HR.out.put k (pt G m k), by rw [← HM.out]; exact copied HD.out, HB.out.setCell (Nat.le_refl _) _⟩
        case measure => simp [intOf]; omega
      · have HM : Hid (mx F n G m k = pt F n k) := if_neg hcmp
        go_wp2_with fail
        refine (at_any a1 n c1 k F _ (M1.out.below HB.out)).mono ?_
        rintro e w6 ⟨rfl, rfl⟩
        go_wp2_with fail
        refine (at_any a2 m d2 k G _ (M2.out.below HB.out)).mono ?_
        rintro e w7 ⟨rfl, rfl⟩
        go_wp2
        go_roundw
        case rel => exact ⟨k + 1, _, by omega, by go_num, HR.out.put k (pt F n k), by rw [← HM.out]; exact copied HD.out, HB.out.setCell (Nat.le_refl _) _⟩
        case measure => simp [intOf]; omega
    · obtain rfl : k = N := by omega
      have HW : Hid (Row w5 w4.heap.size k (mx F n G m)) := HR.out.congr fun i hi => HD.out i hi
      clear HR HD
      go_wp2_with fail
      go_loopw [10] (fun i wr => ∃ (q : Nat), q ≤ k ∧ i = .int .i64 (q : Int) ∧ Hid (∀ i, q ≤ i → i < k → mx F n G m i = 0) ∧ wr = w5) (fun i _ => (intOf i).toNat)
      case atStart => exact ⟨k, Nat.le_refl _, rfl, fun i h1 h2 => by omega, rfl⟩
      case round =>
        obtain ⟨q, hq, rfl, HZ, rfl⟩ := hrel
        by_cases hq0 : q = 0
        · subst hq0
          have HT : Hid (Trim (mx F n G m) 0) := .inl rfl
          have HWq : Hid (Row wr w4.heap.size 0 (mx F n G m)) := HW.out.short (Nat.zero_le _)
          have P1 : Hid (LS wr a1 n F) := M1.out.below HB.out
          have P2 : Hid (LS wr a2 m G) := M2.out.below HB.out
          have B3 : Hid (Below w1.heap.size w1 wr) := B2.out.trans (HB.out.mono B2.out.size)
          have hgl : w4.heap.size < wr.heap.size := HW.out.lt
          clear HW M1 M2 B2 HB
          go_wp2_with fail
          refine (make_any a1 n c1 _).mono ?_
          rintro e x1 ⟨rfl, hx1⟩
          have P1' : Hid (LS x1 a1 n F) := P1.out.below hx1
          have P2' : Hid (LS x1 a2 m G) := P2.out.below hx1
          have R1 : Hid (Row x1 w4.heap.size 0 (mx F n G m)) := HWq.out.of_block (hx1.block _ hgl)
          have B4 : Hid (Below w1.heap.size w1 x1) := B3.out.trans (hx1.mono B3.out.size)
          clear P1 P2 HWq B3 hx1 hgl
          go_wp2_with fail
          refine (make_any a2 m d2 _).mono ?_
          rintro e x2 ⟨rfl, hx2⟩
          have P1 : Hid (LS x2 a1 n F) := P1'.out.below hx2
          have P2 : Hid (LS x2 a2 m G) := P2'.out.below hx2
          have R2 : Hid (Row x2 w4.heap.size 0 (mx F n G m)) := R1.out.of_block (hx2.block _ R1.out.lt)
          have B5 : Hid (Below w1.heap.size w1 x2) := B4.out.trans (hx2.mono B4.out.size)
          clear P1' P2' R1 B4 hx2
          go_wp2_with fail
          refine (merge_any a1 a2 n c1 m d2 F G (by omega) (by omega) HF.out HG.out _ P1.out P2.out).mono ?_
          rintro e x3 ⟨a4, l, c4, M, rfl, hl4, hM, hl, hmax, htr, hx3⟩
          obtain ⟨rfl, heq⟩ := trimmed (by rw [← HN.out]; exact HZ.out) HT.out hmax (htr T1.out T2.out)
          have L4 : Hid (LS x3 a4 0 (mx F n G m)) := by
            rcases hl4 with h | ⟨b, h, hr⟩
            · exact .inl h
            · exact .inr ⟨b, h, hr.congr heq⟩
          have R3 : Hid (Row x3 w4.heap.size 0 (mx F n G m)) := R2.out.of_block (hx3.block _ R2.out.lt)
          have B6 : Hid (Below w1.heap.size w1 x3) := B5.out.trans (hx3.mono B5.out.size)
          clear hl4 hM hl hmax htr heq hx3 P1 P2 R2 B5
          go_wp2_with fail
          refine (parts_any a4 0 c4 _).mono ?_
          rintro e x4 ⟨rfl, hx4⟩
          have L5 : Hid (LS x4 a4 0 (mx F n G m)) := L4.out.below hx4
          have R4 : Hid (Row x4 w4.heap.size 0 (mx F n G m)) := R3.out.of_block (hx4.block _ R3.out.lt)
          have B7 : Hid (Below w1.heap.size w1 x4) := B6.out.trans (hx4.mono B6.out.size)
          clear hx4 L4 R3 B6
          go_wp2_with fail
          refine (same_any a4 w4.heap.size 0 c4 k (mx F n G m) (by omega) _ L5.out R4.out).mono ?_
          rintro e x5 ⟨rfl, hx5⟩
          go_wp2
          go_ret
          exact ⟨rfl, B7.out.trans (hx5.mono B7.out.size)⟩
        · have c2 := HW.out.cell (i := q - 1) (by omega)
          have h0i : (0 : Int) < (q : Int) := by omega
          have hqi : (q : Int) ≤ (k : Int) := by omega
          by_cases hmz : mx F n G m (q - 1) = 0
          · have hb : (mx F n G m (q - 1) == 0) = true := beq_iff_eq.2 hmz
            have HZ2 : Hid (∀ i, q - 1 ≤ i → i < k → mx F n G m i = 0) := fun i h1 h2 => by
              by_cases e : i = q - 1
              · rw [e]; exact hmz
              · exact HZ.out i (by omega) h2
            clear hmz
            go_wp2
            go_roundw
            case rel => exact ⟨q - 1, by omega, by go_num, HZ2, by trivial⟩
            case measure => simp [intOf]; omega
          · have hb : (mx F n G m (q - 1) == 0) = false := beq_eq_false_iff_ne.2 hmz
            have HT : Hid (Trim (mx F n G m) q) := .inr hmz
            clear hmz
            have HWq : Hid (Row wr w4.heap.size q (mx F n G m)) := HW.out.short hq
            have P1 : Hid (LS wr a1 n F) := M1.out.below HB.out
            have P2 : Hid (LS wr a2 m G) := M2.out.below HB.out
            have B3 : Hid (Below w1.heap.size w1 wr) := B2.out.trans (HB.out.mono B2.out.size)
            have hgl : w4.heap.size < wr.heap.size := HW.out.lt
            clear HW M1 M2 B2 HB
            go_wp2_with fail
            refine (make_any a1 n c1 _).mono ?_
            rintro e x1 ⟨rfl, hx1⟩
            have P1' : Hid (LS x1 a1 n F) := P1.out.below hx1
            have P2' : Hid (LS x1 a2 m G) := P2.out.below hx1
            have R1 : Hid (Row x1 w4.heap.size q (mx F n G m)) := HWq.out.of_block (hx1.block _ hgl)
            have B4 : Hid (Below w1.heap.size w1 x1) := B3.out.trans (hx1.mono B3.out.size)
            clear P1 P2 HWq B3 hx1 hgl
            go_wp2_with fail
            refine (make_any a2 m d2 _).mono ?_
            rintro e x2 ⟨rfl, hx2⟩
            have P1 : Hid (LS x2 a1 n F) := P1'.out.below hx2
            have P2 : Hid (LS x2 a2 m G) := P2'.out.below hx2
            have R2 : Hid (Row x2 w4.heap.size q (mx F n G m)) := R1.out.of_block (hx2.block _ R1.out.lt)
            have B5 : Hid (Below w1.heap.size w1 x2) := B4.out.trans (hx2.mono B4.out.size)
            clear P1' P2' R1 B4 hx2
            go_wp2_with fail
            refine (merge_any a1 a2 n c1 m d2 F G (by omega) (by omega) HF.out HG.out _ P1.out P2.out).mono ?_
            rintro e x3 ⟨a4, l, c4, M, rfl, hl4, hM, hl, hmax, htr, hx3⟩
            obtain ⟨rfl, heq⟩ := trimmed (by rw [← HN.out]; exact HZ.out) HT.out hmax (htr T1.out T2.out)
            have L4 : Hid (LS x3 a4 l (mx F n G m)) := by
              rcases hl4 with h | ⟨b, h, hr⟩
              · exact .inl h
              · exact .inr ⟨b, h, hr.congr heq⟩
            have R3 : Hid (Row x3 w4.heap.size l (mx F n G m)) := R2.out.of_block (hx3.block _ R2.out.lt)
            have B6 : Hid (Below w1.heap.size w1 x3) := B5.out.trans (hx3.mono B5.out.size)
            clear hl4 hM hl hmax htr heq hx3 P1 P2 R2 B5
            go_wp2_with fail
            refine (parts_any a4 l c4 _).mono ?_
            rintro e x4 ⟨rfl, hx4⟩
            have L5 : Hid (LS x4 a4 l (mx F n G m)) := L4.out.below hx4
            have R4 : Hid (Row x4 w4.heap.size l (mx F n G m)) := R3.out.of_block (hx4.block _ R3.out.lt)
            have B7 : Hid (Below w1.heap.size w1 x4) := B6.out.trans (hx4.mono B6.out.size)
            clear hx4 L4 R3 B6
            go_wp2_with fail
            refine (same_any a4 w4.heap.size l c4 k (mx F n G m) (by omega) _ L5.out R4.out).mono ?_
            rintro e x5 ⟨rfl, hx5⟩
            go_wp2
            go_ret
            exact ⟨rfl, B7.out.trans (hx5.mono B7.out.size)⟩
end Go.Proofs.Qxb6604163a.Lbl
