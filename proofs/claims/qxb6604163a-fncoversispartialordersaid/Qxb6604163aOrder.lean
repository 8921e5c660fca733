/-
  lblPartAt, lblMaxLen, lblSameValues; THE WALK OF THE LAW on Covers: an order.
-/
import Derived.Test.Qxb6604163aCame
namespace Go.Proofs.Qxb6604163a.Lbl
open Go.RowKit
set_option linter.unusedVariables false

theorem at_in (b n c i : Nat) (F : Nat → Int) (hi : i < n) (w : World) (hr : Row w b n F) :
    Calls Try.prog 10 #[.slice (some ⟨b, 0, none⟩) n c, .int .i64 (i : Int)] w fun e w' => e = .returned (.int .u64 (F i)) ∧ w' = w := by
  have c1 := hr.cell hi
  have hii : (i : Int) < (n : Int) := by omega
  clear hr
  go_enter Try.func10, Try.ntmps10
  go_wp2
  go_ret
  exact ⟨rfl, rfl⟩
theorem at_out (a : Option Addr) (n c i : Nat) (hi : n ≤ i) (w : World) :
    Calls Try.prog 10 #[.slice a n c, .int .i64 (i : Int)] w fun e w' => e = .returned (.int .u64 0) ∧ w' = w := by
  have hii : ¬ (i : Int) < (n : Int) := by omega
  go_enter Try.func10, Try.ntmps10
  go_wp2
  go_ret
  exact ⟨rfl, rfl⟩
theorem at_any (a : Option Addr) (n c i : Nat) (F : Nat → Int) (w : World) (h : LS w a n F) :
    Calls Try.prog 10 #[.slice a n c, .int .i64 (i : Int)] w fun e w' => e = .returned (.int .u64 (pt F n i)) ∧ w' = w := by
  by_cases hi : i < n
  · rw [pt_in hi]
    rcases h with h | ⟨b, rfl, hr⟩
    · omega
    · exact at_in b n c i F hi w hr
  · rw [pt_out (by omega)]
    exact at_out a n c i (by omega) w
theorem maxlen_any (a q : Option Addr) (n c m d : Nat) (w : World) :
    Calls Try.prog 9 #[.slice a n c, .slice q m d] w fun e w' => e = .returned (.int .i64 ((max n m : Nat) : Int)) ∧ w' = w := by
  by_cases h : n < m
  · rw [show max n m = m from by omega]
    go_enter Try.func9, Try.ntmps9
    go_wp2
    go_ret
    exact ⟨rfl, rfl⟩
  · rw [show max n m = n from by omega]
    go_enter Try.func9, Try.ntmps9
    go_wp2
    go_ret
    exact ⟨rfl, rfl⟩
set_option maxHeartbeats 400000 in
theorem vals_any (a q : Option Addr) (n c m d : Nat) (F G : Nat → Int) (hn : n ≤ 1048576) (hm : m ≤ 1048576) (w : World) (hl : LS w a n F) (hr : LS w q m G) :
    Calls Try.prog 18 #[.slice a n c, .slice q m d] w fun e w' => e = .returned (.bool (sameB F n G m (max n m))) ∧ w' = w := by
  have HL : Hid (LS w a n F) := hl
  have HR : Hid (LS w q m G) := hr
  obtain ⟨k0, hk0⟩ : ∃ k0, k0 = max n m := ⟨_, rfl⟩
  have hkb : k0 ≤ 1048576 := by omega
  rw [← hk0]
  have HK : Hid (k0 = max n m) := hk0
  clear hl hr hk0
  go_enter Try.func18, Try.ntmps18
  go_wp2_with fail
  refine (maxlen_any a q n c m d _).mono ?_
  rintro e w1 ⟨rfl, rfl⟩
  rw [← HK.out]
  go_wp2
  go_loop [6] (fun i => ∃ (k : Nat), k ≤ k0 ∧ i = .int .i64 (k : Int) ∧ Hid (sameB F n G m k = true)) (fun i => k0 - (intOf i).toNat)
  case atStart => exact ⟨0, by omega, rfl, rfl⟩
  case round =>
    obtain ⟨k, hk, rfl, HS⟩ := hrel
    by_cases hlt : k < k0
    · have hii : (k : Int) < (k0 : Int) := by omega
      cases hv : (pt F n k != pt G m k) with
      | true =>
        have HF : Hid (sameB F n G m k0 = false) := same_fail hlt (by simpa using hv)
        go_wp2_with fail
        refine (at_any a n c k F _ HL.out).mono ?_
        rintro e w2 ⟨rfl, rfl⟩
        go_wp2_with fail
        refine (at_any q m d k G _ HR.out).mono ?_
        rintro e w3 ⟨rfl, rfl⟩
        go_wp2
        go_ret
        exact ⟨by rw [HF.out]; rfl, rfl⟩
      | false =>
        have HF : Hid (sameB F n G m (k + 1) = true) := same_step HS.out (by simpa using hv)
        go_wp2_with fail
        refine (at_any a n c k F _ HL.out).mono ?_
        rintro e w2 ⟨rfl, rfl⟩
        go_wp2_with fail
        refine (at_any q m d k G _ HR.out).mono ?_
        rintro e w3 ⟨rfl, rfl⟩
        go_wp2
        go_round
        case rel => exact ⟨k + 1, by omega, by go_num, HF⟩
        case measure => simp [intOf]; omega
    · obtain rfl : k = k0 := by omega
      go_wp2
      go_ret
      exact ⟨by rw [HS.out]; rfl, rfl⟩
set_option maxRecDepth 100000 in
set_option maxHeartbeats 1000000 in
theorem order_core (a b c : Option Addr) (n m l ca cb cc : Nat) (F G H : Nat → Int) (hn : n ≤ 32768) (hm : m ≤ 32768) (hl : l ≤ 32768) (hF : Rg F n) (hG : Rg G m) (hH : Rg H l) (w : World)
    (h1 : Came w a n ca F) (h2 : Came w b m cb G) (h3 : Came w c l cc H) :
    Calls Try.prog 5 #[.slice a n ca, .slice b m cb, .slice c l cc] w fun e w' => e = .returned (.bool true) ∧ Below w.heap.size w w' := by
  have H1 : Hid (Came w a n ca F) := h1
  have H2 : Hid (Came w b m cb G) := h2
  have H3 : Hid (Came w c l cc H) := h3
  have HF : Hid (Rg F n) := hF
  have HG : Hid (Rg G m) := hG
  have HH : Hid (Rg H l) := hH
  clear h1 h2 h3 hF hG hH
  go_enter Try.func5, Try.ntmps5
  go_wp2_with (first | (go_at_call 17; go_in))
  go_wp2_with fail
  refine (clone_came a n ca F (by omega) _ H1.out).mono ?_
  rintro e w1 ⟨⟨a1, c1, rfl, hl1⟩, hb1⟩
  have L1 : Hid (LS w1 a1 n F) := hl1
  have B1 : Hid (Below w.heap.size w w1) := hb1
  clear hl1 hb1
  go_wp2_with fail
  refine (clone_came b m cb G (by omega) _ (H2.out.below B1.out)).mono ?_
  rintro e w2 ⟨⟨a2, c2, rfl, hl2⟩, hb2⟩
  have L1' : Hid (LS w2 a1 n F) := L1.out.below hb2
  have L2 : Hid (LS w2 a2 m G) := hl2
  have B2 : Hid (Below w.heap.size w w2) := B1.out.trans (hb2.mono B1.out.size)
  clear hl2 hb2 L1 B1
  go_wp2_with fail
  refine (clone_came c l cc H (by omega) _ (H3.out.below B2.out)).mono ?_
  rintro e w3 ⟨⟨a3, c3, rfl, hl3⟩, hb3⟩
  have M1 : Hid (LS w3 a1 n F) := L1'.out.below hb3
  have M2 : Hid (LS w3 a2 m G) := L2.out.below hb3
  have M3 : Hid (LS w3 a3 l H) := hl3
  have B3 : Hid (Below w.heap.size w w3) := B2.out.trans (hb3.mono B2.out.size)
  clear hl3 hb3 L1' L2 B2 H1 H2 H3
  go_wp2_with fail
  refine (make_any a1 n c1 _).mono ?_
  rintro e w4 ⟨rfl, hb4⟩
  have N1 : Hid (LS w4 a1 n F) := M1.out.below hb4
  have N2 : Hid (LS w4 a2 m G) := M2.out.below hb4
  have N3 : Hid (LS w4 a3 l H) := M3.out.below hb4
  have B4 : Hid (Below w.heap.size w w4) := B3.out.trans (hb4.mono B3.out.size)
  obtain ⟨W4, hW4, hB4, hz4, hp4⟩ := var_new w4 (.slice a1 n c1)
  have HW4 : Hid (Below w4.heap.size w4 W4) := hB4
  have HP4 : Hid (W4.cell? ⟨w4.heap.size, 0, none⟩ = some (.slice a1 n c1)) := hp4
  have HZ4 : Hid (W4.heap.size = w4.heap.size + 1) := hz4
  clear hb4 M1 M2 M3 B3 hB4 hz4 hp4
  go_wp2_with fail
  refine (make_any a2 m c2 _).mono ?_
  rintro e w5 ⟨rfl, hb5⟩
  have hs5 : w4.heap.size < w5.heap.size := by have := hb5.size; have := HZ4.out; omega
  have Q1 : Hid (w5.cell? ⟨w4.heap.size, 0, none⟩ = some (.slice a1 n c1)) := (hb5.cell (p := ⟨w4.heap.size, 0, none⟩) (by show w4.heap.size < _; rw [HZ4.out]; omega)).trans HP4.out
  have HB45 : Hid (Below w4.heap.size w4 w5) := HW4.out.trans (hb5.mono HW4.out.size)
  have N1' : Hid (LS w5 a1 n F) := N1.out.below HB45.out
  have N2' : Hid (LS w5 a2 m G) := N2.out.below HB45.out
  have N3' : Hid (LS w5 a3 l H) := N3.out.below HB45.out
  have B5 : Hid (Below w.heap.size w w5) := B4.out.trans (HB45.out.mono B4.out.size)
  clear hW4 HW4 HP4 HZ4 N1 N2 N3 B4 HB45 hb5
  obtain ⟨W5, hW5, hB5, hz5, hp5⟩ := var_new w5 (.slice a2 m c2)
  have HW5 : Hid (Below w5.heap.size w5 W5) := hB5
  have HP5 : Hid (W5.cell? ⟨w5.heap.size, 0, none⟩ = some (.slice a2 m c2)) := hp5
  have HZ5 : Hid (W5.heap.size = w5.heap.size + 1) := hz5
  clear hB5 hz5 hp5
  go_wp2_with fail
  refine (make_any a3 l c3 _).mono ?_
  rintro e w6 ⟨rfl, hb6⟩
  have hs6 : w5.heap.size < w6.heap.size := by have := hb6.size; have := HZ5.out; omega
  have HB56 : Hid (Below w5.heap.size w5 w6) := HW5.out.trans (hb6.mono HW5.out.size)
  have Q1' : Hid (w6.cell? ⟨w4.heap.size, 0, none⟩ = some (.slice a1 n c1)) := (HB56.out.cell (p := ⟨w4.heap.size, 0, none⟩) hs5).trans Q1.out
  have Q2 : Hid (w6.cell? ⟨w5.heap.size, 0, none⟩ = some (.slice a2 m c2)) := (hb6.cell (p := ⟨w5.heap.size, 0, none⟩) (by show w5.heap.size < _; rw [HZ5.out]; omega)).trans HP5.out
  have O1 : Hid (LS w6 a1 n F) := N1'.out.below HB56.out
  have O2 : Hid (LS w6 a2 m G) := N2'.out.below HB56.out
  have O3 : Hid (LS w6 a3 l H) := N3'.out.below HB56.out
  have B6 : Hid (Below w.heap.size w w6) := B5.out.trans (HB56.out.mono B5.out.size)
  clear hW5 HW5 HP5 HZ5 N1' N2' N3' B5 HB56 hb6 Q1
  obtain ⟨W6, hW6, hB6, hz6, hp6⟩ := var_new w6 (.slice a3 l c3)
  have r1 : W6.cell? ⟨w4.heap.size, 0, none⟩ = some (.slice a1 n c1) := (hB6.cell (p := ⟨w4.heap.size, 0, none⟩) (by show w4.heap.size < _; omega)).trans Q1'.out
  have r2 : W6.cell? ⟨w5.heap.size, 0, none⟩ = some (.slice a2 m c2) := (hB6.cell (p := ⟨w5.heap.size, 0, none⟩) (by show w5.heap.size < _; omega)).trans Q2.out
  have HP6 : Hid (W6.cell? ⟨w6.heap.size, 0, none⟩ = some (.slice a3 l c3)) := hp6
  have HZ6 : Hid (W6.heap.size = w6.heap.size + 1) := hz6
  have P1 : Hid (LS W6 a1 n F) := O1.out.below hB6
  have P2 : Hid (LS W6 a2 m G) := O2.out.below hB6
  have P3 : Hid (LS W6 a3 l H) := O3.out.below hB6
  have B6' : Hid (Below w.heap.size w W6) := B6.out.trans (hB6.mono B6.out.size)
  clear O1 O2 O3 B6 Q1' Q2 hB6 hz6 hp6
  have hz6b : w6.heap.size + 1 ≤ W6.heap.size := by rw [HZ6.out]; omega
  have KP : Hid (∀ X, Below W6.heap.size W6 X → X.cell? ⟨w4.heap.size, 0, none⟩ = some (.slice a1 n c1) ∧ X.cell? ⟨w5.heap.size, 0, none⟩ = some (.slice a2 m c2) ∧ X.cell? ⟨w6.heap.size, 0, none⟩ = some (.slice a3 l c3)) := fun X hb =>
    ⟨(hb.cell (p := ⟨w4.heap.size, 0, none⟩) (by show w4.heap.size < _; omega)).trans r1, (hb.cell (p := ⟨w5.heap.size, 0, none⟩) (by show w5.heap.size < _; omega)).trans r2, (hb.cell (p := ⟨w6.heap.size, 0, none⟩) (by show w6.heap.size < _; omega)).trans HP6.out⟩
  have K11 : Hid (∀ X, Below W6.heap.size W6 X → Calls Try.prog 16 #[.agg #[.slice a1 n c1], .agg #[.slice a1 n c1]] X fun e w' => e = .returned (.bool true) ∧ Below W6.heap.size W6 w') := fun X hX =>
    (covers_any a1 a1 n c1 n c1 F F (by omega) (by omega) X (P1.out.below hX) (P1.out.below hX)).mono fun e w' ⟨he, hb⟩ => ⟨by rw [he, cov_refl HF.out.nn], hX.trans (hb.mono hX.size)⟩
  have K1N : Hid (∀ X, Below W6.heap.size W6 X → Calls Try.prog 16 #[.agg #[.slice a1 n c1], .agg #[.slice none 0 0]] X fun e w' => e = .returned (.bool true) ∧ Below W6.heap.size W6 w') := fun X hX =>
    (covers_zero a1 none n c1 0 X).mono fun e w' ⟨he, hb⟩ => ⟨he, hX.trans (hb.mono hX.size)⟩
  have KN : Hid (∀ X, Below W6.heap.size W6 X → Calls Try.prog 12 #[.slice none 0 0] X fun e w' => e = .returned (.agg #[.slice none 0 0]) ∧ Below W6.heap.size W6 w') := fun X hX =>
    (make_any none 0 0 X).mono fun e w' ⟨he, hb⟩ => ⟨he, hX.trans (hb.mono hX.size)⟩
  have K12 : Hid (∀ X, Below W6.heap.size W6 X → Calls Try.prog 16 #[.agg #[.slice a1 n c1], .agg #[.slice a2 m c2]] X fun e w' => e = .returned (.bool (covB F n G m)) ∧ Below W6.heap.size W6 w') := fun X hX =>
    (covers_any a1 a2 n c1 m c2 F G (by omega) (by omega) X (P1.out.below hX) (P2.out.below hX)).mono fun e w' ⟨he, hb⟩ => ⟨he, hX.trans (hb.mono hX.size)⟩
  have K21 : Hid (∀ X, Below W6.heap.size W6 X → Calls Try.prog 16 #[.agg #[.slice a2 m c2], .agg #[.slice a1 n c1]] X fun e w' => e = .returned (.bool (covB G m F n)) ∧ Below W6.heap.size W6 w') := fun X hX =>
    (covers_any a2 a1 m c2 n c1 G F (by omega) (by omega) X (P2.out.below hX) (P1.out.below hX)).mono fun e w' ⟨he, hb⟩ => ⟨he, hX.trans (hb.mono hX.size)⟩
  have K23 : Hid (∀ X, Below W6.heap.size W6 X → Calls Try.prog 16 #[.agg #[.slice a2 m c2], .agg #[.slice a3 l c3]] X fun e w' => e = .returned (.bool (covB G m H l)) ∧ Below W6.heap.size W6 w') := fun X hX =>
    (covers_any a2 a3 m c2 l c3 G H (by omega) (by omega) X (P2.out.below hX) (P3.out.below hX)).mono fun e w' ⟨he, hb⟩ => ⟨he, hX.trans (hb.mono hX.size)⟩
  have K13 : Hid (∀ X, Below W6.heap.size W6 X → Calls Try.prog 16 #[.agg #[.slice a1 n c1], .agg #[.slice a3 l c3]] X fun e w' => e = .returned (.bool (covB F n H l)) ∧ Below W6.heap.size W6 w') := fun X hX =>
    (covers_any a1 a3 n c1 l c3 F H (by omega) (by omega) X (P1.out.below hX) (P3.out.below hX)).mono fun e w' ⟨he, hb⟩ => ⟨he, hX.trans (hb.mono hX.size)⟩
  have KS : Hid (∀ X, Below W6.heap.size W6 X → Calls Try.prog 18 #[.slice a1 n c1, .slice a2 m c2] X fun e w' => e = .returned (.bool (covB F n G m && covB G m F n)) ∧ Below W6.heap.size W6 w') := fun X hX =>
    (vals_any a1 a2 n c1 m c2 F G (by omega) (by omega) X (P1.out.below hX) (P2.out.below hX)).mono fun e w' ⟨he, hw⟩ => ⟨by rw [he, same_le HF.out.nn HG.out.nn (by omega) (by omega)], hw ▸ hX⟩
  have HT : Hid (covB F n G m = true → covB G m H l = true → covB F n H l = true) := fun h1 h2 => cov_trans HF.out.nn HG.out.nn h1 h2
  clear P1 P2 P3 HF HG HH HP6 HZ6 hz6b
  go_wp2_with fail
  refine (K11.out _ (Below.refl _ _)).mono ?_
  rintro e X1 ⟨rfl, hX1⟩
  have HX1 : Hid (Below W6.heap.size W6 X1) := hX1
  obtain ⟨s1, s2, s3⟩ := KP.out X1 hX1
  clear hX1 r1 r2 hW6
  go_wp2
  refine region_class (fun X => Below W6.heap.size W6 X) (by kernel_rfl) (by kernel_rfl) HX1.out.drew ?_
  refine wpQuiet_step (fun K hK => ?_)
  go_simp
  refine ⟨.agg #[.slice a1 n c1], fun X hX => ?_, hK _ ?_⟩
  · obtain ⟨q1, q2, q3⟩ := KP.out X hX; go_simp
  clear hK K
  refine wpQuiet_step (fun K hK => ?_)
  go_simp
  refine ⟨.agg #[.slice none 0 0], fun X hX => ?_, hK _ ?_⟩
  · exact KN.out X hX
  clear hK K
  refine wpQuiet_step (fun K hK => ?_)
  go_simp
  refine ⟨.bool true, fun X hX => ?_, hK _ ?_⟩
  · exact K1N.out X hX
  clear hK K
  refine wpQuiet_step (fun K hK => ?_)
  go_simp
  refine ⟨.bool false, fun X hX => ?_, hK _ ?_⟩
  · first | go_simp | exact ⟨rfl, rfl⟩
  clear hK K
  refine wpQuiet_nil ?_
  intro X2 hX2
  have HX2 : Hid (Below W6.heap.size W6 X2) := hX2
  obtain ⟨t1, t2, t3⟩ := KP.out X2 hX2
  clear s1 s2 s3 hX2 K11 KN K1N HX1
  cases hb1 : covB F n G m with
  | false =>
    rw [hb1] at K12 KS
    clear hb1 HT
    go_wp2_with fail
    refine (K12.out _ HX2.out).mono ?_
    rintro e Y1 ⟨rfl, hY1⟩
    have HY1 : Hid (Below W6.heap.size W6 Y1) := hY1
    obtain ⟨u1Y1, u2Y1, u3Y1⟩ := KP.out Y1 hY1
    clear hY1
    go_wp2_with fail
    have KS' := KS.out; simp only [Bool.false_and] at KS'; have KT : Hid _ := KS'; clear KS'
    refine (KT.out _ HY1.out).mono ?_
    rintro e Y2 ⟨rfl, hY2⟩
    have HY2 : Hid (Below W6.heap.size W6 Y2) := hY2
    obtain ⟨u1Y2, u2Y2, u3Y2⟩ := KP.out Y2 hY2
    clear hY2
    go_wp2_with fail
    refine (K12.out _ HY2.out).mono ?_
    rintro e Y3 ⟨rfl, hY3⟩
    have HY3 : Hid (Below W6.heap.size W6 Y3) := hY3
    obtain ⟨u1Y3, u2Y3, u3Y3⟩ := KP.out Y3 hY3
    clear hY3
    go_wp2
    go_ret
    exact ⟨rfl, B6'.out.trans (HY3.out.mono B6'.out.size)⟩
  | true =>
    cases hb3 : covB G m H l with
    | false =>
      rw [hb1] at K12 KS
      rw [hb3] at K23
      clear hb1 hb3 HT
      cases hb2 : covB G m F n with
      | false =>
        rw [hb2] at K21 KS
        clear hb2
        go_wp2_with fail
        refine (K12.out _ HX2.out).mono ?_
        rintro e Y1 ⟨rfl, hY1⟩
        have HY1 : Hid (Below W6.heap.size W6 Y1) := hY1
        obtain ⟨u1Y1, u2Y1, u3Y1⟩ := KP.out Y1 hY1
        clear hY1
        go_wp2_with fail
        refine (K21.out _ HY1.out).mono ?_
        rintro e Y2 ⟨rfl, hY2⟩
        have HY2 : Hid (Below W6.heap.size W6 Y2) := hY2
        obtain ⟨u1Y2, u2Y2, u3Y2⟩ := KP.out Y2 hY2
        clear hY2
        have KS' := KS.out; simp only [Bool.true_and] at KS'; have KT : Hid _ := KS'; clear KS'
        go_wp2_with fail
        refine (KT.out _ HY2.out).mono ?_
        rintro e Y3 ⟨rfl, hY3⟩
        have HY3 : Hid (Below W6.heap.size W6 Y3) := hY3
        obtain ⟨u1Y3, u2Y3, u3Y3⟩ := KP.out Y3 hY3
        clear hY3
        go_wp2_with fail
        refine (K12.out _ HY3.out).mono ?_
        rintro e Y4 ⟨rfl, hY4⟩
        have HY4 : Hid (Below W6.heap.size W6 Y4) := hY4
        obtain ⟨u1Y4, u2Y4, u3Y4⟩ := KP.out Y4 hY4
        clear hY4
        go_wp2_with fail
        refine (K23.out _ HY4.out).mono ?_
        rintro e Y5 ⟨rfl, hY5⟩
        have HY5 : Hid (Below W6.heap.size W6 Y5) := hY5
        obtain ⟨u1Y5, u2Y5, u3Y5⟩ := KP.out Y5 hY5
        clear hY5
        go_wp2
        go_ret
        exact ⟨rfl, B6'.out.trans (HY5.out.mono B6'.out.size)⟩
      | true =>
        rw [hb2] at K21 KS
        clear hb2
        go_wp2_with fail
        refine (K12.out _ HX2.out).mono ?_
        rintro e Y1 ⟨rfl, hY1⟩
        have HY1 : Hid (Below W6.heap.size W6 Y1) := hY1
        obtain ⟨u1Y1, u2Y1, u3Y1⟩ := KP.out Y1 hY1
        clear hY1
        go_wp2_with fail
        refine (K21.out _ HY1.out).mono ?_
        rintro e Y2 ⟨rfl, hY2⟩
        have HY2 : Hid (Below W6.heap.size W6 Y2) := hY2
        obtain ⟨u1Y2, u2Y2, u3Y2⟩ := KP.out Y2 hY2
        clear hY2
        have KS' := KS.out; simp only [Bool.true_and] at KS'; have KT : Hid _ := KS'; clear KS'
        go_wp2_with fail
        refine (KT.out _ HY2.out).mono ?_
        rintro e Y3 ⟨rfl, hY3⟩
        have HY3 : Hid (Below W6.heap.size W6 Y3) := hY3
        obtain ⟨u1Y3, u2Y3, u3Y3⟩ := KP.out Y3 hY3
        clear hY3
        go_wp2_with fail
        refine (K12.out _ HY3.out).mono ?_
        rintro e Y4 ⟨rfl, hY4⟩
        have HY4 : Hid (Below W6.heap.size W6 Y4) := hY4
        obtain ⟨u1Y4, u2Y4, u3Y4⟩ := KP.out Y4 hY4
        clear hY4
        go_wp2_with fail
        refine (K23.out _ HY4.out).mono ?_
        rintro e Y5 ⟨rfl, hY5⟩
        have HY5 : Hid (Below W6.heap.size W6 Y5) := hY5
        obtain ⟨u1Y5, u2Y5, u3Y5⟩ := KP.out Y5 hY5
        clear hY5
        go_wp2
        go_ret
        exact ⟨rfl, B6'.out.trans (HY5.out.mono B6'.out.size)⟩
    | true =>
      have ht := HT.out hb1 hb3
      rw [hb1] at K12 KS
      rw [hb3] at K23
      rw [ht] at K13
      clear hb1 hb3 HT ht
      cases hb2 : covB G m F n with
      | false =>
        rw [hb2] at K21 KS
        clear hb2
        go_wp2_with fail
        refine (K12.out _ HX2.out).mono ?_
        rintro e Y1 ⟨rfl, hY1⟩
        have HY1 : Hid (Below W6.heap.size W6 Y1) := hY1
        obtain ⟨u1Y1, u2Y1, u3Y1⟩ := KP.out Y1 hY1
        clear hY1
        go_wp2_with fail
        refine (K21.out _ HY1.out).mono ?_
        rintro e Y2 ⟨rfl, hY2⟩
        have HY2 : Hid (Below W6.heap.size W6 Y2) := hY2
        obtain ⟨u1Y2, u2Y2, u3Y2⟩ := KP.out Y2 hY2
        clear hY2
        have KS' := KS.out; simp only [Bool.true_and] at KS'; have KT : Hid _ := KS'; clear KS'
        go_wp2_with fail
        refine (KT.out _ HY2.out).mono ?_
        rintro e Y3 ⟨rfl, hY3⟩
        have HY3 : Hid (Below W6.heap.size W6 Y3) := hY3
        obtain ⟨u1Y3, u2Y3, u3Y3⟩ := KP.out Y3 hY3
        clear hY3
        go_wp2_with fail
        refine (K12.out _ HY3.out).mono ?_
        rintro e Y4 ⟨rfl, hY4⟩
        have HY4 : Hid (Below W6.heap.size W6 Y4) := hY4
        obtain ⟨u1Y4, u2Y4, u3Y4⟩ := KP.out Y4 hY4
        clear hY4
        go_wp2_with fail
        refine (K23.out _ HY4.out).mono ?_
        rintro e Y5 ⟨rfl, hY5⟩
        have HY5 : Hid (Below W6.heap.size W6 Y5) := hY5
        obtain ⟨u1Y5, u2Y5, u3Y5⟩ := KP.out Y5 hY5
        clear hY5
        go_wp2_with fail
        refine (K13.out _ HY5.out).mono ?_
        rintro e Y6 ⟨rfl, hY6⟩
        have HY6 : Hid (Below W6.heap.size W6 Y6) := hY6
        obtain ⟨u1Y6, u2Y6, u3Y6⟩ := KP.out Y6 hY6
        clear hY6
        go_wp2
        go_ret
        exact ⟨rfl, B6'.out.trans (HY6.out.mono B6'.out.size)⟩
      | true =>
        rw [hb2] at K21 KS
        clear hb2
        go_wp2_with fail
        refine (K12.out _ HX2.out).mono ?_
        rintro e Y1 ⟨rfl, hY1⟩
        have HY1 : Hid (Below W6.heap.size W6 Y1) := hY1
        obtain ⟨u1Y1, u2Y1, u3Y1⟩ := KP.out Y1 hY1
        clear hY1
        go_wp2_with fail
        refine (K21.out _ HY1.out).mono ?_
        rintro e Y2 ⟨rfl, hY2⟩
        have HY2 : Hid (Below W6.heap.size W6 Y2) := hY2
        obtain ⟨u1Y2, u2Y2, u3Y2⟩ := KP.out Y2 hY2
        clear hY2
        have KS' := KS.out; simp only [Bool.true_and] at KS'; have KT : Hid _ := KS'; clear KS'
        go_wp2_with fail
        refine (KT.out _ HY2.out).mono ?_
        rintro e Y3 ⟨rfl, hY3⟩
        have HY3 : Hid (Below W6.heap.size W6 Y3) := hY3
        obtain ⟨u1Y3, u2Y3, u3Y3⟩ := KP.out Y3 hY3
        clear hY3
        go_wp2_with fail
        refine (K12.out _ HY3.out).mono ?_
        rintro e Y4 ⟨rfl, hY4⟩
        have HY4 : Hid (Below W6.heap.size W6 Y4) := hY4
        obtain ⟨u1Y4, u2Y4, u3Y4⟩ := KP.out Y4 hY4
        clear hY4
        go_wp2_with fail
        refine (K23.out _ HY4.out).mono ?_
        rintro e Y5 ⟨rfl, hY5⟩
        have HY5 : Hid (Below W6.heap.size W6 Y5) := hY5
        obtain ⟨u1Y5, u2Y5, u3Y5⟩ := KP.out Y5 hY5
        clear hY5
        go_wp2_with fail
        refine (K13.out _ HY5.out).mono ?_
        rintro e Y6 ⟨rfl, hY6⟩
        have HY6 : Hid (Below W6.heap.size W6 Y6) := hY6
        obtain ⟨u1Y6, u2Y6, u3Y6⟩ := KP.out Y6 hY6
        clear hY6
        go_wp2
        go_ret
        exact ⟨rfl, B6'.out.trans (HY6.out.mono B6'.out.size)⟩
end Go.Proofs.Qxb6604163a.Lbl
