/-
  THE LAW's WALK: Merge is the least upper bound.
-/
import Derived.Test.Qxb6604163aCame
namespace Go.Proofs.Qxb6604163a.Lbl
open Go.RowKit
set_option linter.unusedVariables false

set_option maxRecDepth 100000 in
set_option maxHeartbeats 1000000 in
theorem lub_core (a b c : Option Addr) (n m l ca cb cc : Nat) (F G H : Nat → Int) (hn : n ≤ 32768) (hm : m ≤ 32768) (hl : l ≤ 32768) (hF : Rg F n) (hG : Rg G m) (hH : Rg H l) (w : World)
    (h1 : Came w a n ca F) (h2 : Came w b m cb G) (h3 : Came w c l cc H) :
    Calls Try.prog 4 #[.slice a n ca, .slice b m cb, .slice c l cc] w fun e w' => e = .returned (.bool true) ∧ Below w.heap.size w w' := by
  have H1 : Hid (Came w a n ca F) := h1
  have H2 : Hid (Came w b m cb G) := h2
  have H3 : Hid (Came w c l cc H) := h3
  have HF : Hid (Rg F n) := hF
  have HG : Hid (Rg G m) := hG
  have HH : Hid (Rg H l) := hH
  clear h1 h2 h3 hF hG hH
  go_enter Try.func4, Try.ntmps4
  go_wp2_with (first | (go_at_call 15; go_in))
  go_wp2_with fail
  refine (clone_came a n ca F (by omega) _ H1.out).mono ?_
  rintro e w1 ⟨⟨a1, c1, rfl, hl1⟩, hb1⟩
  have L1 : Hid (LS w1 a1 n F) := hl1
  have B1 : Hid (Below w.heap.size w w1) := hb1
  clear hl1 hb1
  go_wp2_with fail
  refine (clone_came b m cb G (by omega) _ (H2.out.below B1.out)).mono ?_
  rintro e w2 ⟨⟨a2, c2, rfl, hl2⟩, hb2⟩
  have L1' : Hid (LS w2 a1 n F) := L1.out.below hb2
  have L2 : Hid (LS w2 a2 m G) := hl2
  have B2 : Hid (Below w.heap.size w w2) := B1.out.trans (hb2.mono B1.out.size)
  clear hl2 hb2 L1 B1
  go_wp2_with fail
  refine (clone_came c l cc H (by omega) _ (H3.out.below B2.out)).mono ?_
  rintro e w3 ⟨⟨a3, c3, rfl, hl3⟩, hb3⟩
  have M1 : Hid (LS w3 a1 n F) := L1'.out.below hb3
  have M2 : Hid (LS w3 a2 m G) := L2.out.below hb3
  have M3 : Hid (LS w3 a3 l H) := hl3
  have B3 : Hid (Below w.heap.size w w3) := B2.out.trans (hb3.mono B2.out.size)
  clear hl3 hb3 L1' L2 B2 H1 H2 H3
  go_wp2_with fail
  refine (make_any a1 n c1 _).mono ?_
  rintro e w4 ⟨rfl, hb4⟩
  have N1 : Hid (LS w4 a1 n F) := M1.out.below hb4
  have N2 : Hid (LS w4 a2 m G) := M2.out.below hb4
  have N3 : Hid (LS w4 a3 l H) := M3.out.below hb4
  have B4 : Hid (Below w.heap.size w w4) := B3.out.trans (hb4.mono B3.out.size)
  obtain ⟨W4, hW4, hB4, hz4, hp4⟩ := var_new w4 (.slice a1 n c1)
  have HW4 : Hid (Below w4.heap.size w4 W4) := hB4
  have HP4 : Hid (W4.cell? ⟨w4.heap.size, 0, none⟩ = some (.slice a1 n c1)) := hp4
  have HZ4 : Hid (W4.heap.size = w4.heap.size + 1) := hz4
  clear hb4 M1 M2 M3 B3 hB4 hz4 hp4
  go_wp2_with fail
  refine (make_any a2 m c2 _).mono ?_
  rintro e w5 ⟨rfl, hb5⟩
  have hs5 : w4.heap.size < w5.heap.size := by have := hb5.size; have := HZ4.out; omega
  have Q1 : Hid (w5.cell? ⟨w4.heap.size, 0, none⟩ = some (.slice a1 n c1)) := (hb5.cell (p := ⟨w4.heap.size, 0, none⟩) (by show w4.heap.size < _; rw [HZ4.out]; omega)).trans HP4.out
  have HB45 : Hid (Below w4.heap.size w4 w5) := HW4.out.trans (hb5.mono HW4.out.size)
  have N1' : Hid (LS w5 a1 n F) := N1.out.below HB45.out
  have N2' : Hid (LS w5 a2 m G) := N2.out.below HB45.out
  have N3' : Hid (LS w5 a3 l H) := N3.out.below HB45.out
  have B5 : Hid (Below w.heap.size w w5) := B4.out.trans (HB45.out.mono B4.out.size)
  clear hW4 HW4 HP4 HZ4 N1 N2 N3 B4 HB45 hb5
  obtain ⟨W5, hW5, hB5, hz5, hp5⟩ := var_new w5 (.slice a2 m c2)
  have HW5 : Hid (Below w5.heap.size w5 W5) := hB5
  have HP5 : Hid (W5.cell? ⟨w5.heap.size, 0, none⟩ = some (.slice a2 m c2)) := hp5
  have HZ5 : Hid (W5.heap.size = w5.heap.size + 1) := hz5
  clear hB5 hz5 hp5
  go_wp2_with fail
  refine (make_any a3 l c3 _).mono ?_
  rintro e w6 ⟨rfl, hb6⟩
  have hs6 : w5.heap.size < w6.heap.size := by have := hb6.size; have := HZ5.out; omega
  have HB56 : Hid (Below w5.heap.size w5 w6) := HW5.out.trans (hb6.mono HW5.out.size)
  have Q1' : Hid (w6.cell? ⟨w4.heap.size, 0, none⟩ = some (.slice a1 n c1)) := (HB56.out.cell (p := ⟨w4.heap.size, 0, none⟩) hs5).trans Q1.out
  have Q2 : Hid (w6.cell? ⟨w5.heap.size, 0, none⟩ = some (.slice a2 m c2)) := (hb6.cell (p := ⟨w5.heap.size, 0, none⟩) (by show w5.heap.size < _; rw [HZ5.out]; omega)).trans HP5.out
  have O1 : Hid (LS w6 a1 n F) := N1'.out.below HB56.out
  have O2 : Hid (LS w6 a2 m G) := N2'.out.below HB56.out
  have O3 : Hid (LS w6 a3 l H) := N3'.out.below HB56.out
  have B6 : Hid (Below w.heap.size w w6) := B5.out.trans (HB56.out.mono B5.out.size)
  clear hW5 HW5 HP5 HZ5 N1' N2' N3' B5 HB56 hb6 Q1
  obtain ⟨W6, hW6, hB6, hz6, hp6⟩ := var_new w6 (.slice a3 l c3)
  have r1 : W6.cell? ⟨w4.heap.size, 0, none⟩ = some (.slice a1 n c1) := (hB6.cell (p := ⟨w4.heap.size, 0, none⟩) (by show w4.heap.size < _; omega)).trans Q1'.out
  have r2 : W6.cell? ⟨w5.heap.size, 0, none⟩ = some (.slice a2 m c2) := (hB6.cell (p := ⟨w5.heap.size, 0, none⟩) (by show w5.heap.size < _; omega)).trans Q2.out
  have HP6 : Hid (W6.cell? ⟨w6.heap.size, 0, none⟩ = some (.slice a3 l c3)) := hp6
  have HZ6 : Hid (W6.heap.size = w6.heap.size + 1) := hz6
  have P1 : Hid (LS W6 a1 n F) := O1.out.below hB6
  have P2 : Hid (LS W6 a2 m G) := O2.out.below hB6
  have P3 : Hid (LS W6 a3 l H) := O3.out.below hB6
  have B6' : Hid (Below w.heap.size w W6) := B6.out.trans (hB6.mono B6.out.size)
  clear O1 O2 O3 B6 Q1' Q2 hB6 hz6 hp6
  go_wp2_with fail
  refine (merge_any a1 a2 n c1 m c2 F G (by omega) (by omega) HF.out HG.out _ P1.out P2.out).mono ?_
  rintro e w7 ⟨a4, k, c4, M, rfl, hl4, hM, hk, hmax, _, hb7⟩
  have hk' : k ≤ 32768 := by omega
  have z7 : W6.heap.size ≤ w7.heap.size := hb7.size
  have t1 : Hid (w7.cell? ⟨w4.heap.size, 0, none⟩ = some (.slice a1 n c1)) := (hb7.cell (p := ⟨w4.heap.size, 0, none⟩) (by show w4.heap.size < _; rw [HZ6.out]; omega)).trans r1
  have t2 : Hid (w7.cell? ⟨w5.heap.size, 0, none⟩ = some (.slice a2 m c2)) := (hb7.cell (p := ⟨w5.heap.size, 0, none⟩) (by show w5.heap.size < _; rw [HZ6.out]; omega)).trans r2
  have t3 : Hid (w7.cell? ⟨w6.heap.size, 0, none⟩ = some (.slice a3 l c3)) := (hb7.cell (p := ⟨w6.heap.size, 0, none⟩) (by show w6.heap.size < _; rw [HZ6.out]; omega)).trans HP6.out
  have S1 : Hid (LS w7 a1 n F) := P1.out.below hb7
  have S2 : Hid (LS w7 a2 m G) := P2.out.below hb7
  have S3 : Hid (LS w7 a3 l H) := P3.out.below hb7
  have S4 : Hid (LS w7 a4 k M) := hl4
  have HMx : Hid (IsMax M k F n G m) := hmax
  have HMr : Hid (Rg M k) := hM
  have B7 : Hid (Below w.heap.size w w7) := B6'.out.trans (hb7.mono B6'.out.size)
  have hs7 : w6.heap.size < w7.heap.size := by have := HZ6.out; omega
  clear hW6 P1 P2 P3 B6' HP6 HZ6 r1 r2 hl4 hM hk hmax hb7 z7
  obtain ⟨W7, hW7, hB7, hz7, hp7⟩ := var_new w7 (.slice a4 k c4)
  have u1 : W7.cell? ⟨w4.heap.size, 0, none⟩ = some (.slice a1 n c1) := (hB7.cell (p := ⟨w4.heap.size, 0, none⟩) (by show w4.heap.size < _; omega)).trans t1.out
  have u2 : W7.cell? ⟨w5.heap.size, 0, none⟩ = some (.slice a2 m c2) := (hB7.cell (p := ⟨w5.heap.size, 0, none⟩) (by show w5.heap.size < _; omega)).trans t2.out
  have u3 : W7.cell? ⟨w6.heap.size, 0, none⟩ = some (.slice a3 l c3) := (hB7.cell (p := ⟨w6.heap.size, 0, none⟩) (by show w6.heap.size < _; omega)).trans t3.out
  have V1 : Hid (LS W7 a1 n F) := S1.out.below hB7
  have V2 : Hid (LS W7 a2 m G) := S2.out.below hB7
  have V3 : Hid (LS W7 a3 l H) := S3.out.below hB7
  have V4 : Hid (LS W7 a4 k M) := S4.out.below hB7
  have B8 : Hid (Below w.heap.size w W7) := B7.out.trans (hB7.mono B7.out.size)
  have hs8 : w7.heap.size < W7.heap.size := by omega
  clear S1 S2 S3 S4 B7 t1 t2 t3 hB7 hz7
  go_wp2_with fail
  refine (covers_any a4 a1 k c4 n c1 M F (by omega) (by omega) _ V4.out V1.out).mono ?_
  rintro e w8 ⟨rfl, hb8⟩
  rw [max_left HMr.out.nn HMx.out]
  have x1 := (hb8.cell (p := ⟨w4.heap.size, 0, none⟩) (by show w4.heap.size < _; omega)).trans u1
  have x2 := (hb8.cell (p := ⟨w5.heap.size, 0, none⟩) (by show w5.heap.size < _; omega)).trans u2
  have x3 := (hb8.cell (p := ⟨w6.heap.size, 0, none⟩) (by show w6.heap.size < _; omega)).trans u3
  have x4 := (hb8.cell (p := ⟨w7.heap.size, 0, none⟩) (by show w7.heap.size < _; omega)).trans hp7
  have X1 : Hid (LS w8 a1 n F) := V1.out.below hb8
  have X2 : Hid (LS w8 a2 m G) := V2.out.below hb8
  have X3 : Hid (LS w8 a3 l H) := V3.out.below hb8
  have X4 : Hid (LS w8 a4 k M) := V4.out.below hb8
  have B9 : Hid (Below w.heap.size w w8) := B8.out.trans (hb8.mono B8.out.size)
  have hs9 : W7.heap.size ≤ w8.heap.size := hb8.size
  clear hW7 u1 u2 u3 hp7 V1 V2 V3 V4 B8 hb8
  go_wp2_with fail
  refine (covers_any a4 a2 k c4 m c2 M G (by omega) (by omega) _ X4.out X2.out).mono ?_
  rintro e w9 ⟨rfl, hb9⟩
  rw [max_right HMr.out.nn HMx.out]
  have y1 := (hb9.cell (p := ⟨w4.heap.size, 0, none⟩) (by show w4.heap.size < _; omega)).trans x1
  have y2 := (hb9.cell (p := ⟨w5.heap.size, 0, none⟩) (by show w5.heap.size < _; omega)).trans x2
  have y3 := (hb9.cell (p := ⟨w6.heap.size, 0, none⟩) (by show w6.heap.size < _; omega)).trans x3
  have y4 := (hb9.cell (p := ⟨w7.heap.size, 0, none⟩) (by show w7.heap.size < _; omega)).trans x4
  have Y1 : Hid (LS w9 a1 n F) := X1.out.below hb9
  have Y2 : Hid (LS w9 a2 m G) := X2.out.below hb9
  have Y3 : Hid (LS w9 a3 l H) := X3.out.below hb9
  have Y4 : Hid (LS w9 a4 k M) := X4.out.below hb9
  have B10 : Hid (Below w.heap.size w w9) := B9.out.trans (hb9.mono B9.out.size)
  have hs10 : w8.heap.size ≤ w9.heap.size := hb9.size
  clear x1 x2 x3 x4 X1 X2 X3 X4 B9 hb9
  have K1 : Hid (∀ X, Below w9.heap.size w9 X → Calls Try.prog 16 #[.agg #[.slice a3 l c3], .agg #[.slice a1 n c1]] X fun e w' => e = .returned (.bool (covB H l F n)) ∧ Below w9.heap.size w9 w') := fun X hX =>
    (covers_any a3 a1 l c3 n c1 H F (by omega) (by omega) X (Y3.out.below hX) (Y1.out.below hX)).mono fun e w' ⟨he, hb⟩ => ⟨he, hX.trans (hb.mono hX.size)⟩
  have K2 : Hid (∀ X, Below w9.heap.size w9 X → Calls Try.prog 16 #[.agg #[.slice a3 l c3], .agg #[.slice a2 m c2]] X fun e w' => e = .returned (.bool (covB H l G m)) ∧ Below w9.heap.size w9 w') := fun X hX =>
    (covers_any a3 a2 l c3 m c2 H G (by omega) (by omega) X (Y3.out.below hX) (Y2.out.below hX)).mono fun e w' ⟨he, hb⟩ => ⟨he, hX.trans (hb.mono hX.size)⟩
  have K3 : Hid (∀ X, Below w9.heap.size w9 X → Calls Try.prog 16 #[.agg #[.slice a3 l c3], .agg #[.slice a4 k c4]] X fun e w' => e = .returned (.bool (covB H l M k)) ∧ Below w9.heap.size w9 w') := fun X hX =>
    (covers_any a3 a4 l c3 k c4 H M (by omega) (by omega) X (Y3.out.below hX) (Y4.out.below hX)).mono fun e w' ⟨he, hb⟩ => ⟨he, hX.trans (hb.mono hX.size)⟩
  have HQ : Hid ((covB H l F n && covB H l G m) = covB H l M k) := max_least HH.out.nn HMx.out
  clear Y1 Y2 Y3 Y4 HMx HMr HF HG HH
  go_wp2
  have KP : Hid (∀ X, Below w9.heap.size w9 X → X.cell? ⟨w4.heap.size, 0, none⟩ = some (.slice a1 n c1) ∧ X.cell? ⟨w5.heap.size, 0, none⟩ = some (.slice a2 m c2) ∧ X.cell? ⟨w6.heap.size, 0, none⟩ = some (.slice a3 l c3) ∧ X.cell? ⟨w7.heap.size, 0, none⟩ = some (.slice a4 k c4)) := fun X hb =>
    ⟨(hb.cell (p := ⟨w4.heap.size, 0, none⟩) (by show w4.heap.size < _; omega)).trans y1, (hb.cell (p := ⟨w5.heap.size, 0, none⟩) (by show w5.heap.size < _; omega)).trans y2, (hb.cell (p := ⟨w6.heap.size, 0, none⟩) (by show w6.heap.size < _; omega)).trans y3, (hb.cell (p := ⟨w7.heap.size, 0, none⟩) (by show w7.heap.size < _; omega)).trans y4⟩
  cases hd : covB H l F n with
  | true =>
    rw [hd] at K1 HQ
    go_region_held3 (fun w' => w'.cell? ⟨w4.heap.size, 0, none⟩ = some (.slice a1 n c1) ∧ w'.cell? ⟨w5.heap.size, 0, none⟩ = some (.slice a2 m c2) ∧ w'.cell? ⟨w6.heap.size, 0, none⟩ = some (.slice a3 l c3) ∧ w'.cell? ⟨w7.heap.size, 0, none⟩ = some (.slice a4 k c4)) (first | exact ⟨y1, y2, y3, y4⟩ | exact KP.out _ (by assumption) | exact KP.out _ (Below.drew (by assumption))) (first | (go_at_call_of 16 (Value.agg #[Value.slice a1 n c1]); refine (K1.out _ ?_).mono ?_; (first | exact Below.refl _ _ | exact (Below.refl _ _).drew | assumption | exact Below.drew (by assumption)); rintro e w' ⟨rfl, hb⟩) | (go_at_call_of 16 (Value.agg #[Value.slice a2 m c2]); refine (K2.out _ ?_).mono ?_; (first | exact Below.refl _ _ | exact (Below.refl _ _).drew | assumption | exact Below.drew (by assumption)); rintro e w' ⟨rfl, hb⟩) | (go_at_call_of 16 (Value.agg #[Value.slice a4 k c4]); refine (K3.out _ ?_).mono ?_; (first | exact Below.refl _ _ | exact (Below.refl _ _).drew | assumption | exact Below.drew (by assumption)); rintro e w' ⟨rfl, hb⟩))
    have HQ2 : Hid (covB H l G m = covB H l M k) := by have := HQ.out; show _ = _; simpa using this
    go_wp2
    go_ret
    exact ⟨by rw [HQ2.out]; simp, B10.out.trans (Below.mono (by assumption) B10.out.size)⟩
  | false =>
    rw [hd] at K1 HQ
    have hq : covB H l M k = false := by have := HQ.out; simpa using this.symm
    rw [hq] at K3
    clear hq HQ
    refine region_class (fun X => Below w9.heap.size w9 X) (by kernel_rfl) (by kernel_rfl) (Below.refl _ _).drew ?_
    refine wpQuiet_step (fun K hK => ?_)
    go_simp
    refine ⟨.agg #[.slice a3 l c3], fun X hX => ?_, hK _ ?_⟩
    · obtain ⟨q1, q2, q3, q4⟩ := KP.out X hX; go_simp
    clear hK K
    refine wpQuiet_step (fun K hK => ?_)
    go_simp
    refine ⟨.agg #[.slice a1 n c1], fun X hX => ?_, hK _ ?_⟩
    · obtain ⟨q1, q2, q3, q4⟩ := KP.out X hX; go_simp
    clear hK K
    refine wpQuiet_step (fun K hK => ?_)
    go_simp
    refine ⟨.bool false, fun X hX => ?_, hK _ ?_⟩
    · exact K1.out X hX
    clear hK K
    refine wpQuiet_step (fun K hK => ?_)
    go_simp
    refine ⟨.bool false, fun X hX => ?_, hK _ ?_⟩
    · first | go_simp | exact ⟨rfl, rfl⟩
    clear hK K
    refine wpQuiet_step (fun K hK => ?_)
    go_simp
    refine hK _ ?_
    clear hK K
    refine wpQuiet_step (fun K hK => ?_)
    go_simp
    refine hK _ ?_
    clear hK K
    refine wpQuiet_step (fun K hK => ?_)
    go_simp
    refine hK _ ?_
    clear hK K
    refine wpQuiet_step (fun K hK => ?_)
    go_simp
    refine ⟨.bool false, fun X hX => ?_, hK _ ?_⟩
    · first | go_simp | exact ⟨rfl, rfl⟩
    clear hK K
    refine wpQuiet_step (fun K hK => ?_)
    go_simp
    refine ⟨.agg #[.slice a3 l c3], fun X hX => ?_, hK _ ?_⟩
    · obtain ⟨q1, q2, q3, q4⟩ := KP.out X hX; go_simp
    clear hK K
    refine wpQuiet_step (fun K hK => ?_)
    go_simp
    refine ⟨.agg #[.slice a4 k c4], fun X hX => ?_, hK _ ?_⟩
    · obtain ⟨q1, q2, q3, q4⟩ := KP.out X hX; go_simp
    clear hK K
    refine wpQuiet_step (fun K hK => ?_)
    go_simp
    refine ⟨.bool false, fun X hX => ?_, hK _ ?_⟩
    · exact K3.out X hX
    clear hK K
    refine wpQuiet_step (fun K hK => ?_)
    go_simp
    refine ⟨.bool true, fun X hX => ?_, hK _ ?_⟩
    · first | go_simp | exact ⟨rfl, rfl⟩
    clear hK K
    refine wpQuiet_step (fun K hK => ?_)
    go_simp
    refine ⟨.bool true, fun X hX => ?_, hK _ ?_⟩
    · first | go_simp | exact ⟨rfl, rfl⟩
    clear hK K
    refine wpQuiet_nil ?_
    intro X hX
    go_wp2
    go_ret
    exact ⟨rfl, B10.out.trans (hX.mono B10.out.size)⟩
end Go.Proofs.Qxb6604163a.Lbl
