/-
  THE WALK OF stableSortByHighBits.
-/
import Derived.Test.Qxb6604140aSortSmall
namespace Go.Proofs.Qxb6604140a.Srt
open Go.RowKit

theorem add_plain (p i : Nat) : (⟨p, 0, none⟩ : Addr).add i = ⟨p, i, none⟩ := by simp [Addr.add]; exact fun h => h.symm

theorem smaller_any (a b r : Int) (h : (a < b ∧ r = a) ∨ (¬ a < b ∧ r = b)) (w : World) :
    Calls Try.prog 29 #[.int .i64 a, .int .i64 b] w fun e w' => e = .returned (.int .i64 r) ∧ w' = w := by
  rcases h with ⟨h, rfl⟩ | ⟨h, rfl⟩
  · go_enter Try.func29, Try.ntmps29
    go_wp2
    go_ret
    exact ⟨rfl, rfl⟩
  · go_enter Try.func29, Try.ntmps29
    go_wp2
    go_ret
    exact ⟨rfl, rfl⟩

/-! ### One step of the merge, on functions -/
theorem mstep_l {K : Int → Int} {S E : Nat → Int} {lo mid hi i j k : Nat} {M : List Int} (hi1 : i < mid) (hk : lo ≤ k) (hc : j < hi → K (S i) ≤ K (S j))
    (h : seg E lo (k - lo) ++ mrg K (seg S i (mid - i)) (seg S j (hi - j)) = M) :
    seg (fun x => if x = k then S i else E x) lo (k + 1 - lo) ++ mrg K (seg S (i + 1) (mid - (i + 1))) (seg S j (hi - j)) = M := by
  rw [show k + 1 - lo = k - lo + 1 from by omega, seg_snoc, show lo + (k - lo) = k from by omega, if_pos rfl]
  rw [seg_congr (g := E) (fun x h1 h2 => if_neg (by omega))]
  rw [← h, List.append_assoc]
  congr 1
  rw [show mid - i = (mid - (i + 1)) + 1 from by omega]
  simp only [seg, List.singleton_append]
  by_cases c : j < hi
  · rw [show hi - j = (hi - (j + 1)) + 1 from by omega]
    simp only [seg]
    rw [mrg_left _ _ (hc c)]
  · rw [show hi - j = 0 from by omega]
    simp only [seg]
    rw [mrg_nil_right, mrg_nil_right]
theorem mstep_r {K : Int → Int} {S E : Nat → Int} {lo mid hi i j k : Nat} {M : List Int} (hj : j < hi) (hk : lo ≤ k) (hc : i < mid → K (S j) < K (S i))
    (h : seg E lo (k - lo) ++ mrg K (seg S i (mid - i)) (seg S j (hi - j)) = M) :
    seg (fun x => if x = k then S j else E x) lo (k + 1 - lo) ++ mrg K (seg S i (mid - i)) (seg S (j + 1) (hi - (j + 1))) = M := by
  rw [show k + 1 - lo = k - lo + 1 from by omega, seg_snoc, show lo + (k - lo) = k from by omega, if_pos rfl]
  rw [seg_congr (g := E) (fun x h1 h2 => if_neg (by omega))]
  rw [← h, List.append_assoc]
  congr 1
  rw [show hi - j = (hi - (j + 1)) + 1 from by omega]
  simp only [seg, List.singleton_append]
  by_cases c : i < mid
  · rw [show mid - i = (mid - (i + 1)) + 1 from by omega]
    simp only [seg]
    rw [mrg_right _ _ (by have := hc c; omega)]
  · rw [show mid - i = 0 from by omega]
    simp only [seg]
    rw [mrg_nil_left, mrg_nil_left]
theorem Row.put {w : World} {b n : Nat} {E : Nat → Int} (h : Row w b n E) (k : Nat) (v : Int) : Row (w.setCell ⟨b, k, none⟩ (.int .u64 v)) b n (fun x => if x = k then v else E x) :=
  (World.rowIs.set h k (.int .u64 v)).congr fun i _ => by by_cases e : i = k <;> simp [e]
theorem Row.draws {w : World} {b n : Nat} {E : Nat → Int} (h : Row w b n E) (m : Nat) : Row (w.drewN m) b n E := h
theorem below_draws {B : Nat} {a w : World} (h : Below B a w) (m : Nat) : Below B a (w.drewN m) := ⟨h.os, h.tape, h.output, h.size, h.block⟩
/-- The chunk that has been merged, and those before it, in the row as it stands. -/
theorem chunks_next {K : Int → Int} {S S0 D E : Nat → Int} {n W q lo : Nat} (HC : CH K S S0 n W) (hlo : lo = q * (2 * W)) (hn : lo < n)
    (HQ : ∀ c, c < q → SS K (chk D n (2 * W) c) (chk S0 n (2 * W) c)) (HX : ∀ x, x < lo → E x = D x)
    (HE : seg E lo (min (lo + 2 * W) n - lo) = mrg K (seg S lo (min (lo + W) n - lo)) (seg S (min (lo + W) n) (min (lo + 2 * W) n - min (lo + W) n))) :
    ∀ c, c < q + 1 → SS K (chk E n (2 * W) c) (chk S0 n (2 * W) c) := by
  intro c hc
  by_cases e : c = q
  · subst e; exact chk_two HC hlo hn HE
  · have hlt : c < q := by omega
    have hm : c * (2 * W) + 2 * W ≤ q * (2 * W) := by
      have := Nat.mul_le_mul_right (2 * W) (show c + 1 ≤ q by omega)
      rw [Nat.add_mul] at this; omega
    have : chk E n (2 * W) c = chk D n (2 * W) c := seg_congr fun x h1 h2 => HX x (by omega)
    rw [this]; exact HQ c hlt
theorem chunks_all {K : Int → Int} {S0 D : Nat → Int} {n W q lo : Nat} (hlo : lo = q * (2 * W)) (hn : n ≤ lo) (HQ : ∀ c, c < q → SS K (chk D n (2 * W) c) (chk S0 n (2 * W) c)) : CH K D S0 n (2 * W) := by
  intro c
  by_cases h : c < q
  · exact HQ c h
  · have : q * (2 * W) ≤ c * (2 * W) := Nat.mul_le_mul_right _ (by omega)
    rw [chk_out (by omega), chk_out (by omega)]; exact SS_nil _
/-- Whatever chunks are stably sorted, the values come from the old row. -/
theorem CH_range {K : Int → Int} {S0 D : Nat → Int} {n W : Nat} (hW : 1 ≤ W) (h : CH K D S0 n W) {P : Int → Prop} (hP : ∀ i, i < n → P (S0 i)) : ∀ i, i < n → P (D i) := by
  intro i hi
  have hc := h (i / W)
  have hq : i / W * W ≤ i := Nat.div_mul_le_self i W
  have hr : i < i / W * W + W := by have := Nat.lt_div_mul_add (a := i) (b := W) (by omega); omega
  have hm : D i ∈ chk D n W (i / W) := by
    unfold chk
    obtain ⟨r, hr2⟩ : ∃ r, i = i / W * W + r := ⟨i - i / W * W, by omega⟩
    have hg := seg_get D (min (i / W * W + W) n - i / W * W) (i / W * W) r (by omega)
    rw [← hr2] at hg
    exact List.mem_of_getElem? hg
  have hm2 := (SS_mem hc _).1 hm
  unfold chk at hm2
  obtain ⟨x, h1, h2, h3⟩ := mem_seg hm2
  rw [← h3]
  exact hP x (by omega)

set_option maxRecDepth 100000 in
set_option maxHeartbeats 4000000 in
theorem stable_any (p n bit : Nat) (S0 : Nat → Int) (hn0 : 1 ≤ n) (hn : n ≤ 131072) (_hbit : bit ≤ 9223372036854775807) (w : World) (hp : ∀ i, i < n → w.cell? ⟨p, i, none⟩ = some (.int .u64 (S0 i)))
    (hS0 : ∀ i, i < n → 0 ≤ S0 i ∧ S0 i < 18446744073709551616) :
    Calls Try.prog 23 #[.slice (some ⟨p, 0, none⟩) n n, .int .i64 (bit : Int)] w fun e w' => ∃ (r : Nat) (S : Nat → Int), e = .returned (.slice (some ⟨r, 0, none⟩) n n) ∧ w.heap.size ≤ r ∧ Row w' r n S ∧ SS (ky bit) (seg S 0 n) (seg S0 0 n) ∧ Below w.heap.size w w' := by
  have hmk := run_make_row' (P := Try.prog) 37 23 (.int .u64 0) 8 Try.underlying37 info23 rfl .i64 .i64 n (by omega) (by omega)
  have Hp : Hid (∀ i, i < n → w.cell? ((⟨p, 0, none⟩ : Addr).add i) = some (.int .u64 (S0 i))) := fun i hi => by rw [add_plain]; exact hp i hi
  have HS : Hid (∀ i, i < n → 0 ≤ S0 i ∧ S0 i < 18446744073709551616) := hS0
  clear hp hS0
  go_enter Try.func23, Try.ntmps23
  go_wp2_with fail
  refine (clone_any ⟨p, 0, none⟩ n n S0 (by omega) _ Hp.out).mono ?_
  rintro e w1 ⟨rfl, hrow, hb1⟩
  have HR1 : Hid (Row w1 w.heap.size n S0) := hrow
  have hz1 : w.heap.size < w1.heap.size := hrow.lt
  clear hrow
  go_wp2_with fail
  go_loopw [6, 7, 8] (fun s d wd wr => ∃ (W gs gd : Nat) (S D : Nat → Int), 1 ≤ W ∧ W ≤ 2 * n ∧ s = .slice (some ⟨gs, 0, none⟩) n n ∧ d = .slice (some ⟨gd, 0, none⟩) n n ∧ wd = .int .i64 (W : Int) ∧ Hid (gs ≠ gd) ∧ w.heap.size ≤ gs ∧ w.heap.size ≤ gd ∧
      Hid (Row wr gs n S) ∧ Hid (Row wr gd n D) ∧ Hid (CH (ky bit) S S0 n W) ∧ Hid (∀ i, i < n → 0 ≤ S i ∧ S i < 18446744073709551616) ∧ Below w.heap.size w wr) (fun _ _ wd _ => 2 * n - (intOf wd).toNat)
  case atStart =>
    have hm := World.rowIs_made w1 (.int .u64 0) n 23
    exact ⟨1, w.heap.size, w1.heap.size, S0, fun _ => 0, by omega, by omega, rfl, rfl, rfl, (show _ ≠ _ by omega), by omega, by omega, HR1.out.alloc _, hm, CH_one _ _ _, HS, hb1.alloc (by omega) _⟩
  case round =>
    obtain ⟨W, gs, gd, S, D, hW1, hW2, rfl, rfl, rfl, Hne, hgs, hgd, HRs, HRd, HC, HSr, hbw⟩ := hrel
    obtain ⟨wo, rfl⟩ : ∃ wo : World, wo = wr := ⟨_, rfl⟩
    by_cases hWn : W < n
    · go_wp2_with fail
      go_loopw [9] (fun l wr => ∃ (q lo : Nat) (D : Nat → Int), lo ≤ n + 2 * W ∧ l = .int .i64 (lo : Int) ∧ Hid (lo = q * (2 * W)) ∧ Hid (Row wr gs n S) ∧ Hid (Row wr gd n D) ∧ Hid (∀ c, c < q → SS (ky bit) (chk D n (2 * W) c) (chk S0 n (2 * W) c)) ∧ Below w.heap.size w wr)
        (fun l _ => n + 2 * W - (intOf l).toNat)
      case atStart => exact ⟨0, 0, D, by omega, rfl, (show 0 = 0 * (2 * W) by omega), HRs, HRd, (fun c hc => by omega), hbw⟩
      case round =>
        clear HRs HRd hbw
        obtain ⟨q, lo, D, hlo, rfl, Hlo, HRs, HRd, HQ, hbw⟩ := hrel
        obtain ⟨w2, rfl⟩ : ∃ w2 : World, w2 = wr := ⟨_, rfl⟩
        by_cases hln : lo < n
        · obtain ⟨mid, hmid⟩ : ∃ mid, mid = min (lo + W) n := ⟨_, rfl⟩
          obtain ⟨hi, hhi⟩ : ∃ hi, hi = min (lo + 2 * W) n := ⟨_, rfl⟩
          have m1 : lo ≤ mid := by omega
          have m2 : mid ≤ hi := by omega
          have m3 : hi ≤ n := by omega
          have HM : Hid (mid = min (lo + W) n) := hmid
          have HH : Hid (hi = min (lo + 2 * W) n) := hhi
          clear hmid hhi
          go_wp2_with fail
          refine (smaller_any _ _ (mid : Int) (by have := HM.out; omega) _).mono ?_
          rintro e w3 ⟨rfl, rfl⟩
          go_wp2_with fail
          refine (smaller_any _ _ (hi : Int) (by have := HH.out; omega) _).mono ?_
          rintro e w3 ⟨rfl, rfl⟩
          go_wp2_with fail
          go_loopw [12, 13, 14] (fun a b c wr => ∃ (i j k : Nat) (E : Nat → Int), lo ≤ i ∧ i ≤ mid ∧ mid ≤ j ∧ j ≤ hi ∧ k ≤ hi ∧ lo ≤ k ∧ a = .int .i64 (i : Int) ∧ b = .int .i64 (j : Int) ∧ c = .int .i64 (k : Int) ∧ Hid (k + mid = i + j) ∧
              Hid (Row wr gs n S) ∧ Hid (Row wr gd n E) ∧ Hid (∀ x, x < lo → E x = D x) ∧ Hid (seg E lo (k - lo) ++ mrg (ky bit) (seg S i (mid - i)) (seg S j (hi - j)) = mrg (ky bit) (seg S lo (mid - lo)) (seg S mid (hi - mid))) ∧ Below w.heap.size w wr)
            (fun _ _ c _ => n - (intOf c).toNat)
          case atStart => exact ⟨lo, mid, lo, D, by omega, by omega, by omega, by omega, by omega, by omega, rfl, rfl, rfl, rfl, HRs, HRd, fun x _ => rfl, (show _ = _ by rw [Nat.sub_self]; rfl), hbw⟩
          case round =>
            clear HRs HRd hbw
            obtain ⟨i, j, k, E, hi1, hi2, hj1, hj2, hk1, hk2, rfl, rfl, rfl, HK, HRs, HRd, HX, HE, hbw⟩ := hrel
            obtain ⟨w3, rfl⟩ : ∃ w3 : World, w3 = wr := ⟨_, rfl⟩
            by_cases hkh : k < hi
            · have ci : i < mid → w3.cell? ⟨gs, i, none⟩ = some (.int .u64 (S i)) := fun h => HRs.out.cell (by omega)
              have cj : j < hi → w3.cell? ⟨gs, j, none⟩ = some (.int .u64 (S j)) := fun h => HRs.out.cell (by omega)
              have ck : w3.cell? ⟨gd, k, none⟩ = some (.int .u64 (E k)) := HRd.out.cell (by omega)
              have fk : w3.frozen? ⟨gd, k, none⟩ = false := HRd.out.frozen k
              by_cases c1 : i < mid
              · have ci' := ci c1
                have d1 : (i : Int) < (mid : Int) := by omega
                have d3 : (i : Int) < (n : Int) := by omega
                obtain ⟨s0, s1⟩ := HSr.out i (by omega)
                by_cases c2 : j < hi
                · have cj' := cj c2
                  obtain ⟨t0, t1⟩ := HSr.out j (by omega)
                  have d2 : decide ((hi : Int) ≤ (j : Int)) = false := by simp; omega
                  have d4 : (j : Int) < (n : Int) := by omega
                  by_cases c3 : S i / 2 ^ min bit 64 ≤ S j / 2 ^ min bit 64
                  · have HCMP : j < hi → ky bit (S i) ≤ ky bit (S j) := fun _ => c3
                    clear ci cj
                    go_wp2_with fail
                    go_quiet (fail)
                    go_wp2
                    go_roundw
                    case rel => exact ⟨i + 1, j, k + 1, _, by omega, by omega, by omega, by omega, by omega, by omega, by go_num, by go_num, by go_num, (show _ = _ by have := HK.out; omega), (HRs.out.draws _).setOther Hne.out _, (HRd.out.draws _).put k (S i), fun x hx => by rw [if_neg (by omega)]; exact HX.out x hx, mstep_l c1 hk2 HCMP HE.out, (below_draws hbw _).setCell (by simpa using hgd) _⟩
                    case measure => simp [intOf]; omega
                  · have HCMP : Hid (i < mid → ky bit (S j) < ky bit (S i)) := fun _ => by unfold ky; omega
                    have HJ : j < hi := c2
                    clear ci cj
                    go_wp2_with fail
                    go_quiet (fail)
                    go_wp2
                    go_roundw
                    case rel => exact ⟨i, j + 1, k + 1, _, by omega, by omega, by omega, by omega, by omega, by omega, by go_num, by go_num, by go_num, (show _ = _ by have := HK.out; omega), (HRs.out.draws _).setOther Hne.out _, (HRd.out.draws _).put k (S j), fun x hx => by rw [if_neg (by omega)]; exact HX.out x hx, mstep_r HJ hk2 HCMP.out HE.out, (below_draws hbw _).setCell (by simpa using hgd) _⟩
                    case measure => simp [intOf]; omega
                · have d2 : (hi : Int) ≤ (j : Int) := by omega
                  have HCMP : j < hi → ky bit (S i) ≤ ky bit (S j) := fun h => absurd h c2
                  clear ci cj
                  go_wp2_with fail
                  go_quiet (fail)
                  go_wp2
                  go_roundw
                  case rel => exact ⟨i + 1, j, k + 1, _, by omega, by omega, by omega, by omega, by omega, by omega, by go_num, by go_num, by go_num, (show _ = _ by have := HK.out; omega), (HRs.out.draws _).setOther Hne.out _, (HRd.out.draws _).put k (S i), fun x hx => by rw [if_neg (by omega)]; exact HX.out x hx, mstep_l c1 hk2 HCMP HE.out, (below_draws hbw _).setCell (by simpa using hgd) _⟩
                  case measure => simp [intOf]; omega
              · have d1 : decide ((i : Int) < (mid : Int)) = false := by simp; omega
                have HJ : j < hi := by have := HK.out; omega
                have cj' := cj HJ
                have d4 : (j : Int) < (n : Int) := by omega
                have HCMP : Hid (i < mid → ky bit (S j) < ky bit (S i)) := fun h => absurd h c1
                have c2 := HJ
                clear ci cj
                go_wp2_with fail
                go_quiet (fail)
                go_wp2
                go_roundw
                case rel => exact ⟨i, j + 1, k + 1, _, by omega, by omega, by omega, by omega, by omega, by omega, by go_num, by go_num, by go_num, (show _ = _ by have := HK.out; omega), (HRs.out.draws _).setOther Hne.out _, (HRd.out.draws _).put k (S j), fun x hx => by rw [if_neg (by omega)]; exact HX.out x hx, mstep_r HJ hk2 HCMP.out HE.out, (below_draws hbw _).setCell (by simpa using hgd) _⟩
                case measure => simp [intOf]; omega
            · have HFIN : Hid (seg E lo (min (lo + 2 * W) n - lo) = mrg (ky bit) (seg S lo (min (lo + W) n - lo)) (seg S (min (lo + W) n) (min (lo + 2 * W) n - min (lo + W) n))) := by
                have h1 := HE.out
                have h2 := HK.out
                rw [show mid - i = 0 from by omega, show hi - j = 0 from by omega, show k - lo = hi - lo from by omega] at h1
                rw [show mrg (ky bit) (seg S i 0) (seg S j 0) = [] from mrg_nil_left _ _, List.append_nil] at h1
                rw [← HM.out, ← HH.out]
                exact h1
              go_wp2
              go_roundw
              case rel => exact ⟨q + 1, lo + 2 * W, E, by omega, by go_num, (show _ = _ by rw [Nat.add_mul, ← Hlo.out]; omega), HRs, HRd, chunks_next HC.out Hlo.out hln HQ.out HX.out HFIN.out, hbw⟩
              case measure => simp [intOf]; omega
        · have HC2 : Hid (CH (ky bit) D S0 n (2 * W)) := chunks_all Hlo.out (by omega) HQ.out
          go_wp2
          go_roundw
          case rel => exact ⟨2 * W, gd, gs, D, S, by omega, by omega, rfl, rfl, by go_num, (show _ ≠ _ from fun e => Hne.out e.symm), hgd, hgs, HRd, HRs, HC2, CH_range (P := fun x => 0 ≤ x ∧ x < 18446744073709551616) (by omega) HC2.out HS.out, hbw⟩
          case measure => simp [intOf]; omega
    · go_wp2
      go_ret
      exact ⟨gs, S, rfl, hgs, HRs.out, CH_whole HC.out (by omega), hbw⟩
end Go.Proofs.Qxb6604140a.Srt
