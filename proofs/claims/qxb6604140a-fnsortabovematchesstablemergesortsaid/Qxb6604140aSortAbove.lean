import Derived.Test.Qxb6604140aSortStable
import Derived.BigRegion
namespace Go.Proofs.Qxb6604140a.Srt
open Go.RowKit
/-- The zero value of [2048]int, behind a name. -/
def Z47 : Array Value := Array.replicate 2048 (.int .i64 0)
theorem zero47 (w : World) : (zeroValue 47).run Try.prog w = .ok (.agg Z47) w := by kernel_rfl
theorem alen47 : Try.prog.arrayLen 47 = 2048 := by kernel_rfl
theorem elem47 : Try.prog.elem 47 = 3 := by kernel_rfl
theorem info47 : (Try.prog.info? 47).map (·.size) = some 2048 := by kernel_rfl
theorem und47 : Try.prog.underlying 47 = some (.array (Try.prog.arrayLen 47) (Try.prog.elem 47)) := by kernel_rfl
theorem und47' : Try.prog.underlying 47 = some (.array 2048 3) := by kernel_rfl
theorem size3 (w : World) : (sizeOf 3).run Try.prog w = .ok 1 w := by kernel_rfl

theorem run_whole (w : World) (s : Nat) : (Instr.sliceAt 47 (.pointer (some ⟨s, 0, none⟩)) none none none).run Try.prog w = .ok (.slice (some ⟨s, 0, none⟩) 2048 2048) w := by
  rw [run_sliceAt_array_all w 47 _ und47, elem47, size3]
  simp [slicedAt, alen47, Result.andThen, Addr.add]

theorem run_at (w : World) (arr : Array Value) (k : Nat) (v : Int) (hk : k < 2048) (h : arr[k]? = some (.int .i64 v)) : (Instr.index 47 (.agg arr) (.int .i64 (k : Int))).run Try.prog w = .ok (.int .i64 v) w := by
  simp [Instr.index, asIntOf, run_underlying und47', hk, part, h]

theorem starts_new (w : World) : (w.alloc (.cells Z47 47)).rowIs w.heap.size 47 2048 (fun _ => .int .i64 0) := by
  have h : Z47.size = 2048 := by simp [Z47]
  have := World.rowIs_alloc w Z47 47 (fun _ => .int .i64 0) (fun i hi => by rw [h] at hi; simp [Z47, hi])
  rwa [h] at this

theorem and2047 (x : Int) (h0 : 0 ≤ x) (h1 : x < 18446744073709551616) : bits .and .u64 x 2047 = x % 2048 := by
  have e : (2 : Int) ^ 64 = 18446744073709551616 := by decide
  have := bits_mask .u64 64 (by decide) (fun n a b => IntWalk.u64_in n ⟨a, by omega⟩) 11 (by decide) x h0 (by omega)
  exact this

theorem grown_set {w w' : World} {b : Nat} (h : w.grownBy w' (some b)) {a : Addr} (ha : a.block = b ∨ w.heap.size ≤ a.block) (v : Value) : w.grownBy (w'.setCell a v) (some b) :=
  ⟨h.os, h.tape, h.output, by have := h.size; simpa [World.setCell] using this, fun k hk hne => by
    rw [heap_setCell_other _ _ _ _ (by rintro rfl; rcases ha with e | e
                                       · exact hne (by rw [e])
                                       · omega)]
    exact h.block k hk hne⟩
theorem grown_alloc {w w' : World} {b : Option Nat} (h : w.grownBy w' b) (o : Obj) : w.grownBy (w'.alloc o) b :=
  ⟨h.os, h.tape, h.output, by have := h.size; show _ ≤ (w'.heap.push o).size; simp; omega, fun k hk hne => by
    rw [Below.heap_alloc _ _ _ (by have := h.size; omega)]
    exact h.block k hk hne⟩
theorem grown_drew {w w' : World} {b : Option Nat} (h : w.grownBy w' b) : w.grownBy w'.drew b := ⟨h.os, h.tape, h.output, h.size, h.block⟩

/-- One count more. -/
theorem count_step {w : World} {s m e : Nat} {d : Int → Int} {F : Nat → Int} (h : w.rowIs s 47 2048 (fun x => .int .i64 (cnt d (seg F 0 m) x : Int))) (he : d (F m) = (e : Int)) :
    (w.setCell ⟨s, e, none⟩ (.int .i64 ((cnt d (seg F 0 m) e : Int) + 1))).rowIs s 47 2048 (fun x => .int .i64 (cnt d (seg F 0 (m + 1)) x : Int)) := by
  refine (h.set e _).congr fun x _ => ?_
  rw [seg_snoc, Nat.zero_add]
  by_cases c : x = e
  · subst c; rw [if_pos rfl, cnt_snoc_same he]; congr 1
  · rw [if_neg c, cnt_snoc_other (by omega)]
/-- One start laid. -/
theorem start_step {w : World} {s e : Nat} {d : Int → Int} {l : List Int} (h : w.rowIs s 47 2048 (fun x => .int .i64 (if x < e then (base d l x : Int) else (cnt d l x : Int)))) :
    (w.setCell ⟨s, e, none⟩ (.int .i64 (base d l e : Int))).rowIs s 47 2048 (fun x => .int .i64 (if x < e + 1 then (base d l x : Int) else (cnt d l x : Int))) := by
  refine (h.set e _).congr fun x _ => ?_
  by_cases c : x = e
  · subst c; rw [if_pos rfl, if_pos (by omega)]
  · rw [if_neg c]
    by_cases c2 : x < e
    · rw [if_pos c2, if_pos (by omega)]
    · rw [if_neg c2, if_neg (by omega)]
/-- One start moved on. -/
theorem move_step {w : World} {s m n e : Nat} {d : Int → Int} {F : Nat → Int} (h : w.rowIs s 47 2048 (fun x => .int .i64 ((base d (seg F 0 n) x : Int) + (cnt d (seg F 0 m) x : Int)))) (he : d (F m) = (e : Int)) {P : Nat} (hP : base d (seg F 0 n) e + cnt d (seg F 0 m) e = P) :
    (w.setCell ⟨s, e, none⟩ (.int .i64 ((P : Int) + 1))).rowIs s 47 2048 (fun x => .int .i64 ((base d (seg F 0 n) x : Int) + (cnt d (seg F 0 (m + 1)) x : Int))) := by
  refine (h.set e _).congr fun x _ => ?_
  rw [seg_snoc, Nat.zero_add]
  by_cases c : x = e
  · subst c; rw [if_pos rfl, cnt_snoc_same he, ← hP]; congr 1
  · rw [if_neg c, cnt_snoc_other (by omega)]
theorem dig_nat (Bt : Nat) (x : Int) : ∃ e : Nat, dg Bt x = (e : Int) ∧ e < 2048 := ⟨(dg Bt x).toNat, by have := dg_bd Bt x; omega, by have := dg_bd Bt x; omega⟩
theorem bits_dig {Bt : Nat} {x : Int} {e : Nat} (h0 : 0 ≤ x) (h1 : x < 18446744073709551616) (he : dg Bt x = (e : Int)) : bits .and .u64 (x / 2 ^ Bt) 2047 = (e : Int) := by
  have hp := pow_pos2 Bt
  have a : 0 ≤ x / 2 ^ Bt := Int.ediv_nonneg h0 (Int.le_of_lt hp)
  have b : x / 2 ^ Bt ≤ x := Int.ediv_le_self _ h0
  rw [and2047 _ a (by omega), ← he]; rfl
theorem base_le (d : Int → Int) (F : Nat → Int) (n : Nat) (hd : ∀ x, 0 ≤ d x ∧ d x < ((2048 : Nat) : Int)) {e : Nat} (he : e ≤ 2048) : base d (seg F 0 n) e ≤ n := by
  have := base_mono d (seg F 0 n) he
  rw [base_all hd] at this
  exact this

set_option maxRecDepth 100000 in
set_option maxHeartbeats 4000000 in
theorem sort_any (b n bit : Nat) (L0 : Nat → Int) (hn0 : 1 ≤ n) (hn : n ≤ 131072) (hbit : bit ≤ 9223372036854775807) (w : World) (hr : Row w b n L0) (hL0 : ∀ i, i < n → 0 ≤ L0 i ∧ L0 i < 18446744073709551616) :
    Calls Try.prog 30 #[.slice (some ⟨b, 0, none⟩) n n, .int .i64 (bit : Int)] w fun e w' => e = .returned (.tuple #[]) ∧ ∃ R, Row w' b n R ∧ SS (ky bit) (seg R 0 n) (seg L0 0 n) ∧ w.grownBy w' (some b) := by
  have hmk := run_make_row' (P := Try.prog) 37 23 (.int .u64 0) 8 Try.underlying37 info23 rfl .i64 .i64 n (by omega) (by omega)
  have HR0 : Hid (Row w b n L0) := hr
  have hbl : b < w.heap.size := hr.lt
  have HL : Hid (∀ i, i < n → 0 ≤ L0 i ∧ L0 i < 18446744073709551616) := hL0
  clear hr hL0
  go_enter Try.func30, Try.ntmps30
  go_wp2
  go_region
  go_wp2
  go_loopw [1, 4, 5] (fun bt fr to wr => ∃ (j Bt f g : Nat) (F G : Nat → Int), Bt ≤ 9223372036854775807 ∧ bt = .int .i64 (Bt : Int) ∧ Hid (Bt = bit + 11 * j) ∧ fr = .slice (some ⟨f, 0, none⟩) n n ∧ to = .slice (some ⟨g, 0, none⟩) n n ∧
      Hid ((f = b ∧ g = w.heap.size) ∨ (f = w.heap.size ∧ g = b)) ∧ Hid (Row wr f n F) ∧ Hid (Row wr g n G) ∧ Hid (SS (kj bit j) (seg F 0 n) (seg L0 0 n)) ∧ Hid (∀ i, i < n → 0 ≤ F i ∧ F i < 18446744073709551616) ∧ Hid (w.grownBy wr (some b))) (fun bt _ _ _ => (64 - intOf bt).toNat)
  case atStart =>
    exact ⟨0, bit, b, w.heap.size, L0, fun _ => 0, by omega, rfl, rfl, rfl, rfl, .inl ⟨rfl, rfl⟩, (HR0.out.alloc _).drew, (World.rowIs_made w (.int .u64 0) n 23).drew, SS_refl_const (kj_zero bit), HL, grown_drew (grown_alloc ⟨rfl, rfl, rfl, Nat.le_refl _, fun _ _ _ => rfl⟩ _)⟩
  case round =>
    obtain ⟨j, Bt, f, g, F, G, hBt, rfl, HB, rfl, rfl, HFG, HRf, HRg, HSS, HFr, HG⟩ := hrel
    obtain ⟨wo, rfl⟩ : ∃ wo : World, wo = wr := ⟨_, rfl⟩
    by_cases h64 : Bt < 64
    · have hz := zero47
      have hst := starts_new wo
      obtain ⟨s, hs⟩ : ∃ s, s = wo.heap.size := ⟨_, rfl⟩
      have HST : Hid ((wo.alloc (.cells Z47 47)).rowIs s 47 2048 (fun e => .int .i64 (cnt (dg Bt) (seg F 0 0) e : Int))) := by rw [hs]; exact hst
      have hfs : f < wo.heap.size := HRf.out.lt
      have hgs : g < wo.heap.size := HRg.out.lt
      have hws : w.heap.size ≤ wo.heap.size := HG.out.size
      have HSs : Hid (s = wo.heap.size) := hs
      have hsf : Hid (s ≠ f) := by show s ≠ f; omega
      have hsg : Hid (s ≠ g) := by show s ≠ g; omega
      have hsw : w.heap.size ≤ s := by omega
      clear hst
      go_wp2_with fail
      rw [← hs]
      clear hs hfs hgs hws
      go_loopw [25] (fun i wr => ∃ m : Nat, m ≤ n ∧ i = .int .i64 (m : Int) ∧ Hid (Row wr f n F) ∧ Hid (Row wr g n G) ∧ Hid (wr.rowIs s 47 2048 (fun e => .int .i64 (cnt (dg Bt) (seg F 0 m) e : Int))) ∧ Hid (w.grownBy wr (some b))) (fun i _ => n - (intOf i).toNat)
      case atStart => exact ⟨0, by omega, rfl, HRf.out.alloc _, HRg.out.alloc _, HST, grown_alloc HG.out _⟩
      case round =>
        obtain ⟨m, hm, rfl, HRf1, HRg1, HST1, HG1⟩ := hrel
        obtain ⟨w1, rfl⟩ : ∃ w1 : World, w1 = wr := ⟨_, rfl⟩
        by_cases hmn : m < n
        · have c1 : w1.cell? ⟨f, m, none⟩ = some (.int .u64 (F m)) := HRf1.out.cell hmn
          obtain ⟨r0, r1⟩ := HFr.out m hmn
          obtain ⟨e, he, he2⟩ := dig_nat Bt (F m)
          have hbe := bits_dig r0 r1 he
          have HE : Hid (dg Bt (F m) = (e : Int)) := he
          have c2 : w1.cell? ⟨s, e, none⟩ = some (.int .i64 (cnt (dg Bt) (seg F 0 m) e : Int)) := HST1.out.cell he2
          have f2 : w1.frozen? ⟨s, e, none⟩ = false := HST1.out.frozen e
          have cl : cnt (dg Bt) (seg F 0 m) e ≤ m := by have := cnt_le (dg Bt) (seg F 0 m) e; rwa [seg_length] at this
          have hei : (e : Int) < 2048 := by omega
          clear he
          go_wp2
          go_roundw
          case rel => exact ⟨m + 1, by omega, by go_num, HRf1.out.setOther (Ne.symm hsf.out) _, HRg1.out.setOther (Ne.symm hsg.out) _, count_step HST1.out HE.out, grown_set HG1.out (.inr hsw) _⟩
          case measure => simp [intOf]; omega
        · obtain rfl : m = n := by omega
          have hsl := fun W => run_whole W s
          go_wp2_with fail
          refine (contains_any s 2048 (fun e => (cnt (dg Bt) (seg F 0 m) e : Int)) (m : Int) (by omega) _ (fun i hi => HST1.out.cell hi)).mono ?_
          rintro e w2 ⟨rfl, rfl⟩
          cases hh : has (fun e => (cnt (dg Bt) (seg F 0 m) e : Int)) (m : Int) 2048 with
          | true =>
            obtain ⟨e, he, hce⟩ := has_says hh
            have HP : Hid (SS (kj bit (j + 1)) (seg F 0 m) (seg L0 0 m)) := by
              have h1 := SS_pass HSS.out
              rw [← HB.out, bks_one he (by rw [seg_length]; omega)] at h1
              exact h1
            clear hce
            go_wp2
            go_roundw
            case rel => exact ⟨j + 1, Bt + 11, f, g, F, G, by omega, by go_num, (show _ = _ by have := HB.out; omega), rfl, rfl, HFG, HRf1, HRg1, HP, HFr, HG1⟩
            case measure => simp [intOf]; omega
          | false =>
            obtain ⟨arr, harr, hasz, hac⟩ := HST1.out
            have Harr : Hid (_ = _) := harr
            have Hac : Hid (∀ i, i < 2048 → arr[i]? = some (.int .i64 (cnt (dg Bt) (seg F 0 m) i : Int))) := hac
            have Hsz : Hid (arr.size = 2048) := hasz
            clear harr hac hasz
            go_wp2_with (refine wpList_load_row rfl 47 _ rfl s rfl 47 arr (0, 0) _ Harr.out Try.underlying47 rfl (by rw [info47, Hsz.out]) ?_)
            clear Harr
            go_loopw [9, 43] (fun sm i wr => ∃ e : Nat, e ≤ 2048 ∧ i = .int .i64 (e : Int) ∧ sm = .int .i64 (base (dg Bt) (seg F 0 m) e : Int) ∧ Hid (Row wr f m F) ∧ Hid (Row wr g m G) ∧ Hid (wr.rowIs s 47 2048 (fun x => .int .i64 (if x < e then (base (dg Bt) (seg F 0 m) x : Int) else (cnt (dg Bt) (seg F 0 m) x : Int)))) ∧ Hid (w.grownBy wr (some b)))
              (fun _ i _ => 2048 - (intOf i).toNat)
            case atStart => exact ⟨0, by omega, rfl, rfl, HRf1, HRg1, HST1, HG1⟩
            case round =>
              clear HRf1 HRg1 HST1 HG1
              obtain ⟨e, he, rfl, rfl, HRf1, HRg1, HST1, HG1⟩ := hrel
              obtain ⟨w3, rfl⟩ : ∃ w3 : World, w3 = wr := ⟨_, rfl⟩
              by_cases hlt : e < 2048
              · have hidx := fun W => run_at W arr e _ hlt (Hac.out e hlt)
                have c2 : w3.cell? ⟨s, e, none⟩ = some (.int .i64 (cnt (dg Bt) (seg F 0 m) e : Int)) := by rw [HST1.out.cell hlt]; simp
                have f2 : w3.frozen? ⟨s, e, none⟩ = false := HST1.out.frozen e
                have hb1 : base (dg Bt) (seg F 0 m) e + cnt (dg Bt) (seg F 0 m) e ≤ m := base_le (dg Bt) F m (dg_bd Bt) (show e + 1 ≤ 2048 by omega)
                have hei : (e : Int) < 2048 := by omega
                go_wp2
                go_roundw
                case rel => exact ⟨e + 1, by omega, by go_num, rfl, HRf1.out.setOther (Ne.symm hsf.out) _, HRg1.out.setOther (Ne.symm hsg.out) _, start_step HST1.out, grown_set HG1.out (.inr hsw) _⟩
                case measure => simp [intOf]; omega
              · obtain rfl : e = 2048 := by omega
                have HST2 : Hid (w3.rowIs s 47 2048 (fun x => .int .i64 ((base (dg Bt) (seg F 0 m) x : Int) + (cnt (dg Bt) (seg F 0 0) x : Int)))) := HST1.out.congr fun x hx => by rw [if_pos hx]; simp [seg, cnt_nil]
                clear HST1
                go_wp2_with fail
                go_loopw [56] (fun i wr => ∃ (q : Nat) (T : Nat → Int), q ≤ m ∧ i = .int .i64 (q : Int) ∧ Hid (Row wr f m F) ∧ Hid (Row wr g m T) ∧ Hid (wr.rowIs s 47 2048 (fun x => .int .i64 ((base (dg Bt) (seg F 0 m) x : Int) + (cnt (dg Bt) (seg F 0 q) x : Int)))) ∧
                    Hid (∀ x, x < 2048 → seg T (base (dg Bt) (seg F 0 m) x) (cnt (dg Bt) (seg F 0 q) x) = bk (dg Bt) (seg F 0 q) x) ∧ Hid (w.grownBy wr (some b))) (fun i _ => m - (intOf i).toNat)
                case atStart => exact ⟨0, G, by omega, rfl, HRf1, HRg1, HST2, fun x _ => rfl, HG1⟩
                case round =>
                  clear HRf1 HRg1 HST2 HG1
                  obtain ⟨q, T, hq, rfl, HRf1, HRg1, HST1, HD, HG1⟩ := hrel
                  obtain ⟨w4, rfl⟩ : ∃ w4 : World, w4 = wr := ⟨_, rfl⟩
                  by_cases hqm : q < m
                  · have c1 : w4.cell? ⟨f, q, none⟩ = some (.int .u64 (F q)) := HRf1.out.cell hqm
                    obtain ⟨r0, r1⟩ := HFr.out q hqm
                    obtain ⟨e, he, he2⟩ := dig_nat Bt (F q)
                    have hbe := bits_dig r0 r1 he
                    have HE : Hid (dg Bt (F q) = (e : Int)) := he
                    have hle : ∀ x, cnt (dg Bt) (seg F 0 (q + 1)) x ≤ cnt (dg Bt) (seg F 0 m) x := fun x => cnt_mono _ F x hqm
                    obtain ⟨P, hP⟩ : ∃ P, base (dg Bt) (seg F 0 m) e + cnt (dg Bt) (seg F 0 q) e = P := ⟨_, rfl⟩
                    have hPm : P < m := by
                      have h1 := hle e
                      rw [seg_snoc, Nat.zero_add, cnt_snoc_same he] at h1
                      have h2 : base (dg Bt) (seg F 0 m) e + cnt (dg Bt) (seg F 0 m) e ≤ m := base_le (dg Bt) F m (dg_bd Bt) (show e + 1 ≤ 2048 by omega)
                      omega
                    have HPP : Hid (base (dg Bt) (seg F 0 m) e + cnt (dg Bt) (seg F 0 q) e = P) := hP
                    have HDn : Hid (∀ x, x < 2048 → seg (fun j => if j = P then F q else T j) (base (dg Bt) (seg F 0 m) x) (cnt (dg Bt) (seg F 0 (q + 1)) x) = bk (dg Bt) (seg F 0 (q + 1)) x) := by
                      have := deal he HD.out hle
                      rw [hP] at this
                      exact this
                    have c2 : w4.cell? ⟨s, e, none⟩ = some (.int .i64 (P : Int)) := by rw [HST1.out.cell he2, ← hP]; simp
                    have c3 : w4.cell? ⟨g, P, none⟩ = some (.int .u64 (T P)) := HRg1.out.cell hPm
                    have f3 : w4.frozen? ⟨g, P, none⟩ = false := HRg1.out.frozen P
                    have c4 : ∀ v, (w4.setCell ⟨g, P, none⟩ v).cell? ⟨s, e, none⟩ = some (.int .i64 (P : Int)) := fun v => by rw [World.cell?_of_block (heap_setCell_other _ _ _ _ hsg.out)]; exact c2
                    have f4 : ∀ v, (w4.setCell ⟨g, P, none⟩ v).frozen? ⟨s, e, none⟩ = false := fun v => by rw [World.frozen?_of_block (heap_setCell_other _ _ _ _ hsg.out)]; exact HST1.out.frozen e
                    have hei : (e : Int) < 2048 := by omega
                    have hPi : (P : Int) < (m : Int) := by omega
                    clear he hle hP
                    go_wp2
                    go_roundw
                    case rel => exact ⟨q + 1, _, by omega, by go_num, (HRf1.out.setOther (by have := HFG.out; simp; omega) _).setOther (Ne.symm hsf.out) _, (HRg1.out.put P (F q)).setOther (Ne.symm hsg.out) _, move_step (HST1.out.setOther hsg.out _) HE.out HPP.out, HDn, grown_set (grown_set HG1.out (by have := HFG.out; simp; omega) _) (.inr hsw) _⟩
                    case measure => simp [intOf]; omega
                  · obtain rfl : q = m := by omega
                    have HTF : Hid (seg T 0 q = bks (dg Bt) (seg F 0 q) 2048) := by
                      have := seg_bks HD.out 2048 (Nat.le_refl _)
                      rwa [base_all (dg_bd Bt)] at this
                    have HP : Hid (SS (kj bit (j + 1)) (seg T 0 q) (seg L0 0 q)) := by
                      have h1 := SS_pass HSS.out
                      rw [← HB.out, ← HTF.out] at h1
                      exact h1
                    have HTr : Hid (∀ i, i < q → 0 ≤ T i ∧ T i < 18446744073709551616) := fun i hi => by
                      have h1 : T i ∈ seg T 0 q := by have := seg_get T q 0 i hi; rw [Nat.zero_add] at this; exact List.mem_of_getElem? this
                      obtain ⟨x, _, hx, h3⟩ := mem_seg ((SS_mem HP.out _).1 h1)
                      rw [← h3]
                      exact HL.out x (by omega)
                    go_wp2
                    go_roundw
                    case rel => exact ⟨j + 1, Bt + 11, g, f, T, F, by omega, by go_num, (show _ = _ by have := HB.out; omega), rfl, rfl, (show _ ∨ _ by have := HFG.out; omega), HRg1, HRf1, HP, HTr, HG1⟩
                    case measure => simp [intOf]; omega
    · obtain ⟨w2, hcp, hrow, _, hgr⟩ := copy_into (cap := n) (scap := n) (B := 0) (x := ⟨f, 0, none⟩) (F := F) (g := b) (n := n) (w := wo) (f := fun i => if f = b then .int .u64 (F i) else .int .u64 (G i)) (by
          rcases HFG.out with ⟨rfl, _⟩ | ⟨h1, rfl⟩
          · exact HRf.out.congr fun i _ => by rw [if_pos rfl]
          · exact HRg.out.congr fun i _ => by rw [if_neg (by omega)]) (Nat.zero_le _) (fun i hi => by rw [add_plain]; exact HRf.out.cell hi)
      have HR : Hid (Row w2 b n F) := hrow
      have HK : Hid (SS (ky bit) (seg F 0 n) (seg L0 0 n)) := SS_congr HSS.out fun x hx => by
        obtain ⟨i, _, hi, rfl⟩ := mem_seg hx
        have := HL.out i (by omega)
        exact kj_end (by have := HB.out; omega) this.1 this.2
      have HGR : Hid (wo.grownBy w2 (some b)) := hgr
      clear hrow hgr
      go_wp2
      go_end0
      exact ⟨rfl, F, HR.out, HK.out, ⟨HGR.out.os.trans HG.out.os, HGR.out.tape.trans HG.out.tape, HGR.out.output.trans HG.out.output, Nat.le_trans HG.out.size HGR.out.size, fun k hk hne => (HGR.out.block k (by have := HG.out.size; omega) hne).trans (HG.out.block k hk hne)⟩⟩
end Go.Proofs.Qxb6604140a.Srt
