/-
  THE WALK OF Merge.
-/
import Derived.Test.Qxb6604163aSmall
import Derived.Deep.AppendLies
namespace Go.Proofs.Qxb6604163a.Lbl
open Go.RowKit
set_option linter.unusedVariables false

def Rg (F : Nat → Int) (n : Nat) : Prop := ∀ i, i < n → 0 ≤ F i ∧ F i < 18446744073709551616
theorem Rg.nn {F : Nat → Int} {n : Nat} (h : Rg F n) : Nn F n := fun i hi => (h i hi).1

theorem set_same (w : World) (p : Addr) (v : Value) {u : Value} (h : w.cell? p = some u) : (w.setCell p v).cell? p = some v := World.cell?_setCell_same' w p v (by rw [h]; rfl)
/-- What Merge hands back. -/
def Merged (w w' : World) (F : Nat → Int) (n : Nat) (G : Nat → Int) (m : Nat) (e : Ending) : Prop :=
  ∃ (a : Option Addr) (l c : Nat) (M : Nat → Int), e = .returned (.agg #[.slice a l c]) ∧ LS w' a l M ∧ Rg M l ∧ (l ≤ n ∨ l ≤ m) ∧ IsMax M l F n G m ∧ (Trim F n → Trim G m → Trim M l) ∧ Below w.heap.size w w'

theorem three_cells (w : World) (u v z : Value) : ∃ W3, ((w.alloc (.cells #[u] 31)).alloc (.cells #[v] 31)).alloc (.cells #[z] 31) = W3 ∧ Below w.heap.size w W3 ∧ W3.heap.size = w.heap.size + 3 ∧
    W3.cell? ⟨w.heap.size, 0, none⟩ = some u ∧ W3.cell? ⟨w.heap.size + 1, 0, none⟩ = some v ∧ W3.cell? ⟨w.heap.size + 1 + 1, 0, none⟩ = some z ∧ W3.frozen? ⟨w.heap.size + 1 + 1, 0, none⟩ = false := by
  refine ⟨_, rfl, (((Below.refl _ _).alloc (Nat.le_refl _) _).alloc (by simp) _).alloc (by simp; omega) _, by simp, ?_, ?_, ?_, ?_⟩
  · rw [World.cell?_alloc_past _ _ _ (by simp; omega), World.cell?_alloc_past _ _ _ (by simp), World.cell?_alloc_at _ _ _ _ rfl]; rfl
  · rw [World.cell?_alloc_past _ _ _ (by simp), World.cell?_alloc_at _ _ _ _ (by simp)]; rfl
  · rw [World.cell?_alloc_at _ _ _ _ (by simp)]; rfl
  · rw [World.frozen?_alloc_at _ _ _ _ (by simp)]
/-- The three cells, in a later world. -/
theorem cells_later {W W' : World} {h : Nat} {u v z : Value} (hz : W.heap.size = h + 3) (hb : Below W.heap.size W W')
    (c1 : W.cell? ⟨h, 0, none⟩ = some u) (c2 : W.cell? ⟨h + 1, 0, none⟩ = some v) (c3 : W.cell? ⟨h + 1 + 1, 0, none⟩ = some z) (f3 : W.frozen? ⟨h + 1 + 1, 0, none⟩ = false) :
    W'.cell? ⟨h, 0, none⟩ = some u ∧ W'.cell? ⟨h + 1, 0, none⟩ = some v ∧ W'.cell? ⟨h + 1 + 1, 0, none⟩ = some z ∧ W'.frozen? ⟨h + 1 + 1, 0, none⟩ = false :=
  ⟨(hb.cell (p := ⟨h, 0, none⟩) (by show h < _; omega)).trans c1, (hb.cell (p := ⟨h + 1, 0, none⟩) (by show h + 1 < _; omega)).trans c2,
   (hb.cell (p := ⟨h + 1 + 1, 0, none⟩) (by show h + 1 + 1 < _; omega)).trans c3, (hb.frozen (p := ⟨h + 1 + 1, 0, none⟩) (by show h + 1 + 1 < _; omega)).trans f3⟩

set_option maxHeartbeats 400000 in
theorem merge_1 (a q : Option Addr) (n c m d : Nat) (F G : Nat → Int) (hn : n ≤ 1048576) (hm : m ≤ 1048576) (hF : Rg F n) (w : World) (hl : LS w a n F) (hr : LS w q m G) (hc : covB F n G m = true) :
    Calls Try.prog 13 #[.agg #[.slice a n c], .agg #[.slice q m d]] w fun e w' => Merged w w' F n G m e := by
  have HL : Hid (LS w a n F) := hl
  have HR : Hid (LS w q m G) := hr
  have HF : Hid (Rg F n) := hF
  have HM : Hid (IsMax F n F n G m) := merge_l hF.nn hc
  obtain ⟨W3, hW, hB3, hz3, c1, c2, c3, f3⟩ := three_cells w (.slice a n c) (.slice q m d) (.slice none 0 0)
  clear hl hr hF
  go_enter Try.func13, Try.ntmps13
  go_wp2_with fail
  refine (covers_any a q n c m d F G hn hm W3 (HL.out.below hB3) (HR.out.below hB3)).mono ?_
  rintro e w1 ⟨rfl, hb1⟩
  rw [hc]
  obtain ⟨d1, d2, d3, g3⟩ := cells_later hz3 hb1 c1 c2 c3 f3
  have HB : Hid (Below w.heap.size w w1) := hB3.trans (hb1.mono hB3.size)
  have hres := set_same _ _ (.slice a n c) d3
  clear hW c1 c2 c3 f3 hB3 hb1 hz3 hc
  go_wp2
  refine bodyPost_ret (v := .agg #[.slice a n c]) (by simp [results, Try.results13, go_sem, hres]) rfl ⟨a, n, c, F, rfl, ?_, HF, .inl (Nat.le_refl _), HM, fun h _ => h, ?_⟩
  · exact HL.out.below (HB.out.setCell (by show _ ≤ w.heap.size + 1 + 1; omega) _)
  · exact HB.out.setCell (by show _ ≤ w.heap.size + 1 + 1; omega) _

set_option maxHeartbeats 400000 in
theorem merge_2 (a q : Option Addr) (n c m d : Nat) (F G : Nat → Int) (hn : n ≤ 1048576) (hm : m ≤ 1048576) (hG : Rg G m) (w : World) (hl : LS w a n F) (hr : LS w q m G) (hc : covB F n G m = false) (hc2 : covB G m F n = true) :
    Calls Try.prog 13 #[.agg #[.slice a n c], .agg #[.slice q m d]] w fun e w' => Merged w w' F n G m e := by
  have HL : Hid (LS w a n F) := hl
  have HR : Hid (LS w q m G) := hr
  have HG : Hid (Rg G m) := hG
  have HM : Hid (IsMax G m F n G m) := merge_r hG.nn hc2
  obtain ⟨W3, hW, hB3, hz3, c1, c2, c3, f3⟩ := three_cells w (.slice a n c) (.slice q m d) (.slice none 0 0)
  clear hl hr hG
  go_enter Try.func13, Try.ntmps13
  go_wp2_with fail
  refine (covers_any a q n c m d F G hn hm W3 (HL.out.below hB3) (HR.out.below hB3)).mono ?_
  rintro e w1 ⟨rfl, hb1⟩
  rw [hc]
  obtain ⟨d1, d2, d3, g3⟩ := cells_later hz3 hb1 c1 c2 c3 f3
  have HB : Hid (Below w.heap.size w w1) := hB3.trans (hb1.mono hB3.size)
  have hz1 : w.heap.size + 3 ≤ w1.heap.size := by have := hb1.size; omega
  clear hW c1 c2 c3 f3 hB3 hb1 hz3 hc
  go_wp2_with fail
  refine (covers_any q a m d n c G F hm hn w1 (HR.out.below HB.out) (HL.out.below HB.out)).mono ?_
  rintro e w2 ⟨rfl, hb2⟩
  rw [hc2]
  have e1 := (hb2.cell (p := ⟨w.heap.size, 0, none⟩) (by show w.heap.size < _; omega)).trans d1
  have e2 := (hb2.cell (p := ⟨w.heap.size + 1, 0, none⟩) (by show w.heap.size + 1 < _; omega)).trans d2
  have e3 := (hb2.cell (p := ⟨w.heap.size + 1 + 1, 0, none⟩) (by show w.heap.size + 1 + 1 < _; omega)).trans d3
  have k3 := (hb2.frozen (p := ⟨w.heap.size + 1 + 1, 0, none⟩) (by show w.heap.size + 1 + 1 < _; omega)).trans g3
  have HB2 : Hid (Below w.heap.size w w2) := HB.out.trans (hb2.mono HB.out.size)
  have hres := set_same _ _ (.slice q m d) e3
  clear d1 d2 d3 g3 HB hb2 hz1 hc2
  go_wp2
  refine bodyPost_ret (v := .agg #[.slice q m d]) (by simp [results, Try.results13, go_sem, hres]) rfl ⟨q, m, d, G, rfl, ?_, HG, .inr (Nat.le_refl _), HM, fun _ h => h, ?_⟩
  · exact HR.out.below (HB2.out.setCell (by show _ ≤ w.heap.size + 1 + 1; omega) _)
  · exact HB2.out.setCell (by show _ ≤ w.heap.size + 1 + 1; omega) _

theorem ls_row {w : World} {a : Option Addr} {n : Nat} {F : Nat → Int} (h : LS w a n F) (hn : 0 < n) : ∃ b, a = some ⟨b, 0, none⟩ ∧ Row w b n F := by
  rcases h with h | h
  · omega
  · exact h
theorem cov_pos {F G : Nat → Int} {n m : Nat} (h : covB F n G m = false) : 0 < m := by
  cases m with
  | zero => simp [covB] at h
  | succ m => omega
/-- The cells that are appended. -/
def cls (F : Nat → Int) (n : Nat) : List Value := (List.range n).map (fun i => Value.int .u64 (F i))
theorem cls_length (F : Nat → Int) (n : Nat) : (cls F n).length = n := by simp [cls]
theorem cls_get {F : Nat → Int} {n j : Nat} (h : j < n) : (cls F n)[j]? = some (.int .u64 (F j)) := by simp [cls, h]
theorem cls_at {F : Nat → Int} {n j : Nat} {v : Value} (h : (cls F n)[j]? = some v) : j < n ∧ v = .int .u64 (F j) := by
  have hj : j < n := by
    have := (List.getElem?_eq_some_iff.1 h).1
    rwa [cls_length] at this
  rw [cls_get hj] at h
  exact ⟨hj, by simpa using h.symm⟩
theorem cls_one (F : Nat → Int) (n : Nat) : ∀ v ∈ cls F n, v.oneCell' = true := by
  intro v hv
  simp only [cls, List.mem_map] at hv
  obtain ⟨x, _, rfl⟩ := hv
  rfl
theorem row_of_owns {w : World} {base g n cap : Nat} {F : Nat → Int} (hn : 0 < n) (h : w.ownsRow base 27 1 (.slice (some ⟨g, 0, none⟩) n cap) n (cls F n)) : Row w g n F := by
  rcases h.2 with ⟨h0, _⟩ | ⟨g', cap', cur, hv, _, hg, hnc, _, hsz, htk⟩
  · cases h0
  · simp only [Value.slice.injEq, Option.some.injEq, Addr.mk.injEq] at hv
    obtain ⟨⟨rfl, _⟩, _, rfl⟩ := hv
    have hs : cur.size = cap := by omega
    refine ⟨cap, fun i => cur[i]?.getD (.int .u64 0), hnc, ⟨cur, hg, hs, fun i hi => ?_⟩, fun i hi => ?_⟩
    · have : cur[i]? = some cur[i] := Array.getElem?_eq_getElem (by omega)
      simp [this]
    · have h1 : (cur.toList.take (n * 1))[i]? = some (.int .u64 (F i)) := by rw [htk]; exact cls_get hi
      rw [List.getElem?_take_of_lt (by omega)] at h1
      have h2 : cur[i]? = some (.int .u64 (F i)) := by simpa using h1
      simp [h2]
theorem row_below {w w' : World} {b n B : Nat} {F : Nat → Int} (h : Row w b n F) (hb : Below B w w') (hB : b < B) : Row w' b n F := h.of_block (hb.block b hB)

theorem add_plain0 (p i : Nat) : (⟨p, 0, none⟩ : Addr).add i = ⟨p, i, none⟩ := by simp [Addr.add]; exact fun h => h.symm

set_option maxRecDepth 100000 in
set_option maxHeartbeats 1000000 in
theorem merge_3 (b1 b2 n c m d : Nat) (F G : Nat → Int) (hn : n ≤ 131072) (hm : m ≤ 131072) (hn0 : 0 < n) (hm0 : 0 < m) (hF : Rg F n) (hG : Rg G m) (w : World) (hl : Row w b1 n F) (hr : Row w b2 m G) (hc : covB F n G m = false) (hc2 : covB G m F n = false) (hle : m ≤ n) :
    Calls Try.prog 13 #[.agg #[.slice (some ⟨b1, 0, none⟩) n c], .agg #[.slice (some ⟨b2, 0, none⟩) m d]] w fun e w' => Merged w w' F n G m e := by
  have HL : Hid (Row w b1 n F) := hl
  have HR : Hid (Row w b2 m G) := hr
  have HF : Hid (Rg F n) := hF
  have HG : Hid (Rg G m) := hG
  obtain ⟨W3, hW, hB3, hz3, c1, c2, c3, f3⟩ := three_cells w (.slice (some ⟨b1, 0, none⟩) n c) (.slice (some ⟨b2, 0, none⟩) m d) (.slice none 0 0)
  obtain ⟨i0, hi, hz0, hz1, hz2⟩ := info_parts info27
  clear hl hr hF hG
  go_enter Try.func13, Try.ntmps13
  go_wp2_with fail
  refine (covers_any _ _ n c m d F G (by omega) (by omega) W3 (.inr ⟨b1, rfl, HL.out.of_block (hB3.block b1 HL.out.lt)⟩) (.inr ⟨b2, rfl, HR.out.of_block (hB3.block b2 HR.out.lt)⟩)).mono ?_
  rintro e w1 ⟨rfl, hb1⟩
  rw [hc]
  obtain ⟨d1, d2, d3, g3⟩ := cells_later hz3 hb1 c1 c2 c3 f3
  have HB : Hid (Below w.heap.size w w1) := hB3.trans (hb1.mono hB3.size)
  have hzz : w.heap.size + 3 ≤ w1.heap.size := by have := hb1.size; omega
  clear hW c1 c2 c3 f3 hB3 hb1 hz3 hc
  go_wp2_with fail
  refine (covers_any _ _ m d n c G F (by omega) (by omega) w1 (.inr ⟨b2, rfl, HR.out.of_block (HB.out.block b2 HR.out.lt)⟩) (.inr ⟨b1, rfl, HL.out.of_block (HB.out.block b1 HL.out.lt)⟩)).mono ?_
  rintro e w2 ⟨rfl, hb2⟩
  rw [hc2]
  have e1 := (hb2.cell (p := ⟨w.heap.size, 0, none⟩) (by show w.heap.size < _; omega)).trans d1
  have e2 := (hb2.cell (p := ⟨w.heap.size + 1, 0, none⟩) (by show w.heap.size + 1 < _; omega)).trans d2
  have HE3 : Hid (w2.cell? ⟨w.heap.size + 1 + 1, 0, none⟩ = _) := (hb2.cell (p := ⟨w.heap.size + 1 + 1, 0, none⟩) (by show w.heap.size + 1 + 1 < _; omega)).trans d3
  have HK3 : Hid (w2.frozen? ⟨w.heap.size + 1 + 1, 0, none⟩ = false) := (hb2.frozen (p := ⟨w.heap.size + 1 + 1, 0, none⟩) (by show w.heap.size + 1 + 1 < _; omega)).trans g3
  have HB2 : Hid (Below w.heap.size w w2) := HB.out.trans (hb2.mono HB.out.size)
  have hzz2 : w.heap.size + 3 ≤ w2.heap.size := by have := hb2.size; omega
  have HN : Hid (∀ j u, (cls F n)[j]? = some u → w2.cell? ((⟨b1, 0, none⟩ : Addr).add j) = some u) := fun j u hu => by
    obtain ⟨hj, rfl⟩ := cls_at hu
    rw [add_plain0, HB2.out.cell (p := ⟨b1, j, none⟩) HL.out.lt]
    exact HL.out.cell hj
  clear d1 d2 d3 g3 HB hb2 hzz hc2
  go_wp2
  go_quiet (fail)
  go_wp2_with (at_builtin; refine wpList_append_lies _ rfl _ (.tmp 29) 22 rfl 0 27 i0 (.int .u64 0) 1 8 Try.underlying22 hi hz0 hz1 hz2 rfl (by omega) (.slice none 0 0) 0 [] rfl (World.ownsRow_nil _ _ _ _) ⟨b1, 0, none⟩ n c (cls F n) rfl (by rw [cls_length]; omega) HN.out (cls_one _ _) (by omega) (by unfold maxLen; omega) (by omega) (Nat.zero_le _) w2.heap.size rfl ?_)
  intro g cap w3 hown hgrow hat hlt
  have hg : g = w2.heap.size := by rcases hat with h | h
                                   · cases h
                                   · exact h
  try rw [Nat.zero_add] at hown
  try rw [List.nil_append] at hown
  try rw [Nat.zero_add]
  have HRow : Hid (Row w3 g n F) := row_of_owns (by omega) hown
  have HGr : Hid (∀ k, k < w2.heap.size → w3.heap[k]? = w2.heap[k]?) := fun k hk => hgrow.block k hk (by simp [Value.ownBlock])
  have HB3 : Hid (Below w.heap.size w w3) := HB2.out.trans ⟨hgrow.os, hgrow.tape, hgrow.output, hgrow.size, fun k hk => hgrow.block k (by show k < w2.heap.size; omega) (by simp [Value.ownBlock])⟩
  have HC3 : Hid (w3.cell? ⟨w.heap.size + 1 + 1, 0, none⟩ = some (.slice none 0 0)) := by
    show _ = _
    rw [World.cell?_of_block (w := w2) (HGr.out _ (by show w.heap.size + 1 + 1 < _; omega))]; exact HE3.out
  have HF3 : Hid (w3.frozen? ⟨w.heap.size + 1 + 1, 0, none⟩ = false) := by
    show _ = _
    rw [World.frozen?_of_block (w := w2) (HGr.out _ (by show w.heap.size + 1 + 1 < _; omega))]; exact HK3.out
  have HGE : Hid (w.heap.size + 3 ≤ g) := by show _ ≤ _; omega
  have hgw : w.heap.size ≤ g := by omega
  clear hown hgrow hat hg
  go_wp2
  go_loopw [33] (fun i wr => ∃ (k : Nat), k ≤ m ∧ i = .int .i64 (k : Int) ∧ Hid (Row wr g n (up F G k)) ∧ Hid (wr.cell? ⟨w.heap.size + 1 + 1, 0, none⟩ = some (.slice none 0 0)) ∧ Hid (wr.frozen? ⟨w.heap.size + 1 + 1, 0, none⟩ = false) ∧ Hid (Below w.heap.size w wr)) (fun i _ => m - (intOf i).toNat)
  case atStart => exact ⟨0, by omega, rfl, by rw [up_zero]; exact HRow, HC3, HF3, HB3⟩
  case round =>
    clear HRow HC3 HF3 HB3
    obtain ⟨k, hk, rfl, HRow, HC3, HF3, HB3⟩ := hrel
    by_cases hkm : k < m
    · have c1 : wr.cell? ⟨b2, k, none⟩ = some (.int .u64 (G k)) := by rw [HB3.out.cell (p := ⟨b2, k, none⟩) HR.out.lt]; exact HR.out.cell hkm
      have c2 : wr.cell? ⟨g, k, none⟩ = some (.int .u64 (F k)) := by rw [HRow.out.cell (i := k) (by omega), up_at]
      have f2 := HRow.out.frozen k
      have hii : (k : Int) < (n : Int) := by omega
      have hij : (k : Int) < (m : Int) := by omega
      by_cases hcmp : F k < G k
      · go_wp2
        go_roundw
        case rel => exact ⟨k + 1, by omega, by go_num, (HRow.out.put k (G k)).congr fun i _ => (up_put hcmp i).symm, (World.cell?_of_block (heap_setCell_other _ _ _ _ (by show w.heap.size + 1 + 1 ≠ g; have := HGE.out; omega))).trans HC3.out, (World.frozen?_of_block (heap_setCell_other _ _ _ _ (by show w.heap.size + 1 + 1 ≠ g; have := HGE.out; omega))).trans HF3.out, HB3.out.setCell hgw _⟩
        case measure => simp [intOf]; omega
      · go_wp2
        go_roundw
        case rel => exact ⟨k + 1, by omega, by go_num, HRow.out.congr fun i _ => (up_keep hcmp i).symm, HC3, HF3, HB3⟩
        case measure => simp [intOf]; omega
    · obtain rfl : k = m := by omega
      have c3 := HC3.out
      have f3 := HF3.out
      have hres := set_same _ _ (.slice (some ⟨g, 0, none⟩) n cap) c3
      go_wp2
      refine bodyPost_ret (v := .agg #[.slice (some ⟨g, 0, none⟩) n cap]) (by simp [results, Try.results13, go_sem, hres]) rfl ⟨_, n, cap, up F G k, rfl, ?_, ?_, .inl (Nat.le_refl _), ?_, ?_, ?_⟩
      · exact .inr ⟨g, rfl, HRow.out.of_block (heap_setCell_other _ _ _ _ (by show g ≠ w.heap.size + 1 + 1; have := HGE.out; omega))⟩
      · exact fun i hi => ⟨up_nn HF.out.nn i hi, up_lt (fun i hi => (HF.out i hi).2) (fun i hi => (HG.out i hi).2) i hi⟩
      · exact up_max HF.out.nn hle
      · exact fun h _ => up_trim HF.out.nn h
      · exact HB3.out.setCell (by show _ ≤ w.heap.size + 1 + 1; omega) _

set_option maxRecDepth 100000 in
set_option maxHeartbeats 1000000 in
theorem merge_4 (b1 b2 n c m d : Nat) (F G : Nat → Int) (hn : n ≤ 131072) (hm : m ≤ 131072) (hn0 : 0 < n) (hm0 : 0 < m) (hF : Rg F n) (hG : Rg G m) (w : World) (hl : Row w b1 n F) (hr : Row w b2 m G) (hc : covB F n G m = false) (hc2 : covB G m F n = false) (hle : n < m) :
    Calls Try.prog 13 #[.agg #[.slice (some ⟨b1, 0, none⟩) n c], .agg #[.slice (some ⟨b2, 0, none⟩) m d]] w fun e w' => Merged w w' F n G m e := by
  have HL : Hid (Row w b1 n F) := hl
  have HR : Hid (Row w b2 m G) := hr
  have HF : Hid (Rg F n) := hF
  have HG : Hid (Rg G m) := hG
  obtain ⟨W3, hW, hB3, hz3, c1, c2, c3, f3⟩ := three_cells w (.slice (some ⟨b1, 0, none⟩) n c) (.slice (some ⟨b2, 0, none⟩) m d) (.slice none 0 0)
  obtain ⟨i0, hi, hz0, hz1, hz2⟩ := info_parts info27
  clear hl hr hF hG
  go_enter Try.func13, Try.ntmps13
  go_wp2_with fail
  refine (covers_any _ _ n c m d F G (by omega) (by omega) W3 (.inr ⟨b1, rfl, HL.out.of_block (hB3.block b1 HL.out.lt)⟩) (.inr ⟨b2, rfl, HR.out.of_block (hB3.block b2 HR.out.lt)⟩)).mono ?_
  rintro e w1 ⟨rfl, hb1⟩
  rw [hc]
  obtain ⟨d1, d2, d3, g3⟩ := cells_later hz3 hb1 c1 c2 c3 f3
  have HB : Hid (Below w.heap.size w w1) := hB3.trans (hb1.mono hB3.size)
  have hzz : w.heap.size + 3 ≤ w1.heap.size := by have := hb1.size; omega
  clear hW c1 c2 c3 f3 hB3 hb1 hz3 hc
  go_wp2_with fail
  refine (covers_any _ _ m d n c G F (by omega) (by omega) w1 (.inr ⟨b2, rfl, HR.out.of_block (HB.out.block b2 HR.out.lt)⟩) (.inr ⟨b1, rfl, HL.out.of_block (HB.out.block b1 HL.out.lt)⟩)).mono ?_
  rintro e w2 ⟨rfl, hb2⟩
  rw [hc2]
  have e1 := (hb2.cell (p := ⟨w.heap.size, 0, none⟩) (by show w.heap.size < _; omega)).trans d1
  have e2 := (hb2.cell (p := ⟨w.heap.size + 1, 0, none⟩) (by show w.heap.size + 1 < _; omega)).trans d2
  have HE3 : Hid (w2.cell? ⟨w.heap.size + 1 + 1, 0, none⟩ = _) := (hb2.cell (p := ⟨w.heap.size + 1 + 1, 0, none⟩) (by show w.heap.size + 1 + 1 < _; omega)).trans d3
  have HK3 : Hid (w2.frozen? ⟨w.heap.size + 1 + 1, 0, none⟩ = false) := (hb2.frozen (p := ⟨w.heap.size + 1 + 1, 0, none⟩) (by show w.heap.size + 1 + 1 < _; omega)).trans g3
  have HB2 : Hid (Below w.heap.size w w2) := HB.out.trans (hb2.mono HB.out.size)
  have hzz2 : w.heap.size + 3 ≤ w2.heap.size := by have := hb2.size; omega
  have HN : Hid (∀ j u, (cls G m)[j]? = some u → w2.cell? ((⟨b2, 0, none⟩ : Addr).add j) = some u) := fun j u hu => by
    obtain ⟨hj, rfl⟩ := cls_at hu
    rw [add_plain0, HB2.out.cell (p := ⟨b2, j, none⟩) HR.out.lt]
    exact HR.out.cell hj
  clear d1 d2 d3 g3 HB hb2 hzz hc2
  go_wp2
  go_quiet (fail)
  go_wp2_with (at_builtin; refine wpList_append_lies _ rfl _ (.tmp 29) 22 rfl 0 27 i0 (.int .u64 0) 1 8 Try.underlying22 hi hz0 hz1 hz2 rfl (by omega) (.slice none 0 0) 0 [] rfl (World.ownsRow_nil _ _ _ _) ⟨b2, 0, none⟩ m d (cls G m) rfl (by rw [cls_length]; omega) HN.out (cls_one _ _) (by omega) (by unfold maxLen; omega) (by omega) (Nat.zero_le _) w2.heap.size rfl ?_)
  intro g cap w3 hown hgrow hat hlt
  have hg : g = w2.heap.size := by rcases hat with h | h
                                   · cases h
                                   · exact h
  try rw [Nat.zero_add] at hown
  try rw [List.nil_append] at hown
  try rw [Nat.zero_add]
  have HRow : Hid (Row w3 g m G) := row_of_owns (by omega) hown
  have HGr : Hid (∀ k, k < w2.heap.size → w3.heap[k]? = w2.heap[k]?) := fun k hk => hgrow.block k hk (by simp [Value.ownBlock])
  have HB3 : Hid (Below w.heap.size w w3) := HB2.out.trans ⟨hgrow.os, hgrow.tape, hgrow.output, hgrow.size, fun k hk => hgrow.block k (by show k < w2.heap.size; omega) (by simp [Value.ownBlock])⟩
  have HC3 : Hid (w3.cell? ⟨w.heap.size + 1 + 1, 0, none⟩ = some (.slice none 0 0)) := by
    show _ = _
    rw [World.cell?_of_block (w := w2) (HGr.out _ (by show w.heap.size + 1 + 1 < _; omega))]; exact HE3.out
  have HF3 : Hid (w3.frozen? ⟨w.heap.size + 1 + 1, 0, none⟩ = false) := by
    show _ = _
    rw [World.frozen?_of_block (w := w2) (HGr.out _ (by show w.heap.size + 1 + 1 < _; omega))]; exact HK3.out
  have HGE : Hid (w.heap.size + 3 ≤ g) := by show _ ≤ _; omega
  have hgw : w.heap.size ≤ g := by omega
  clear hown hgrow hat hg
  go_wp2
  go_loopw [33] (fun i wr => ∃ (k : Nat), k ≤ n ∧ i = .int .i64 (k : Int) ∧ Hid (Row wr g m (up G F k)) ∧ Hid (wr.cell? ⟨w.heap.size + 1 + 1, 0, none⟩ = some (.slice none 0 0)) ∧ Hid (wr.frozen? ⟨w.heap.size + 1 + 1, 0, none⟩ = false) ∧ Hid (Below w.heap.size w wr)) (fun i _ => n - (intOf i).toNat)
  case atStart => exact ⟨0, by omega, rfl, by rw [up_zero]; exact HRow, HC3, HF3, HB3⟩
  case round =>
    clear HRow HC3 HF3 HB3
    obtain ⟨k, hk, rfl, HRow, HC3, HF3, HB3⟩ := hrel
    by_cases hkm : k < n
    · have c1 : wr.cell? ⟨b1, k, none⟩ = some (.int .u64 (F k)) := by rw [HB3.out.cell (p := ⟨b1, k, none⟩) HL.out.lt]; exact HL.out.cell hkm
      have c2 : wr.cell? ⟨g, k, none⟩ = some (.int .u64 (G k)) := by rw [HRow.out.cell (i := k) (by omega), up_at]
      have f2 := HRow.out.frozen k
      have hii : (k : Int) < (m : Int) := by omega
      have hij : (k : Int) < (n : Int) := by omega
      by_cases hcmp : G k < F k
      · go_wp2
        go_roundw
        case rel => exact ⟨k + 1, by omega, by go_num, (HRow.out.put k (F k)).congr fun i _ => (up_put hcmp i).symm, (World.cell?_of_block (heap_setCell_other _ _ _ _ (by show w.heap.size + 1 + 1 ≠ g; have := HGE.out; omega))).trans HC3.out, (World.frozen?_of_block (heap_setCell_other _ _ _ _ (by show w.heap.size + 1 + 1 ≠ g; have := HGE.out; omega))).trans HF3.out, HB3.out.setCell hgw _⟩
        case measure => simp [intOf]; omega
      · go_wp2
        go_roundw
        case rel => exact ⟨k + 1, by omega, by go_num, HRow.out.congr fun i _ => (up_keep hcmp i).symm, HC3, HF3, HB3⟩
        case measure => simp [intOf]; omega
    · obtain rfl : k = n := by omega
      have c3 := HC3.out
      have f3 := HF3.out
      have hres := set_same _ _ (.slice (some ⟨g, 0, none⟩) m cap) c3
      go_wp2
      refine bodyPost_ret (v := .agg #[.slice (some ⟨g, 0, none⟩) m cap]) (by simp [results, Try.results13, go_sem, hres]) rfl ⟨_, m, cap, up G F k, rfl, ?_, ?_, .inr (Nat.le_refl _), ?_, ?_, ?_⟩
      · exact .inr ⟨g, rfl, HRow.out.of_block (heap_setCell_other _ _ _ _ (by show g ≠ w.heap.size + 1 + 1; have := HGE.out; omega))⟩
      · exact fun i hi => ⟨up_nn HG.out.nn i hi, up_lt (fun i hi => (HG.out i hi).2) (fun i hi => (HF.out i hi).2) i hi⟩
      · exact up_max' HG.out.nn (by omega)
      · exact fun _ h => up_trim HG.out.nn h
      · exact HB3.out.setCell (by show _ ≤ w.heap.size + 1 + 1; omega) _

theorem merge_any (a q : Option Addr) (n c m d : Nat) (F G : Nat → Int) (hn : n ≤ 131072) (hm : m ≤ 131072) (hF : Rg F n) (hG : Rg G m) (w : World) (hl : LS w a n F) (hr : LS w q m G) :
    Calls Try.prog 13 #[.agg #[.slice a n c], .agg #[.slice q m d]] w fun e w' => Merged w w' F n G m e := by
  cases hc : covB F n G m with
  | true => exact merge_1 a q n c m d F G (by omega) (by omega) hF w hl hr hc
  | false =>
    cases hc2 : covB G m F n with
    | true => exact merge_2 a q n c m d F G (by omega) (by omega) hG w hl hr hc hc2
    | false =>
      have p1 := cov_pos hc
      have p2 := cov_pos hc2
      obtain ⟨b1, rfl, r1⟩ := ls_row hl p2
      obtain ⟨b2, rfl, r2⟩ := ls_row hr p1
      by_cases hle : m ≤ n
      · exact merge_3 b1 b2 n c m d F G hn hm p2 p1 hF hG w r1 r2 hc hc2 hle
      · exact merge_4 b1 b2 n c m d F G hn hm p2 p1 hF hG w r1 r2 hc hc2 (by omega)
end Go.Proofs.Qxb6604163a.Lbl
