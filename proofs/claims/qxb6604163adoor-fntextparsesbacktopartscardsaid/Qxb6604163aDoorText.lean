/-
  THE WALKS OF strconv.AppendUint (over the shelf's contracts) AND OF Label.text.
-/
import Derived.Test.Qxb6604163aDoorSmall
import Derived.OwnWalk
namespace Go.Proofs.Qxb6604163aDoor.Txt
open Go.RowKit
open Go.Lib (TabIs pow10Tab tabBelow_of_tabIs decDigits byteCells byteCells_append byteCells_length)
set_option linter.unusedVariables false
theorem info5 : (Tryd.prog.info? 5).map (fun i => (i.zero, i.size, i.bytes)) = some (some (.int .u8 0), 1, 1) := by kernel_rfl

def Tab (w : World) : Prop := TabIs Tryd.prog w "internal/strconv.uint64pow10" .u64 pow10Tab
theorem Tab.below {w w' : World} (h : Tab w) (hb : Below w.heap.size w w') : Tab w' := tabBelow_of_tabIs h w' hb

/-- strconv.AppendUint(dst, u, 10). -/
theorem appendUint (B n : Nat) (u : Int) (h0 : 0 ≤ u) (h1 : u < 18446744073709551616) (sv : Value) (xs : List Value) (w : World) (hown : w.ownsRow B 5 1 sv n xs) (hBw : B ≤ w.heap.size) (hlim : n + 20 ≤ 140737488355328) (ht : Tab w) :
    Calls Tryd.prog 11 #[sv, .int .u64 u, .int .i64 10] w fun e w' => ∃ v', e = .returned v' ∧ w'.ownsRow B 5 1 v' (n + (decDigits u.toNat).length) (xs ++ byteCells (decDigits u.toNat)) ∧ Below B w w' := by
  have key : Calls Tryd.prog 12 #[sv, .int .u64 u, .int .i64 10] w fun e w' => ∃ v', e = .returned v' ∧ w'.ownsRow B 5 1 v' (n + (decDigits u.toNat).length) (xs ++ byteCells (decDigits u.toNat)) ∧ Below B w w' := by
    have e : u = ((u.toNat : Nat) : Int) := by omega
    by_cases c : u.toNat < 100
    · have := Tryd.internal_strconv_AppendUint_10_small B n u.toNat c sv xs w hown hBw hlim
      rw [← e] at this
      exact this.mono fun _ _ ⟨v, a, b, c, _⟩ => ⟨v, a, b, c⟩
    · have := Tryd.internal_strconv_AppendUint_10_big B n u.toNat (by omega) (by omega) sv xs w hown hBw hlim ht
      rw [← e] at this
      exact this.mono fun _ _ ⟨v, a, b, c, _⟩ => ⟨v, a, b, c⟩
  clear hown hBw hlim ht h0 h1
  go_enter Tryd.func11, Tryd.ntmps11
  go_wp2_with fail
  refine key.mono ?_
  rintro e w1 ⟨v', rfl, H2, H3⟩
  have HO : Hid _ := H2
  have HB : Hid _ := H3
  clear H2 H3 key
  go_wp2
  go_ret
  exact ⟨v', rfl, HO.out, HB.out⟩

/-- What the call hands back: a slice of the bytes L. -/
def Texted (w w' : World) (L : List UInt8) (e : Ending) : Prop := ∃ g cap, e = .returned (.slice (some ⟨g, 0, none⟩) L.length cap) ∧ (∀ (i : Nat) (b : UInt8), L[i]? = some b → w'.cell? ⟨g, i, none⟩ = some (.int .u8 (b.toNat : Int))) ∧ Below w.heap.size w w'

theorem dec_pos (u : Nat) : 0 < (decDigits u).length := by
  by_cases c : u < 10
  · rw [dec_lt c]; simp
  · rw [dec_ge c]; simp
theorem txt_pos (F : Nat → Int) (k : Nat) : 0 < (txt F (k + 1)).length := by
  have := dec_pos (F k).toNat
  by_cases c : k = 0
  · subst c; rw [txt_one]; exact this
  · rw [txt_next c]; simp; omega
theorem add_plain0 (g j : Nat) : (⟨g, 0, none⟩ : Addr).add j = ⟨g, j, none⟩ := by
  cases j with
  | zero => rfl
  | succ j => simp [Addr.add]
theorem cell_marked (w : World) (v : Value) (T p : Nat) (h : p = w.heap.size) : (w.alloc (.cells #[v] T (1, 2))).cell? ⟨p, 0, none⟩ = some v := by
  subst h
  have : (w.alloc (.cells #[v] T (1, 2))).heap[w.heap.size]? = some (.cells #[v] T (1, 2)) := heap_alloc_new w _
  unfold World.cell?
  rw [this]
  rfl
theorem text_zero (a : Option Addr) (c : Nat) (w : World) : Calls Tryd.prog 10 #[.agg #[.slice a 0 c]] w fun e w' => Texted w w' [48] e := by
  have kc := Lib.run_convert_bytes_const (P := Tryd.prog) (w.alloc (.cells #[.slice a 0 c] 28)) 25 5 #[.int .u8 48] 1 1 Tryd.underlying25 Tryd.underlying5
  rw [show (w.alloc (.cells #[.slice a 0 c] 28)).heap.size = w.heap.size + 1 from by simp] at kc
  go_enter Tryd.func10, Tryd.ntmps10
  go_wp2
  go_ret
  refine ⟨_, _, rfl, ?_, ((Below.refl _ _).alloc (Nat.le_refl _) _).alloc (by simp) _⟩
  intro i b hb
  cases i with
  | succ i => simp at hb
  | zero =>
    simp only [List.getElem?_cons_zero, Option.some.injEq] at hb
    subst hb
    exact cell_marked _ _ _ _ (by simp)

set_option maxRecDepth 100000 in
set_option maxHeartbeats 1000000 in
theorem text_pos (b n c : Nat) (F : Nat → Int) (hn : n ≤ 32768) (hn0 : 0 < n) (hF : Rg F n) (w : World) (hr : Row w b n F) (ht : Tab w) :
    Calls Tryd.prog 10 #[.agg #[.slice (some ⟨b, 0, none⟩) n c]] w fun e w' => Texted w w' (txt F n) e := by
  have HR : Hid (Row w b n F) := hr
  have HT : Hid (Tab w) := ht
  have HF : Hid (Rg F n) := hF
  obtain ⟨i0, hi, hz0, hz1, hz2⟩ := info_parts info5
  clear hr ht hF
  go_enter Tryd.func10, Tryd.ntmps10
  go_wp2_with (at_make; refine wpList_make_own _ rfl _ _ 25 rfl (w.heap.size + 1) 5 i0 (.int .u8 0) 1 Tryd.underlying25 hi hz0 hz1 _ _ _ (4 * n) rfl rfl (by omega) (by rw [hz2]; omega) (by unfold maxLen; omega) (by simp) ?_)
  intro w0 hown0 hgrow0
  have c0 : w0.cell? ⟨w.heap.size, 0, none⟩ = some (.slice (some ⟨b, 0, none⟩) n c) := hgrow0.cell (by rw [World.cell?_alloc_at _ _ _ _ rfl]; rfl) (by simp)
  have HO0 : Hid (w0.ownsRow (w.heap.size + 1) 5 1 (.slice (some ⟨w.heap.size + 1, 0, none⟩) 0 (4 * n)) 0 []) := hown0
  have HB0 : Hid (Below w.heap.size w w0) := ((Below.refl _ _).alloc (Nat.le_refl _) _).grown hgrow0 (by simp) (by simp)
  have HZ0 : Hid (w.heap.size + 1 ≤ w0.heap.size) := by have := hgrow0.size; show _ ≤ _; simpa using this
  clear hown0 hgrow0
  go_wp2
  go_loopw [3, 20] (fun v i wr => ∃ (k g cap : Nat), k ≤ n ∧ i = .int .i64 (k : Int) ∧ v = .slice (some ⟨g, 0, none⟩) (txt F k).length cap ∧ Hid (wr.ownsRow (w.heap.size + 1) 5 1 (.slice (some ⟨g, 0, none⟩) (txt F k).length cap) (txt F k).length (byteCells (txt F k))) ∧ Hid (Below w.heap.size w wr) ∧ Hid (w.heap.size + 1 ≤ wr.heap.size)) (fun _ i _ => n - (intOf i).toNat)
  case atStart => exact ⟨0, _, _, by omega, rfl, rfl, HO0, HB0, HZ0⟩
  case round =>
    clear HO0 HB0 HZ0 c0
    obtain ⟨k, g, cap, hk, rfl, rfl, HO, HB, HZ⟩ := hrel
    by_cases hlt : k < n
    · have c1 : wr.cell? ⟨b, k, none⟩ = some (.int .u64 (F k)) := by rw [HB.out.cell (p := ⟨b, k, none⟩) HR.out.lt]; exact HR.out.cell hlt
      have hi1 : (k : Int) < (n : Int) := by omega
      have HFk : Hid (0 ≤ F k ∧ F k < 18446744073709551616) := HF.out k hlt
      have HL : Hid ((txt F k).length ≤ 21 * k) := txt_len (F := F) (n := k) fun i hi => HF.out i (by omega)
      by_cases hk0 : k = 0
      · subst hk0
        go_wp2_with fail
        refine (appendUint (w.heap.size + 1) 0 (F 0) HFk.out.1 HFk.out.2 _ [] wr HO.out HZ.out (by omega) (HT.out.below HB.out)).mono ?_
        rintro e w2 ⟨v', rfl, hown2, hb2⟩
        obtain ⟨g2, cap2, rfl, _, _⟩ := hown2.form (by have := dec_pos (F 0).toNat; omega)
        have HO2 : Hid (w2.ownsRow (w.heap.size + 1) 5 1 (.slice (some ⟨g2, 0, none⟩) (txt F 1).length cap2) (txt F 1).length (byteCells (txt F 1))) := by
          show World.ownsRow _ _ _ _ _ _ _
          rw [txt_one]; simpa using hown2
        have hll : 0 + (decDigits (F 0).toNat).length = (txt F 1).length := by rw [txt_one]; omega
        rw [hll]
        have HB2 : Hid (Below w.heap.size w w2) := HB.out.trans (hb2.mono (by omega))
        have HZ2 : Hid (w.heap.size + 1 ≤ w2.heap.size) := by have := hb2.size; have := HZ.out; show _ ≤ _; omega
        clear hown2 hb2 hll
        go_wp2
        go_roundw
        case rel => exact ⟨1, g2, cap2, by omega, by go_num, rfl, HO2, HB2, HZ2⟩
        case measure => simp [intOf]; omega
      · have hi2 : (0 : Int) < (k : Int) := by omega
        have HN : Hid (∀ j u, ([.int .u8 46] : List Value)[j]? = some u → (wr.alloc (.cells #[.int .u8 46] 5)).cell? ((⟨wr.heap.size, 0, none⟩ : Addr).add j) = some u) := by
          intro j u hu
          cases j with
          | succ j => simp at hu
          | zero =>
            simp only [List.getElem?_cons_zero, Option.some.injEq] at hu
            subst hu
            rw [add_plain0, World.cell?_alloc_at _ _ _ _ rfl]; rfl
        go_wp2_with (at_builtin; refine wpList_append_lies _ rfl (.tmp 27) (.tmp 28) 25 rfl (w.heap.size + 1) 5 i0 (.int .u8 0) 1 1 Tryd.underlying25 hi hz0 hz1 hz2 rfl (by omega) _ _ _ rfl (HO.out.alloc _) ⟨wr.heap.size, 0, none⟩ 1 1 [.int .u8 46] rfl rfl HN.out (by simp [Value.oneCell']) (by omega) (by have := HL.out; unfold maxLen; omega) (by have := HL.out; omega) (by have := HZ.out; simp; omega) (wr.heap.size + 1) (by simp) ?_)
        intro g1 cap1 w1 hown1 hgrow1 _ _
        have HO1 : Hid (w1.ownsRow (w.heap.size + 1) 5 1 (.slice (some ⟨g1, 0, none⟩) ((txt F k).length + 1) cap1) ((txt F k).length + 1) (byteCells (txt F k) ++ [.int .u8 46])) := hown1
        have HB1 : Hid (Below w.heap.size w w1) := (HB.out.alloc (by have := HZ.out; omega) _).grown hgrow1 (by have := HZ.out; simp; omega) (fun q hq => by have := (HO.out.lt q hq).1; omega)
        have HZ1 : Hid (w.heap.size + 1 ≤ w1.heap.size) := by have := hgrow1.size; have := HZ.out; show _ ≤ _; simp at *; omega
        clear hown1 hgrow1 HN HO HB HZ c1
        go_wp2_with fail
        refine (appendUint (w.heap.size + 1) _ (F k) HFk.out.1 HFk.out.2 _ _ w1 HO1.out HZ1.out (by have := HL.out; omega) (HT.out.below HB1.out)).mono ?_
        rintro e w2 ⟨v', rfl, hown2, hb2⟩
        obtain ⟨g2, cap2, rfl, _, _⟩ := hown2.form (by have := dec_pos (F k).toNat; omega)
        have hll : (txt F k).length + 1 + (decDigits (F k).toNat).length = (txt F (k + 1)).length := by rw [txt_next hk0]; simp; omega
        have HO2 : Hid (w2.ownsRow (w.heap.size + 1) 5 1 (.slice (some ⟨g2, 0, none⟩) (txt F (k + 1)).length cap2) (txt F (k + 1)).length (byteCells (txt F (k + 1)))) := by
          show World.ownsRow _ _ _ _ _ _ _
          rw [hll] at hown2
          have e2 : byteCells (txt F (k + 1)) = byteCells (txt F k) ++ [.int .u8 46] ++ byteCells (decDigits (F k).toNat) := by rw [txt_next hk0, byteCells_append, byteCells_append]; rfl
          rw [e2]; exact hown2
        rw [hll]
        have HB2 : Hid (Below w.heap.size w w2) := HB1.out.trans (hb2.mono (by omega))
        have HZ2 : Hid (w.heap.size + 1 ≤ w2.heap.size) := by have := hb2.size; have := HZ1.out; show _ ≤ _; omega
        clear hown2 hb2 hll HO1 HB1 HZ1
        go_wp2
        go_roundw
        case rel => exact ⟨k + 1, g2, cap2, by omega, by go_num, rfl, HO2, HB2, HZ2⟩
        case measure => simp [intOf]; omega
    · obtain rfl : k = n := by omega
      go_wp2
      go_ret
      refine ⟨g, cap, rfl, fun i b hb => ?_, HB.out⟩
      have := HO.out.cells (g := g) rfl i (.int .u8 (b.toNat : Int)) (by simp [byteCells, hb])
      rw [add_plain0] at this; exact this

/-- Label.text, and ZZText over it. -/
def tx (F : Nat → Int) (n : Nat) : List UInt8 := if n = 0 then [48] else txt F n
theorem text_any (a : Option Addr) (n c : Nat) (F : Nat → Int) (hn : n ≤ 32768) (hF : Rg F n) (w : World) (hl : LS w a n F) (ht : Tab w) :
    Calls Tryd.prog 10 #[.agg #[.slice a n c]] w fun e w' => Texted w w' (tx F n) e := by
  unfold tx
  by_cases h : n = 0
  · subst h; rw [if_pos rfl]; exact text_zero a c w
  · rw [if_neg h]
    rcases hl with hl | ⟨b, rfl, hr⟩
    · exact absurd hl h
    · exact text_pos b n c F hn (by omega) hF w hr ht
theorem zztext (a : Option Addr) (n c : Nat) (F : Nat → Int) (hn : n ≤ 32768) (hF : Rg F n) (w : World) (hl : LS w a n F) (ht : Tab w) :
    Calls Tryd.prog 7 #[.agg #[.slice a n c]] w fun e w' => Texted w w' (tx F n) e := by
  have HK : Hid (Calls Tryd.prog 10 #[.agg #[.slice a n c]] (w.alloc (.cells #[.slice a n c] 28)) fun e w' => Texted (w.alloc (.cells #[.slice a n c] 28)) w' (tx F n) e) :=
    text_any a n c F hn hF _ (hl.alloc _) (ht.below ((Below.refl _ _).alloc (Nat.le_refl _) _))
  clear hl ht hF
  go_enter Tryd.func7, Tryd.ntmps7
  go_wp2_with fail
  refine HK.out.mono ?_
  rintro e w2 ⟨g, cap, rfl, hc, hb⟩
  have HC : Hid (∀ (i : Nat) (b : UInt8), (tx F n)[i]? = some b → w2.cell? ⟨g, i, none⟩ = some (.int .u8 (b.toNat : Int))) := hc
  have HB : Hid (Below w.heap.size w w2) := ((Below.refl _ _).alloc (Nat.le_refl _) _).trans (hb.mono (by simp))
  clear hc hb HK
  go_wp2
  go_ret
  exact ⟨g, cap, rfl, HC.out, HB.out⟩
end Go.Proofs.Qxb6604163aDoor.Txt
