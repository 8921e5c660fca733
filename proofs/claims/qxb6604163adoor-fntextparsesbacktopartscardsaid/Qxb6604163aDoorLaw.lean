/-
  THE LAW's WALK: the label's text is read back.
-/
import Derived.Test.Qxb6604163aDoorText
namespace Go.Proofs.Qxb6604163aDoor.Txt
open Go.RowKit
open Go.Lib (TabIs pow10Tab tabBelow_of_tabIs decDigits byteCells byteCells_append byteCells_length)
set_option linter.unusedVariables false

/-! ### Plain -/
/-- Bounds on the reader's state behind k bytes. -/
structure Ok (k : Nat) (s : St) : Prop where
  got : s.got.length ≤ k
  nd : s.nd ≤ k
  lo : 0 ≤ s.cur
  hi : s.cur < 18446744073709551616
theorem step_dot {s t : St} {b : UInt8} (h : step s b = some t) (e : b.toNat = 46) : s.nd ≠ 0 ∧ t = ⟨s.got ++ [s.cur], 0, 0, false⟩ := by
  unfold step at h
  rw [if_pos e] at h
  by_cases c : s.nd = 0
  · rw [if_pos c] at h; cases h
  · rw [if_neg c] at h; exact ⟨c, (Option.some.inj h).symm⟩
theorem step_dig {s t : St} {b : UInt8} (h : step s b = some t) (e : b.toNat ≠ 46) : 48 ≤ b.toNat ∧ b.toNat ≤ 57 ∧ (s.nd = 1 → s.lead = false) ∧ s.cur ≤ (18446744073709551615 - ((b.toNat : Int) - 48)) / 10 ∧
    t = ⟨s.got, s.cur * 10 + ((b.toNat : Int) - 48), s.nd + 1, if s.nd = 0 ∧ b.toNat = 48 then true else s.lead⟩ := by
  unfold step at h
  rw [if_neg e] at h
  by_cases c1 : b.toNat < 48 ∨ 57 < b.toNat
  · rw [if_pos c1] at h; cases h
  rw [if_neg c1] at h
  by_cases c2 : s.nd = 1 ∧ s.lead = true
  · rw [if_pos c2] at h; cases h
  rw [if_neg c2] at h
  by_cases c3 : (18446744073709551615 - ((b.toNat : Int) - 48)) / 10 < s.cur
  · rw [if_pos c3] at h; cases h
  rw [if_neg c3] at h
  refine ⟨by omega, by omega, fun q => ?_, by omega, (Option.some.inj h).symm⟩
  cases el : s.lead with
  | false => rfl
  | true => exact absurd ⟨q, el⟩ c2
theorem step_ok {k : Nat} {s t : St} {b : UInt8} (hs : Ok k s) (h : step s b = some t) : Ok (k + 1) t := by
  by_cases e : b.toNat = 46
  · obtain ⟨_, rfl⟩ := step_dot h e
    exact ⟨by simp; exact hs.got, by simp, by simp, by simp⟩
  · obtain ⟨h1, h2, _, h4, rfl⟩ := step_dig h e
    have a1 := hs.got
    have a2 := hs.nd
    have a3 := hs.lo
    exact ⟨by show s.got.length ≤ _; omega, by show s.nd + 1 ≤ _; omega, by show 0 ≤ s.cur * 10 + _; omega, by show s.cur * 10 + _ < _; omega⟩
theorem run_ok {s f : St} {l : List UInt8} {k : Nat} (hs : Ok k s) (h : run s l = some f) : Ok (k + l.length) f := by
  induction l generalizing s k with
  | nil => simp only [run, Option.some.injEq] at h; subst h; exact hs
  | cons b l ih =>
    simp only [run] at h
    cases e : step s b with
    | none => rw [e] at h; cases h
    | some t =>
      rw [e] at h
      have := ih (step_ok hs e) h
      have e2 : k + (b :: l).length = k + 1 + l.length := by simp; omega
      rw [e2]; exact this
abbrev s0 : St := ⟨[], 0, 0, false⟩
theorem s0_ok : Ok 0 s0 := ⟨by simp, by simp, by simp, by simp⟩
theorem run_bound {T : List UInt8} {k : Nat} {t : St} (h : run s0 (T.take k) = some t) : Ok k t := by
  have := run_ok s0_ok h
  have hl : (T.take k).length ≤ k := by simp; omega
  exact ⟨by have := this.got; omega, by have := this.nd; omega, this.lo, this.hi⟩
/-- The text read back gives the parts. -/
theorem read_back {F : Nat → Int} {n : Nat} (hF : Rg F n) : ∃ f, run s0 (tx F n) = some f ∧ f.nd ≠ 0 ∧ (n = 0 → f.got = [] ∧ f.cur = 0) ∧ (n ≠ 0 → f.got ++ [f.cur] = parts F n) := by
  unfold tx
  by_cases c : n = 0
  · rw [if_pos c]; exact ⟨_, run_zero, by simp, fun _ => ⟨rfl, rfl⟩, fun h => absurd c h⟩
  · rw [if_neg c]
    obtain ⟨m, rfl⟩ : ∃ m, n = m + 1 := ⟨n - 1, by omega⟩
    obtain ⟨nd, h1, h2⟩ := run_txt F m hF
    exact ⟨_, h2, by show nd ≠ 0; omega, fun h => absurd h c, fun _ => (parts_succ F m).symm⟩
theorem tx_len {F : Nat → Int} {n : Nat} (hF : Rg F n) : (tx F n).length ≤ 21 * n + 1 := by
  unfold tx
  by_cases c : n = 0
  · rw [if_pos c]; simp
  · rw [if_neg c]; have := txt_len hF; omega

theorem new_cell (w : World) (v : Int) : Hid (∀ j u, ([.int .u64 v] : List Value)[j]? = some u → (w.alloc (.cells #[.int .u64 v] 30)).cell? ((⟨w.heap.size, 0, none⟩ : Addr).add j) = some u) := by
  intro j u hu
  cases j with
  | succ j => simp at hu
  | zero =>
    simp only [List.getElem?_cons_zero, Option.some.injEq] at hu
    subst hu
    rw [add_plain0, World.cell?_alloc_at _ _ _ _ rfl]; rfl
def us (l : List Int) : List Value := l.map fun v => .int .u64 v

theorem us_parts {F : Nat → Int} {n i : Nat} (h : i < n) : (us (parts F n))[i]? = some (.int .u64 (F i)) := by simp [us, parts, h]
theorem row_of_owns {w : World} {base g n cap : Nat} {F : Nat → Int} (hn : 0 < n) (h : w.ownsRow base 30 1 (.slice (some ⟨g, 0, none⟩) n cap) n (us (parts F n))) : Row w g n F := by
  rcases h.2 with ⟨h0, _⟩ | ⟨g', cap', cur, hv, _, hg, hnc, _, hsz, htk⟩
  · cases h0
  · simp only [Value.slice.injEq, Option.some.injEq, Addr.mk.injEq] at hv
    obtain ⟨⟨rfl, _⟩, _, rfl⟩ := hv
    have hs : cur.size = cap := by omega
    refine ⟨cap, fun i => cur[i]?.getD (.int .u64 0), hnc, ⟨cur, hg, hs, fun i hi => ?_⟩, fun i hi => ?_⟩
    · have : cur[i]? = some cur[i] := Array.getElem?_eq_getElem (by omega)
      simp [this]
    · have h1 : (cur.toList.take (n * 1))[i]? = some (.int .u64 (F i)) := by rw [htk]; exact us_parts hi
      rw [List.getElem?_take_of_lt (by omega)] at h1
      have h2 : cur[i]? = some (.int .u64 (F i)) := by simpa using h1
      simp [h2]
theorem wrap_cur {cur : Int} {x : Nat} (x1 : 48 ≤ x) (x2 : x ≤ 57) (h0 : 0 ≤ cur) (h : cur ≤ (18446744073709551615 - ((x : Int) - 48)) / 10) : IntKind.u64.wrap (IntKind.u64.wrap (cur * 10) + ((x : Int) - 48) % 256) = cur * 10 + ((x : Int) - 48) := by
  have e : ∀ z : Int, 0 ≤ z → z < 18446744073709551616 → IntKind.u64.wrap z = z := fun z a b => by simp [IntKind.wrap, IntKind.signed, IntKind.bits]; omega
  have e2 : ((x : Int) - 48) % 256 = (x : Int) - 48 := by omega
  rw [e2, e (cur * 10) (by omega) (by omega), e _ (by omega) (by omega)]
theorem us_snoc (l : List Int) (v : Int) : us (l ++ [v]) = us l ++ [.int .u64 v] := by simp [us]

set_option maxRecDepth 100000 in
set_option maxHeartbeats 1000000 in
theorem law_core (a : Option Addr) (n ca : Nat) (F : Nat → Int) (hn : n ≤ 32768) (hF : Rg F n) (w : World) (h1 : Came w a n ca F) (hz : ezB F n = false) (ht : Tab w) :
    Calls Tryd.prog 3 #[.slice a n ca] w fun e w' => e = .returned (.bool true) ∧ Below w.heap.size w w' := by
  have H1 : Hid (Came w a n ca F) := h1
  have HF : Hid (Rg F n) := hF
  have HT : Hid (Tab w) := ht
  have HZ : Hid (ezB F n = false) := hz
  obtain ⟨i0, hi, hz0, hz1, hz2⟩ := info_parts info30
  clear h1 hF ht
  go_enter Tryd.func3, Tryd.ntmps3
  go_wp2_with (first | (go_at_call 4; go_in))
  go_wp2_with fail
  refine (ez_any a n ca F (by omega) _ H1.out).mono ?_
  rintro e w0 ⟨rfl, rfl⟩
  rw [hz]
  clear hz
  go_wp2_with fail
  refine (clone_came a n ca F (by omega) _ H1.out).mono ?_
  rintro e w2 ⟨⟨a1, c1, rfl, hl1⟩, hb1⟩
  have L1 : Hid (LS w2 a1 n F) := hl1
  have B1 : Hid (Below w0.heap.size w0 w2) := hb1
  clear hl1 hb1
  go_wp2_with fail
  refine (make_any a1 n c1 _).mono ?_
  rintro e w3 ⟨rfl, hb2⟩
  have L2 : Hid (LS w3 a1 n F) := L1.out.below hb2
  have B2 : Hid (Below w0.heap.size w0 w3) := B1.out.trans (hb2.mono B1.out.size)
  clear hb2 L1 B1
  go_wp2_with fail
  refine (zztext a1 n c1 F hn HF.out _ L2.out (HT.out.below B2.out)).mono ?_
  rintro e wt ⟨g, cap, rfl, hc, hb3⟩
  have L3 : Hid (LS wt a1 n F) := L2.out.below hb3
  have B3 : Hid (Below w0.heap.size w0 wt) := B2.out.trans (hb3.mono B2.out.size)
  have HC : Hid (∀ (i : Nat) (b : UInt8), (tx F n)[i]? = some b → wt.cell? ⟨g, i, none⟩ = some (.int .u8 (b.toNat : Int))) := hc
  obtain ⟨f, hf, hfn, hfz, hfp⟩ := read_back HF.out
  have RF : Hid (run s0 (tx F n) = some f) := hf
  have RN : Hid (f.nd ≠ 0) := hfn
  have RZ : Hid (n = 0 → f.got = [] ∧ f.cur = 0) := hfz
  have RP : Hid (n ≠ 0 → f.got ++ [f.cur] = parts F n) := hfp
  have HL : Hid ((tx F n).length ≤ 21 * n + 1) := tx_len HF.out
  clear hc hb3 L2 B2 hf hfn hfz hfp
  generalize hT : tx F n = T at *
  have TT : Hid (tx F n = T) := hT
  clear hT
  go_wp2
  go_loopw [4, 5, 6, 7, 8] (fun vg vc vn vl vi wr => ∃ (k : Nat) (st : St), k ≤ T.length ∧ vi = .int .i64 (k : Int) ∧ vc = .int .u64 st.cur ∧ vn = .int .i64 (st.nd : Int) ∧ vl = .bool st.lead ∧ Hid (run s0 (T.take k) = some st) ∧ Hid (wr.ownsRow wt.heap.size 30 1 vg st.got.length (us st.got)) ∧ Hid (Below wt.heap.size wt wr)) (fun _ _ _ _ i _ => T.length - (intOf i).toNat)
  case atStart => exact ⟨0, s0, by omega, rfl, rfl, rfl, rfl, rfl, World.ownsRow_nil _ _ _ _, Below.refl _ _⟩
  case round =>
    obtain ⟨k, ⟨got, cur, nd, lead⟩, hk, rfl, rfl, rfl, rfl, HRn, HO, HB⟩ := hrel
    have HK : Hid (Ok k ⟨got, cur, nd, lead⟩) := run_bound HRn.out
    replace HO : Hid (wr.ownsRow wt.heap.size 30 1 _ got.length (us got)) := HO
    by_cases hlt : k < T.length
    · obtain ⟨b, hb⟩ : ∃ b, T[k]? = some b := ⟨_, List.getElem?_eq_getElem hlt⟩
      obtain ⟨t', hst, hrn⟩ := run_next RF.out HRn.out hb
      have c1 : wr.cell? ⟨g, k, none⟩ = some (.int .u8 (b.toNat : Int)) := by
        have := HC.out k b hb
        rw [HB.out.cell (p := ⟨g, k, none⟩) (block_lt_of_cell this)]; exact this
      have HR2 : Hid (run s0 (T.take (k + 1)) = some t') := hrn
      have hi1 : (k : Int) < (T.length : Int) := by omega
      clear hrn hb
      by_cases hdot : b.toNat = 46
      · obtain ⟨hnd, rfl⟩ := step_dot hst hdot
        have e1 : ((b.toNat : Int) == 46) = true := by simp; omega
        have e2 : ((nd : Int) == 0) = false := by simp; exact hnd
        have HN := new_cell wr cur
        clear hst hnd hdot
        go_wp2_with (at_builtin; refine wpList_append_lies _ rfl (.tmp 38) (.tmp 40) 22 rfl wt.heap.size 30 i0 (.int .u64 0) 1 8 Tryd.underlying22 hi hz0 hz1 hz2 rfl (by omega) _ _ _ rfl (HO.out.alloc _) ⟨wr.heap.size, 0, none⟩ 1 1 [.int .u64 cur] rfl rfl HN.out (by simp [Value.oneCell']) (by omega) (by have h1 : got.length ≤ k := HK.out.got; have := HL.out; unfold maxLen; omega) (by have h1 : got.length ≤ k := HK.out.got; have := HL.out; omega) (by have := HB.out.size; simp; omega) (wr.heap.size + 1) (by simp) ?_)
        intro g1 cap1 w1 hown1 hgrow1 _ _
        have HO1 : Hid (w1.ownsRow wt.heap.size 30 1 (.slice (some ⟨g1, 0, none⟩) (got.length + 1) cap1) (got ++ [cur]).length (us (got ++ [cur]))) := by
          show World.ownsRow _ _ _ _ _ _ _
          rw [us_snoc, List.length_append]; exact hown1
        have HB1 : Hid (Below wt.heap.size wt w1) := (HB.out.alloc (by exact HB.out.size) _).grown hgrow1 (by have := HB.out.size; simp; omega) (fun q hq => (HO.out.lt q hq).1)
        have hTl := HL.out
        clear hown1 hgrow1 HN HO HB c1 HK
        go_wp2
        go_roundw
        case rel => exact ⟨k + 1, _, by omega, by go_num, rfl, rfl, rfl, HR2, HO1, HB1⟩
        case measure => simp [intOf]; omega
      · obtain ⟨x1, x2, x3, x4, rfl⟩ := step_dig hst hdot
        have x4' : cur ≤ (18446744073709551615 - ((b.toNat : Int) - 48)) / 10 := x4
        replace HR2 : Hid (run s0 (T.take (k + 1)) = some ⟨got, cur * 10 + ((b.toNat : Int) - 48), nd + 1, if nd = 0 ∧ b.toNat = 48 then true else lead⟩) := HR2
        replace x3 : nd = 1 → lead = false := x3
        generalize b.toNat = x at *
        have e1 : ((x : Int) == 46) = false := by simp; omega
        have e2 : decide ((x : Int) < 48) = false := by simp; omega
        have e3 : decide (57 < (x : Int)) = false := by simp; omega
        have e5 : cur ≤ (18446744073709551615 - ((x : Int) - 48) % 256) / 10 := by omega
        have hcl : 0 ≤ cur := HK.out.lo
        have HW : Hid (IntKind.u64.wrap (IntKind.u64.wrap (cur * 10) + ((x : Int) - 48) % 256) = cur * 10 + ((x : Int) - 48)) := wrap_cur x1 x2 hcl x4'
        have hndk : nd ≤ k := HK.out.nd
        have hTl := HL.out
        clear hst hdot x4 x4' x1 x2 hcl HK HRn
        by_cases hnd0 : nd = 0
        · subst hnd0
          by_cases hx : x = 48
          · have e4 : ((x : Int) == 48) = true := by simp; omega
            have HR3 : Hid (run s0 (T.take (k + 1)) = some ⟨got, cur * 10 + ((x : Int) - 48), 0 + 1, true⟩) := by
              have := HR2.out; rw [if_pos ⟨rfl, hx⟩] at this; exact this
            clear hx HR2 x3
            go_wp2
            go_roundw
            case rel => exact ⟨k + 1, ⟨got, _, 0 + 1, true⟩, by omega, by go_num, congrArg _ HW.out, rfl, rfl, HR3, HO, HB⟩
            case measure => simp [intOf]; omega
          · have e4 : ((x : Int) == 48) = false := by simp; omega
            have HR3 : Hid (run s0 (T.take (k + 1)) = some ⟨got, cur * 10 + ((x : Int) - 48), 0 + 1, lead⟩) := by
              have := HR2.out; rw [if_neg (fun q => hx q.2)] at this; exact this
            clear hx HR2 x3
            go_wp2
            go_roundw
            case rel => exact ⟨k + 1, ⟨got, _, 0 + 1, lead⟩, by omega, by go_num, congrArg _ HW.out, rfl, rfl, HR3, HO, HB⟩
            case measure => simp [intOf]; omega
        · have e6 : ((nd : Int) == 0) = false := by simp; omega
          have HR3 : Hid (run s0 (T.take (k + 1)) = some ⟨got, cur * 10 + ((x : Int) - 48), nd + 1, lead⟩) := by
            have := HR2.out; rw [if_neg (fun q => hnd0 q.1)] at this; exact this
          clear HR2
          by_cases hnd1 : nd = 1
          · obtain rfl := x3 hnd1
            subst hnd1
            clear hnd0 x3 e6
            go_wp2
            go_roundw
            case rel => exact ⟨k + 1, ⟨got, _, 1 + 1, false⟩, by omega, by go_num, congrArg _ HW.out, rfl, rfl, HR3, HO, HB⟩
            case measure => simp [intOf]; omega
          · have e7 : ((nd : Int) == 1) = false := by simp; omega
            clear hnd0 hnd1 x3
            go_wp2
            go_roundw
            case rel => exact ⟨k + 1, ⟨got, _, nd + 1, lead⟩, by omega, by go_num, congrArg _ HW.out, by go_num, rfl, HR3, HO, HB⟩
            case measure => simp [intOf]; omega
    · obtain rfl : k = T.length := by omega
      have hfe : f = ⟨got, cur, nd, lead⟩ := by
        have h1 := HRn.out
        rw [List.take_length] at h1
        exact Option.some.inj (RF.out.symm.trans h1)
      subst hfe
      replace RZ : Hid (n = 0 → got = [] ∧ cur = 0) := RZ
      replace RP : Hid (n ≠ 0 → got ++ [cur] = parts F n) := RP
      have e2 : ((nd : Int) == 0) = false := by have h1 : nd ≠ 0 := RN.out; simp; exact h1
      have HN := new_cell wr cur
      have hgk : got.length ≤ T.length := HK.out.got
      have hTl := HL.out
      have HG : Hid (got.length ≤ 21 * n + 1) := by show _ ≤ _; omega
      clear RN RF HRn HK hgk hTl hlt hk
      by_cases hn0 : n = 0
      · subst hn0
        obtain ⟨rfl, rfl⟩ := RZ.out rfl
        have tl : ((T.length : Int) == 1) = true := by rw [← TT.out]; rfl
        clear TT RP RZ HL
        go_wp2_with (at_builtin; refine wpList_append_lies _ rfl (.tmp 75) (.tmp 77) 22 rfl wt.heap.size 30 i0 (.int .u64 0) 1 8 Tryd.underlying22 hi hz0 hz1 hz2 rfl (by omega) _ 0 [] rfl (HO.out.alloc _) ⟨wr.heap.size, 0, none⟩ 1 1 [.int .u64 0] rfl rfl HN.out (by simp [Value.oneCell']) (by omega) (by unfold maxLen; omega) (by omega) (by have := HB.out.size; simp; omega) (wr.heap.size + 1) (by simp) ?_)
        intro g1 cap1 w1 hown1 hgrow1 _ _
        have c2 : w1.cell? ⟨g1, 0, none⟩ = some (.int .u64 0) := by
          have := hown1.cells (g := g1) rfl 0 (.int .u64 0) rfl
          rw [add_plain0] at this; exact this
        have HB1 : Hid (Below wt.heap.size wt w1) := (HB.out.alloc (by exact HB.out.size) _).grown hgrow1 (by have := HB.out.size; simp; omega) (fun q hq => (HO.out.lt q hq).1)
        clear hown1 hgrow1 HN HO HB
        go_wp2
        go_ret
        exact ⟨rfl, B3.out.trans (HB1.out.mono B3.out.size)⟩
      · have HP : Hid (got ++ [cur] = parts F n) := RP.out hn0
        obtain ⟨b, rfl, hrow⟩ : ∃ b, a1 = some ⟨b, 0, none⟩ ∧ Row wt b n F := by
          rcases L3.out with h | h
          · exact absurd h hn0
          · exact h
        have HRow : Hid (Row wt b n F) := hrow
        have hgl : got.length + 1 = n := by
          have := congrArg List.length HP.out
          simpa [parts] using this
        have hz0' : ((n : Int) == 0) = false := by simp; exact hn0
        have hzl : (F (n - 1) == 0) = false := by have := ez_last HZ.out hn0; simpa using this
        clear TT RP RZ hrow L3 HZ HL
        go_wp2_with (at_builtin; refine wpList_append_lies _ rfl (.tmp 75) (.tmp 77) 22 rfl wt.heap.size 30 i0 (.int .u64 0) 1 8 Tryd.underlying22 hi hz0 hz1 hz2 rfl (by omega) _ got.length (us got) rfl (HO.out.alloc _) ⟨wr.heap.size, 0, none⟩ 1 1 [.int .u64 cur] rfl rfl HN.out (by simp [Value.oneCell']) (by omega) (by have := HG.out; unfold maxLen; omega) (by have := HG.out; omega) (by have := HB.out.size; simp; omega) (wr.heap.size + 1) (by simp) ?_)
        intro g1 cap1 w1 hown1 hgrow1 _ _
        rw [← us_snoc, HP.out] at hown1
        have HB1 : Hid (Below wt.heap.size wt w1) := (HB.out.alloc (by exact HB.out.size) _).grown hgrow1 (by have := HB.out.size; simp; omega) (fun q hq => (HO.out.lt q hq).1)
        have HR1 : Hid (Row w1 g1 n F) := row_of_owns (by omega) hown1
        have HR2 : Hid (Row w1 b n F) := HRow.out.of_block (HB1.out.block b HRow.out.lt)
        have c2 : w1.cell? ⟨g1, n - 1, none⟩ = some (.int .u64 (F (n - 1))) := HR1.out.cell (by omega)
        have hpos : (0 : Int) < (n : Int) := by omega
        clear hown1 hgrow1 HN HO HB hgl HRow HP
        go_wp2_with fail
        refine (same_row g1 b n cap1 c1 F (by omega) w1 HR1.out HR2.out).mono ?_
        rintro e w4 ⟨rfl, m, rfl⟩
        go_wp2
        go_ret
        exact ⟨rfl, (B3.out.trans (HB1.out.mono B3.out.size)).trans ⟨rfl, rfl, rfl, Nat.le_refl _, fun _ _ => rfl⟩⟩
/-- The law, whatever came in. -/
theorem law_any (a : Option Addr) (n ca : Nat) (F : Nat → Int) (hm : n ≤ 9223372036854775807) (hF : Rg F n) (w : World) (h1 : Came w a n ca F) (ht : Tab w) :
    Calls Tryd.prog 3 #[.slice a n ca] w fun e w' => e = .returned (.bool true) ∧ Below w.heap.size w w' := by
  by_cases b0 : n ≤ 32768
  · cases e0 : ezB F n with
    | true =>
      have H0 : Hid (Came w a n ca F) := h1
      clear h1 hF ht
      go_enter Tryd.func3, Tryd.ntmps3
      go_wp2_with (first | (go_at_call 4; go_in))
      go_wp2_with fail
      refine (ez_any a n ca F (by omega) _ H0.out).mono ?_
      rintro e wz ⟨rfl, rfl⟩
      rw [e0]
      clear e0
      go_wp2
      go_ret
      exact ⟨rfl, Below.refl _ _⟩
    | false => exact law_core a n ca F b0 hF w h1 e0 ht
  · clear h1 hF ht
    go_enter Tryd.func3, Tryd.ntmps3
    go_wp2
    all_goals (go_ret; exact ⟨rfl, Below.refl _ _⟩)
end Go.Proofs.Qxb6604163aDoor.Txt
