/-
  THE SHELL OF A PROOF OF 'Rows.FnSortAboveMatchesStableMergeSortSaid' ('example.com/armslength/armslength/zzlaws_root_b1.FnSortAboveMatchesStableMergeSort'), WRITTEN BY PROGRAM (proof-skeleton.mjs, third state) off the guide's own print for that function. Not trusted: Lean checks it.
  ALL ELSE IS THE GUIDE's OWN WAY (howto/template/XProofs.lean; Derived/Test/ChunkProofs.lean for 'Below') at this function's number and types: leave it.
-/
import Derived.Test.Qxb6604140aRows
import Derived.Test.Qxb6604140aSortEdge
import Derived.WalkKit
import Derived.ProofKit
import Derived.OpenShut
import Derived.ShutString
import Derived.ChangeOld
import Derived.Below
namespace Go.Proofs.Qxb6604140a.fnSortAboveMatchesStableMergeSort
open Go.ChangeShapes Go.WideShapes Go.ChangeAt Go.RowKit
open Go.ChangeMaps (open_string shut_string)
set_option linter.unusedVariables false

theorem own : ownKnob Try.prog.godebug = none := by kernel_rfl
theorem laidOut : laidOutB Try.prog = true := by kernel_rfl

/-- WHAT THE WALK IS TOLD OF A SLICE OF INTEGERS THAT CAME IN: it is nil; or it leads to a row of 'cap' cells, the numbers 'zs' (the first 'len' are its elements, the rest its spare room), each fitting its kind. -/
def IsRow (k : IntKind) (w : World) (a : Option Addr) (len cap : Nat) (zs : List Int) : Prop :=
  (a = none ∧ len = 0 ∧ cap = 0 ∧ zs = []) ∨
  ∃ x, a = some x ∧ len ≤ cap ∧ cap ≤ maxLen ∧ zs.length = cap ∧ (∀ i, i < zs.length → w.cell? (x.add i) = some (.int k (zs.getD i 0))) ∧ ∀ n ∈ zs, (Lit.int k n).wf = true


open Go.Proofs.Qxb6604140a.Srt in
set_option maxHeartbeats 400000 in
theorem walk_zero (a : Option Addr) (c : Nat) (hc : a = none → c = 0) (bit : Int) (hb1 : bit ≤ 9223372036854775807) (w : World) :
    Calls Try.prog 7 #[.slice a 0 c, .int .i64 bit] w fun e w' => e = .returned (.bool true) ∧ Below w.heap.size w w' := by
  have HC : Hid (a = none → c = 0) := hc
  clear hc
  by_cases hneg : bit < 0
  · go_enter Try.func7, Try.ntmps7
    go_wp2
    go_ret
    exact ⟨rfl, Below.refl _ _⟩
  · obtain ⟨bn, rfl⟩ : ∃ bn : Nat, bit = (bn : Int) := ⟨bit.toNat, by omega⟩
    go_enter Try.func7, Try.ntmps7
    go_wp2_with (first | (go_at_call 21; go_in))
    go_wp2_with fail
    refine (clone_zero a c HC.out _).mono ?_
    rintro e w1 ⟨⟨a1, c1, rfl, ha1⟩, hb1⟩
    have HC1 : Hid (a1 = none → c1 = 0) := ha1
    clear ha1
    go_wp2_with fail
    refine (stable_zero a1 c1 HC1.out _ _).mono ?_
    rintro e w2 ⟨⟨a2, c2, rfl⟩, hb2⟩
    go_wp2_with fail
    refine (clone_zero a1 c1 HC1.out _).mono ?_
    rintro e w3 ⟨⟨a3, c3, rfl, ha3⟩, hb3⟩
    clear ha3
    go_wp2_with fail
    refine (zz_zero a3 c3 bn (by omega) _).mono ?_
    rintro e w4 ⟨rfl, hb4⟩
    go_wp2_with fail
    refine (same_zero a3 a2 c3 c2 _).mono ?_
    rintro e w5 ⟨rfl, rfl⟩
    go_wp2
    go_ret
    exact ⟨rfl, ((hb1.trans (hb2.mono hb1.size)).trans (hb3.mono (Nat.le_trans hb1.size hb2.size))).trans (hb4.mono (Nat.le_trans (Nat.le_trans hb1.size hb2.size) hb3.size))⟩

open Go.Proofs.Qxb6604140a.Srt in
set_option maxHeartbeats 400000 in
theorem walk_rows (x : Addr) (n cap : Nat) (F : Nat → Int) (hn0 : 1 ≤ n) (hnm : n ≤ 9223372036854775807) (bit : Int) (hb1 : bit ≤ 9223372036854775807) (w : World)
    (hcell : ∀ i, i < n → w.cell? (x.add i) = some (.int .u64 (F i))) (hF : ∀ i, i < n → 0 ≤ F i ∧ F i < 18446744073709551616) :
    Calls Try.prog 7 #[.slice (some x) n cap, .int .i64 bit] w fun e w' => e = .returned (.bool true) ∧ Below w.heap.size w w' := by
  have HC : Hid (∀ i, i < n → w.cell? (x.add i) = some (.int .u64 (F i))) := hcell
  have HF : Hid (∀ i, i < n → 0 ≤ F i ∧ F i < 18446744073709551616) := hF
  clear hcell hF
  by_cases hbig : 131072 < n
  · by_cases hbig2 : 1048576 < n
    · go_enter Try.func7, Try.ntmps7
      go_wp2
      go_ret
      exact ⟨rfl, Below.refl _ _⟩
    · go_enter Try.func7, Try.ntmps7
      go_wp2
      go_ret
      exact ⟨rfl, Below.refl _ _⟩
  · by_cases hneg : bit < 0
    · go_enter Try.func7, Try.ntmps7
      go_wp2
      go_ret
      exact ⟨rfl, Below.refl _ _⟩
    · obtain ⟨bn, rfl⟩ : ∃ bn : Nat, bit = (bn : Int) := ⟨bit.toNat, by omega⟩
      go_enter Try.func7, Try.ntmps7
      go_wp2_with (first | (go_at_call 21; go_in))
      go_wp2_with fail
      refine (clone_any x n cap F (by omega) _ HC.out).mono ?_
      rintro e w1 ⟨rfl, hr1, hb1⟩
      have HR1 : Hid (Row w1 w.heap.size n F) := hr1
      have z1 : w.heap.size < w1.heap.size := hr1.lt
      clear hr1
      go_wp2_with fail
      refine (stable_any w.heap.size n bn F hn0 (by omega) (by omega) _ (fun i hi => HR1.out.cell hi) HF.out).mono ?_
      rintro e w2 ⟨r, S, rfl, hr, hrow, hss, hb2⟩
      have HR2 : Hid (Row w2 r n S) := hrow
      have HS2 : Hid (SS (ky bn) (seg S 0 n) (seg F 0 n)) := hss
      have z2 : r < w2.heap.size := hrow.lt
      have HR1' : Hid (Row w2 w.heap.size n F) := HR1.out.of_block (hb2.block _ z1)
      clear hrow hss
      go_wp2_with fail
      refine (clone_any ⟨w.heap.size, 0, none⟩ n n F (by omega) _ (fun i hi => by rw [Srt.add_plain]; exact HR1'.out.cell hi)).mono ?_
      rintro e w3 ⟨rfl, hr3, hb3⟩
      have HR3 : Hid (Row w3 w2.heap.size n F) := hr3
      have z3 : w2.heap.size < w3.heap.size := hr3.lt
      have HR2' : Hid (Row w3 r n S) := HR2.out.of_block (hb3.block _ z2)
      clear hr3
      go_wp2_with fail
      refine (zz_any w2.heap.size n bn F hn0 (by omega) (by omega) _ HR3.out HF.out).mono ?_
      rintro e w4 ⟨rfl, R, hrow, hss, hg4⟩
      have HR4 : Hid (Row w4 w2.heap.size n R) := hrow
      have HG4 : Hid (w3.grownBy w4 (some w2.heap.size)) := hg4
      have HR2'' : Hid (Row w4 r n S) := HR2'.out.of_block (hg4.block r (by omega) (fun h => by cases h; omega))
      have heq : seg R 0 n = seg S 0 n := SS_one_only hss HS2.out
      have HEQ : Hid (∀ i, i < n → R i = S i) := fun i hi => seg_inj heq i (by omega) (by omega)
      clear hrow hss hg4 heq
      go_wp2_with fail
      refine (same_any w2.heap.size r n n n S (by omega) _ (fun i hi => by rw [HR4.out.cell hi, HEQ.out i hi]) (fun i hi => HR2''.out.cell hi)).mono ?_
      rintro e w5 ⟨rfl, m, rfl⟩
      go_wp2
      go_ret
      have s1 := hb1.size
      have s2 := hb2.size
      exact ⟨rfl, below_draws (((hb1.trans (hb2.mono s1)).trans (hb3.mono (Nat.le_trans s1 s2))).grown HG4.out (by omega) (fun k hk => by cases hk; omega)) m⟩

/-! ### STEP 1: THE WALK: the Go text returns true, AND WRITES NOTHING THAT WAS THERE: 'Below w.heap.size w w'' (Derived/Below.lean: '.refl', '.alloc', '.drew', '.setCell' at a new block, '.trans'). Open each 'IsRow' by 'rcases' AHEAD of 'go_enter'; part every test ahead of the walk. -/
theorem walk (a0 : Option Addr) (len0 cap0 : Nat) (z0 : List Int) (a1 : Int) (w : World) (w0 : IsRow .u64 w a0 len0 cap0 z0) (w1 : (Lit.int .i64 a1).wf = true) :
    Calls Try.prog 7 #[.slice a0 len0 cap0, .int .i64 a1] w fun e w' => e = .returned (.bool true) ∧ Below w.heap.size w w' := by
  obtain ⟨bd0, bd1⟩ := bounds_i64 w1
  rcases w0 with ⟨rfl, rfl, rfl, rfl⟩ | ⟨x, rfl, hl, hm, hz, hcell, hwz⟩
  · exact walk_zero none 0 (fun _ => rfl) a1 bd1 w
  · by_cases h0 : len0 = 0
    · subst h0; exact walk_zero (some x) cap0 (fun h => by cases h) a1 bd1 w
    · refine walk_rows x len0 cap0 (fun i => z0.getD i 0) (by omega) (by unfold maxLen at hm; omega) a1 bd1 w (fun i hi => hcell i (by omega)) (fun i hi => ?_)
      have hi2 : i < z0.length := by omega
      have hw := bounds_u64 (hwz (z0[i]) (List.getElem_mem hi2))
      simp only [List.getD_eq_getElem?_getD, List.getElem?_eq_getElem hi2, Option.getD_some]
      omega

/-! ### THE ROW's STEP: WRITTEN OUT: LEAVE IT -/
set_option maxRecDepth 100000 in
theorem lifted (os : Os) (started : os.Started) (H : Type) (enc : TypeId × Value → H) :
    ReturnsInHanded {} Try.checked os 7 .any (Rows.fnSortAboveMatchesStableMergeSortSpec.pre6 enc Try.prog Try.f7 Rows.fnSortAboveMatchesStableMergeSortRow.domain false) (Rows.fnSortAboveMatchesStableMergeSortSpec.post enc Try.prog Try.f7 false true false false) := by
  refine returnsInHanded_of_change (C := Try.checked) own started (by kernel_rfl) Try.func7
    (ChangeSpec.witness6 (enc := enc) (C := Try.checked) false ⟨#[], #[.slice none 0 0, .int .i64 0], []⟩ 8 (by kernel_rfl) (by kernel_rfl) (by kernel_rfl) (by kernel_rfl)) ?_
  intro W base args ds gs before hval0 hW hcnd _
  have hval : ∀ (j : Nat) t v, Try.f7.params[j]? = some t → args[j]? = some v → Value.okWide Try.prog W .any base t v := hval0
  have hW' := hW
  obtain ⟨p, q, hA0, hV, rfl, hfz, hnd⟩ := hW
  have hA : DataW.TrodAll enc Try.prog W 0 (fun _ => true) true Try.f7.params.toList args.toList ds p := hA0
  rw [Try.params7] at hA hval
  obtain ⟨v0, vs0, d0, ds0, p0, q0, hargs, rfl, rfl, h0, r0⟩ := trodAll_cons hA
  obtain ⟨v1, vs1, d1, ds1, p1, q1, rfl, rfl, rfl, h1, r1⟩ := trodAll_cons r0
  obtain ⟨rfl, rfl, rfl⟩ := trodAll_nil r1
  obtain rfl : args = #[v0, v1] := by cases args; simp_all
  obtain ⟨rfl, rfl⟩ := trodVars_none hV
  obtain ⟨a0, len0, cap0, rfl⟩ := okWide_slice Try.underlying37 (hval 0 37 v0 rfl rfl)
  have k0 := h0
  have lt0 : ∀ x ∈ p0, x.block < W.heap.size := by obtain ⟨m, hm⟩ := k0; exact DataW.trod_lt m _ _ _ hm
  obtain ⟨z0, w0⟩ : ∃ zs, IsRow .u64 W a0 len0 cap0 zs := by
    obtain ⟨fuel, hf⟩ := h0
    rcases open_ints Try.underlying37 Try.underlying23 (by kernel_rfl) hf with ⟨hcs, _⟩ | ⟨x, l, c, zs, hcs, _, hl, hm, hz, _, hcell, hwz⟩
    · simp [Value.cells] at hcs
      obtain ⟨rfl, rfl, rfl⟩ := hcs
      exact ⟨[], .inl ⟨rfl, rfl, rfl, rfl⟩⟩
    · simp [Value.cells] at hcs
      obtain ⟨rfl, rfl, rfl⟩ := hcs
      exact ⟨zs, .inr ⟨_, rfl, hl, hm, by simpa using hz, hcell, hwz⟩⟩
  obtain ⟨a1, rfl, rfl, rfl, w1⟩ := open_int Try.underlying3 (hval 1 3 v1 rfl rfl) h1
  clear hA0 hval0
  refine (walk a0 len0 cap0 z0 a1 W w0 w1).mono fun e W' ⟨he, bel⟩ => ?_
  subst he
  exact ⟨_, rfl, _, _, _, [], _, [], hW', trodAll_mk1 (shut_bool Try.underlying4 _), (trodAll_cons_mk (Below.trod laidOut (by kernel_rfl) (of_decide_eq_true (by kernel_rfl)) k0 bel lt0) (trodAll_cons_mk (shut_int Try.underlying3 w1) trodAll_mk0)), rfl, bel.frame _, fun h => by cases h⟩

theorem over : Rows.fnSortAboveMatchesStableMergeSortRow.holds Try.pinned (OpenSpec.ofChange Rows.fnSortAboveMatchesStableMergeSortSpec) :=
  OpenClaim.holds_of_wide 7 Try.f7 rfl rfl rfl rfl rfl rfl rfl ⟨rfl, rfl, rfl, rfl, rfl⟩ rfl rfl rfl rfl rfl (by kernel_rfl) Try.func7 (by kernel_rfl)
    (of_decide_eq_true (by kernel_rfl)) (by unfold Func.isWrapper; first | (rw [if_pos (by decide +kernel)]; kernel_rfl) | (rw [if_neg (by decide +kernel)]; exact ⟨rfl, rfl⟩))
    (fun os started H enc _ => lifted os started H enc)

/-- ████ THE STATEMENT ████ -/
theorem proved : Rows.FnSortAboveMatchesStableMergeSortSaid := over
#print axioms proved
end Go.Proofs.Qxb6604140a.fnSortAboveMatchesStableMergeSort
