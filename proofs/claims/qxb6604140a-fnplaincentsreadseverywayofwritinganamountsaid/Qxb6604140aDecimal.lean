import Derived.Test.Qxb6604140aCentsCalls
import Derived.Test.Qxb6604140aCentsTexts
import Derived.Laws.IdiomStrings
namespace Go.Proofs.Qxb6604140a.Cents
open Go.RowKit

theorem alen44 : Try.prog.arrayLen 44 = 20 := by kernel_rfl
theorem elem44 : Try.prog.elem 44 = 5 := by kernel_rfl
theorem und44 : Try.prog.underlying 44 = some (.array (Try.prog.arrayLen 44) (Try.prog.elem 44)) := by kernel_rfl
theorem size5 (w : World) : (sizeOf 5).run Try.prog w = .ok 1 w := by kernel_rfl

theorem run_tail (w : World) (b k : Nat) (hk : k < 20) :
    (Instr.sliceAt 44 (.pointer (some ⟨b, 0, none⟩)) (some (.int .i64 (k : Int))) none none).run Try.prog w = .ok (.slice (some ⟨b, k, none⟩) (20 - k) (20 - k)) w := by
  rw [run_sliceAt_array_l w 44 _ und44 .i64 (k : Int) (by omega) (by rw [alen44]; omega), elem44, size5]
  have h2 : ¬ 20 = k := by omega
  simp [slicedAt, alen44, Result.andThen, h2, Addr.add]
  exact fun h => h.symm

theorem dt_bridge {arr : Array Value} {L : List UInt8} {k : Nat} (hL : k + L.length = 20) (h : ∀ j b, L[j]? = some b → arr[k + j]? = some (.int .u8 (b.toNat : Int))) (w : World) :
    (convert 27 9 (.slice (some ⟨w.heap.size, k, none⟩) (20 - k) (20 - k))).run Try.prog (w.alloc (.cells arr 44)) = .ok (.string ⟨L.toArray⟩) (w.alloc (.cells arr 44)) := by
  have e : 20 - k = L.length := by omega
  rw [e]
  refine run_convert_bytes_back _ 27 9 5 _ _ L Try.underlying27 Try.underlying5 Try.underlying9 ?_
  intro j hj
  have hp : (⟨w.heap.size, k, none⟩ : Addr).add j = ⟨w.heap.size, k + j, none⟩ := by simp [Addr.add]
  rw [hp, World.cell?_alloc_at _ _ _ _ rfl, h j L[j] (List.getElem?_eq_getElem hj)]

theorem dt_step {arr : Array Value} {L : List UInt8} {k X V : Nat} (hk : 1 ≤ k) (hX : 0 < X) (hsz : arr.size = 20) (hk2 : k ≤ 20) (HX : X < 10 ^ k) (HD : dec 20 V = dec k X ++ L) (HL : k + L.length = 20)
    (HA : ∀ j b, L[j]? = some b → arr[k + j]? = some (.int .u8 (b.toNat : Int))) :
    X / 10 < 10 ^ (k - 1) ∧ dec 20 V = dec (k - 1) (X / 10) ++ (UInt8.ofNat (X % 10 + 48) :: L) ∧ (k - 1) + (UInt8.ofNat (X % 10 + 48) :: L).length = 20 ∧
    (∀ j b, (UInt8.ofNat (X % 10 + 48) :: L)[j]? = some b → (arr.setIfInBounds (k - 1) (.int .u8 ((X : Int) % 10 + 48)))[(k - 1) + j]? = some (.int .u8 (b.toNat : Int))) := by
  obtain ⟨k, rfl⟩ : ∃ k', k = k' + 1 := ⟨k - 1, by omega⟩
  simp only [Nat.add_sub_cancel]
  refine ⟨by rw [Nat.pow_succ] at HX; omega, by rw [HD, dec_pos hX]; simp, by simp; omega, ?_⟩
  intro j b hb
  cases j with
  | zero =>
    simp only [List.getElem?_cons_zero, Option.some.injEq] at hb
    subst hb
    have e : (UInt8.ofNat (X % 10 + 48)).toNat = (X % 10 + 48) % 256 := UInt8.toNat_ofNat'
    rw [Nat.add_zero, Array.getElem?_setIfInBounds_self_of_lt (by omega), e]
    congr 2
    omega
  | succ j =>
    simp only [List.getElem?_cons_succ] at hb
    rw [Array.getElem?_setIfInBounds_ne (by omega), show k + (j + 1) = k + 1 + j from by omega]
    exact HA j b hb
theorem dt_end {L : List UInt8} {k V : Nat} (hV : 0 < V) (HD : dec 20 V = dec k 0 ++ L) (HL : k + L.length = 20) : dec 20 V = L ∧ k < 20 := by
  rw [dec_zero, List.nil_append] at HD
  refine ⟨HD, ?_⟩
  rw [dec_pos hV] at HD
  have := congrArg List.length HD
  simp at this
  omega

set_option maxHeartbeats 400000 in
theorem dt_pos (V : Nat) (h0 : 0 < V) (h1 : V < 18446744073709551616) (w : World) :
    Calls Try.prog 11 #[.int .u64 (V : Int)] w fun e w' => e = .returned (.string ⟨(dec 20 V).toArray⟩) ∧ Grown w w' := by
  have hz : ((V : Int) == 0) = false := beq_eq_false_iff_ne.2 (by omega)
  go_enter Try.func11, Try.ntmps11
  go_wp2
  go_loopw [0, 4] (fun x i wr => ∃ (k X : Nat) (arr : Array Value) (L : List UInt8), k ≤ 20 ∧ i = .int .i64 (k : Int) ∧ x = .int .u64 (X : Int) ∧ X ≤ V ∧ arr.size = 20 ∧ Hid (X < 10 ^ k) ∧ Hid (dec 20 V = dec k X ++ L) ∧ Hid (k + L.length = 20) ∧
    Hid (∀ j b, L[j]? = some b → arr[k + j]? = some (.int .u8 (b.toNat : Int))) ∧ wr = w.alloc (.cells arr 44)) (fun x _ _ => (intOf x).toNat)
  case atStart => exact ⟨20, V, _, [], by omega, rfl, rfl, by omega, rfl, (show V < 10 ^ 20 by omega), (show dec 20 V = dec 20 V ++ [] by simp), rfl, (fun j b h => by simp at h), rfl⟩
  case round =>
    obtain ⟨k, X, arr, L, hk, rfl, rfl, hX1, hsz, HX, HD, HL, HA, rfl⟩ := hrel
    by_cases hX : 0 < X
    · have hk0 : 1 ≤ k := by
        cases k with
        | zero => have := HX.out; simp at this; omega
        | succ k => omega
      have hXi : (0 : Int) < (X : Int) := by omega
      obtain ⟨old, hold⟩ : ∃ old, arr[k - 1]? = some old := ⟨_, Array.getElem?_eq_getElem (by omega)⟩
      go_wp2
      go_roundw
      case rel =>
        obtain ⟨s1, s2, s3, s4⟩ := dt_step hk0 hX hsz hk HX.out HD.out HL.out HA.out
        exact ⟨k - 1, X / 10, _, _, by omega, by go_num, by go_num, by omega, by simp [hsz], s1, s2, s3, s4, rfl⟩
      case measure => simp [intOf]; omega
    · obtain rfl : X = 0 := by omega
      obtain ⟨he, hk2⟩ := dt_end h0 HD.out HL.out
      have HE : Hid (dec 20 V = L) := he
      clear he
      have hsl := fun ww => run_tail ww w.heap.size k hk2
      have hcv := dt_bridge HL.out HA.out w
      go_wp2
      go_ret
      exact ⟨by rw [HE.out]; rfl, by repeat (first | exact Grown.refl _ | apply Grown.drew | apply Grown.alloc)⟩

theorem dt_zero (w : World) :
    Calls Try.prog 11 #[.int .u64 0] w fun e w' => e = .returned (.string ⟨#[48]⟩) ∧ Grown w w' := by
  go_enter Try.func11, Try.ntmps11
  go_wp2
  go_ret
  exact ⟨rfl, Grown.refl _⟩
end Go.Proofs.Qxb6604140a.Cents
