/-
  THE LAW's WALK: takeKey takes the longest key.
-/
import Derived.Test.Qxb6604202aWalk
namespace Go.Proofs.Qxb6604202a.Key
open Go.RowKit
set_option linter.unusedVariables false
theorem isEmpty_size (s : ByteArray) : s.toList.isEmpty = decide (s.size = 0) := by
  have h : s.data.toList.length = s.size := by simp
  rw [Go.ByteArray.toList_eq, Bool.eq_iff_iff, List.isEmpty_iff, decide_eq_true_iff, ← List.length_eq_zero_iff, h]
theorem first_byte (s : ByteArray) (k : Nat) (hk : k < s.size) (h : 0 < (s.extract k s.size).size) : (s.extract k s.size)[0]'h = s[k]'hk := by
  show (s.extract k s.size).data[0]'h = s.data[k]'hk
  simp
theorem ext_bt (s : ByteArray) (k i : Nat) (hk : k ≤ s.size) (hi : i < k) : bt (s.extract 0 k) i = bt s i := by
  have h1 : i < (s.extract 0 k).size := by simp; omega
  unfold bt
  rw [dif_pos h1, dif_pos (by omega)]
  have : (s.extract 0 k)[i]'h1 = s[i]'(by omega) := by
    show (s.extract 0 k).data[i]'h1 = s.data[i]'(by simpa using (by omega : i < s.size))
    simp
  rw [this]
set_option maxHeartbeats 400000 in
theorem law_core (s : ByteArray) (hs : s.size ≤ 1048576) (w : World) :
    Calls Try.prog 3 #[.string s] w fun e w' => e = .returned (.bool true) ∧ Grown w w' := by
  have hc : (w.alloc (.cells #[.string s] 9)).cell? ⟨w.heap.size, 0, none⟩ = some (.string s) := by rw [World.cell?_alloc_at _ _ _ _ rfl]; rfl
  have hf : (w.alloc (.cells #[.string s] 9)).frozen? ⟨w.heap.size, 0, none⟩ = false := World.frozen?_alloc_at _ _ _ _ rfl
  have Hc : Hid (_ = _) := hc
  have Hf : Hid (_ = _) := hf
  clear hc hf
  go_enter Try.func3, Try.ntmps3
  go_wp2_with (first | (go_at_call 6; go_in))
  go_wp2_with fail
  refine (zz_any w.heap.size s hs _ Hc.out Hf.out).mono ?_
  rintro e w1 ⟨k, hk, ⟨rfl, rfl⟩, h1, h2⟩
  have H1 : Hid (∀ i, i < k → go i (bt s i) = true) := h1
  have H2 : Hid (k = s.size ∨ go k (bt s k) = false) := h2
  clear h1 h2
  have hK : (s.extract 0 k).size = k := by simp; omega
  have hT : (s.extract k s.size).size = s.size - k := by simp
  have hki : (k : Int) ≤ (s.size : Int) := by omega
  have hsum : ((k : Int) + ((s.size - k : Nat) : Int) != (s.size : Int)) = false := by rw [show (k : Int) + ((s.size - k : Nat) : Int) = (s.size : Int) from by omega]; simp
  by_cases hkn : k = s.size
  · have eT : (s.extract k s.size).toList.isEmpty = true := by rw [isEmpty_size, hT]; simp; omega
    by_cases hk0 : k = 0
    · have eK : (s.extract 0 k).toList.isEmpty = true := by rw [isEmpty_size, hK]; simp [hk0]
      clear hkn hk0 H2
      go_wp2_with fail
      go_quiet (fail)
      go_wp2
      go_ret
      exact ⟨rfl, by repeat (first | exact Grown.refl _ | apply Grown.drew | apply Grown.alloc)⟩
    · have eK : (s.extract 0 k).toList.isEmpty = false := by rw [isEmpty_size, hK]; simp [hk0]
      have HV0 : Hid (0 < (s.extract 0 k).size) := by rw [hK]; exact Nat.pos_of_ne_zero hk0
      have HV1 : Hid ((s.extract 0 k).size ≤ 1048576) := by rw [hK]; show _ ≤ _; omega
      have HV2 : Hid (∀ i, i < (s.extract 0 k).size → go i (bt (s.extract 0 k) i) = true) := fun i hi => by
        rw [hK] at hi
        rw [ext_bt s k i hk hi]; exact H1.out i hi
      clear hkn hk0 H2
      go_wp2_with fail
      go_quiet (fail)
      go_wp2_with (first | (go_at_call 8; refine (start_any _ _).mono ?_; rintro e w' ⟨rfl, rfl⟩) | (go_at_call 10; refine (char_any _ _).mono ?_; rintro e w' ⟨rfl, rfl⟩) | (go_at_call 9; refine (valid_any _ HV0.out HV1.out HV2.out _).mono ?_; rintro e w' ⟨rfl, rfl⟩))
      go_ret
      exact ⟨rfl, by repeat (first | exact Grown.refl _ | apply Grown.drew | apply Grown.alloc)⟩
  · have hlt : k < s.size := by omega
    have h0T : 0 < (s.extract k s.size).size := by rw [hT]; omega
    have hTp : 0 < s.size - k := by omega
    have hg2 : ∀ h : 0 < (s.extract k s.size).size, (((s.extract k s.size)[0]'h).toNat : Int) = bt s k := fun h => by rw [first_byte s k hlt h, get_bt s k hlt]
    have eT : (s.extract k s.size).toList.isEmpty = false := by rw [isEmpty_size, hT]; simp; omega
    have hng : go k (bt s k) = false := by rcases H2.out with h | h
                                           · exact absurd h hkn
                                           · exact h
    by_cases hk0 : k = 0
    · have eK : (s.extract 0 k).toList.isEmpty = true := by rw [isEmpty_size, hK]; simp [hk0]
      have hst : kst (bt s k) = false := by have := hng; rw [hk0, go_zero] at this; rw [hk0]; exact this
      clear hkn hk0 H2 hng hlt
      go_wp2_with fail
      go_quiet (fail)
      go_wp2_with (first | (go_at_call 8; refine (start_any _ _).mono ?_; rintro e w' ⟨rfl, rfl⟩) | (go_at_call 10; refine (char_any _ _).mono ?_; rintro e w' ⟨rfl, rfl⟩))
      go_ret
      exact ⟨rfl, by repeat (first | exact Grown.refl _ | apply Grown.drew | apply Grown.alloc)⟩
    · have eK : (s.extract 0 k).toList.isEmpty = false := by rw [isEmpty_size, hK]; simp [hk0]
      have hst : kch (bt s k) = false := by have := hng; rwa [go_pos hk0] at this
      have HV0 : Hid (0 < (s.extract 0 k).size) := by rw [hK]; exact Nat.pos_of_ne_zero hk0
      have HV1 : Hid ((s.extract 0 k).size ≤ 1048576) := by rw [hK]; show _ ≤ _; omega
      have HV2 : Hid (∀ i, i < (s.extract 0 k).size → go i (bt (s.extract 0 k) i) = true) := fun i hi => by
        rw [hK] at hi
        rw [ext_bt s k i hk hi]; exact H1.out i hi
      clear hkn hk0 H2 hng hlt
      go_wp2_with fail
      go_quiet (fail)
      go_wp2_with (first | (go_at_call 8; refine (start_any _ _).mono ?_; rintro e w' ⟨rfl, rfl⟩) | (go_at_call 10; refine (char_any _ _).mono ?_; rintro e w' ⟨rfl, rfl⟩) | (go_at_call 9; refine (valid_any _ HV0.out HV1.out HV2.out _).mono ?_; rintro e w' ⟨rfl, rfl⟩))
      go_ret
      exact ⟨rfl, by repeat (first | exact Grown.refl _ | apply Grown.drew | apply Grown.alloc)⟩
end Go.Proofs.Qxb6604202a.Key
