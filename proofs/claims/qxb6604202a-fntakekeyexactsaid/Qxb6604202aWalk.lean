/-
  THE WALKS OF zzIsKeyStart, zzIsKeyChar, takeKey, ZZtakeKey, zzValidKey.
-/
import Derived.Test.Qxb6604202aRows
import Derived.Test.Qxb6604202aPlain
import Derived.WalkKit
import Derived.WalkSpells
import Derived.BigQuiet
import Derived.Deep.QuietTactic
namespace Go.Proofs.Qxb6604202a.Key
open Go.RowKit
set_option linter.unusedVariables false
def bt (s : ByteArray) (k : Nat) : Int := if h : k < s.size then ((s[k]'h).toNat : Int) else 0
theorem get_bt (s : ByteArray) : ∀ (n : Nat) (h : n < s.size), ((s[n]'h).toNat : Int) = bt s n := fun n h => by unfold bt; rw [dif_pos h]
theorem bt_nonneg (s : ByteArray) (k : Nat) : 0 ≤ bt s k := by unfold bt; split <;> omega
theorem bt_le (s : ByteArray) (k : Nat) : bt s k ≤ 255 := by
  unfold bt; split
  · have := (s[k]).toNat_lt; omega
  · omega

theorem start_any (x : Int) (w : World) : Calls Try.prog 8 #[.int .u8 x] w fun e w' => e = .returned (.bool (kst x)) ∧ w' = w := by
  by_cases h1 : 97 ≤ x
  · by_cases h2 : x ≤ 122
    · have hd : Hid (kst x = true) := kst_iff.2 (.inl ⟨h1, h2⟩)
      go_enter Try.func8, Try.ntmps8
      go_wp2
      go_ret
      exact ⟨by rw [hd.out]; rfl, rfl⟩
    · have hd : Hid (kst x = false) := by show kst x = false; rw [← Bool.not_eq_true, kst_iff]; omega
      have h3 : (x == 42) = false := beq_eq_false_iff_ne.2 (by omega)
      go_enter Try.func8, Try.ntmps8
      go_wp2
      go_ret
      exact ⟨by rw [hd.out]; rfl, rfl⟩
  · cases h3 : x == 42 with
    | true =>
      have hd : Hid (kst x = true) := kst_iff.2 (.inr (by simpa using h3))
      go_enter Try.func8, Try.ntmps8
      go_wp2
      go_ret
      exact ⟨by rw [hd.out]; rfl, rfl⟩
    | false =>
      have hd : Hid (kst x = false) := by show kst x = false; rw [← Bool.not_eq_true, kst_iff]; have := beq_eq_false_iff_ne.1 h3; omega
      go_enter Try.func8, Try.ntmps8
      go_wp2
      go_ret
      exact ⟨by rw [hd.out]; rfl, rfl⟩

theorem char_any (x : Int) (w : World) : Calls Try.prog 10 #[.int .u8 x] w fun e w' => e = .returned (.bool (kch x)) ∧ w' = w := by
  cases hs : kst x with
  | true =>
    have hd : Hid (kch x = true) := kch_of_kst hs
    go_enter Try.func10, Try.ntmps10
    go_wp2_with (go_at_call 8; refine (start_any _ _).mono ?_; rintro e w' ⟨rfl, rfl⟩)
    go_ret
    exact ⟨by rw [hd.out]; rfl, rfl⟩
  | false =>
    have hn : ¬ ((97 ≤ x ∧ x ≤ 122) ∨ x = 42) := by rw [← kst_iff, hs]; simp
    by_cases h1 : 48 ≤ x ∧ x ≤ 57
    · have hd : Hid (kch x = true) := kch_iff.2 (by omega)
      obtain ⟨h2, h3⟩ := h1
      clear hn
      go_enter Try.func10, Try.ntmps10
      go_wp2_with (go_at_call 8; refine (start_any _ _).mono ?_; rintro e w' ⟨rfl, rfl⟩)
      go_ret
      exact ⟨by rw [hd.out]; rfl, rfl⟩
    · cases h95 : x == 95 with
      | true =>
        obtain rfl : x = 95 := by simpa using h95
        go_enter Try.func10, Try.ntmps10
        go_wp2_with (go_at_call 8; refine (start_any _ _).mono ?_; rintro e w' ⟨rfl, rfl⟩)
        go_ret
        exact ⟨rfl, rfl⟩
      | false =>
        cases h45 : x == 45 with
        | true =>
          obtain rfl : x = 45 := by simpa using h45
          go_enter Try.func10, Try.ntmps10
          go_wp2_with (go_at_call 8; refine (start_any _ _).mono ?_; rintro e w' ⟨rfl, rfl⟩)
          go_ret
          exact ⟨rfl, rfl⟩
        | false =>
          cases h46 : x == 46 with
          | true =>
            obtain rfl : x = 46 := by simpa using h46
            go_enter Try.func10, Try.ntmps10
            go_wp2_with (go_at_call 8; refine (start_any _ _).mono ?_; rintro e w' ⟨rfl, rfl⟩)
            go_ret
            exact ⟨rfl, rfl⟩
          | false =>
            have hd : Hid (kch x = false) := by
              show kch x = false
              rw [← Bool.not_eq_true, kch_iff]
              have := beq_eq_false_iff_ne.1 h95
              have := beq_eq_false_iff_ne.1 h45
              have := beq_eq_false_iff_ne.1 h46
              omega
            clear hn
            by_cases g1 : 48 ≤ x
            · have g2 : ¬ x ≤ 57 := by omega
              have g3 : decide (x ≤ 57) = false := by simp; omega
              clear h1
              go_enter Try.func10, Try.ntmps10
              go_wp2_with (go_at_call 8; refine (start_any _ _).mono ?_; rintro e w' ⟨rfl, rfl⟩)
              go_ret
              exact ⟨by rw [hd.out]; rfl, rfl⟩
            · clear h1
              go_enter Try.func10, Try.ntmps10
              go_wp2_with (go_at_call 8; refine (start_any _ _).mono ?_; rintro e w' ⟨rfl, rfl⟩)
              go_ret
              exact ⟨by rw [hd.out]; rfl, rfl⟩
theorem nextK {s : ByteArray} {k : Nat} (h : ∀ i, i < k → go i (bt s i) = true) (h2 : go k (bt s k) = true) : ∀ i, i < k + 1 → go i (bt s i) = true := by
  intro i hi
  by_cases e : i = k
  · subst e; exact h2
  · exact h i (by omega)
set_option maxRecDepth 100000 in
set_option maxHeartbeats 1000000 in
theorem take_any (g : Nat) (s : ByteArray) (hs : s.size ≤ 1048576) (w : World) (hc : w.cell? ⟨g, 0, none⟩ = some (.string s)) (hf : w.frozen? ⟨g, 0, none⟩ = false) :
    Calls Try.prog 16 #[.pointer (some ⟨g, 0, none⟩)] w fun e w' => (∃ k, k ≤ s.size ∧ (e = .returned (.string (s.extract 0 k)) ∧ w' = w.setCell ⟨g, 0, none⟩ (.string (s.extract k s.size))) ∧ (∀ i, i < k → go i (bt s i) = true) ∧ (k = s.size ∨ go k (bt s k) = false)) := by
  have hg := get_bt s
  go_enter Try.func16, Try.ntmps16
  go_wp2
  go_loop [3] (fun i => ∃ (k : Nat), k ≤ s.size ∧ i = .int .i64 (k : Int) ∧ Hid (∀ i, i < k → go i (bt s i) = true)) (fun i => s.size - (intOf i).toNat)
  case atStart => exact ⟨0, by omega, rfl, fun i hi => by omega⟩
  case round =>
    obtain ⟨k, hk, rfl, HA⟩ := hrel
    have b0 := bt_nonneg s k
    have b1 := bt_le s k
    by_cases hlt : k < s.size
    · have hii : (k : Int) < (s.size : Int) := by omega
      by_cases h1 : 97 ≤ bt s k ∧ bt s k ≤ 122
      · obtain ⟨h2, h3⟩ := h1
        have HGO : Hid (go k (bt s k) = true) := go_iff.2 (.inl (kst_iff.2 (.inl ⟨h2, h3⟩)))
        go_wp2
        go_round
        case rel => exact ⟨k + 1, by omega, by go_num, nextK HA.out HGO.out⟩
        case measure => simp [intOf]; omega
      · by_cases h97 : 97 ≤ bt s k
        · have h122 : ¬ bt s k ≤ 122 := by omega
          have d122 : decide (bt s k ≤ 122) = false := by simp; omega
          have d57 : decide (bt s k ≤ 57) = false := by simp; omega
          have h48 : 48 ≤ bt s k := by omega
          clear h1
          have e42 : (bt s k == 42) = false := beq_eq_false_iff_ne.2 (by omega)
          have e95 : (bt s k == 95) = false := beq_eq_false_iff_ne.2 (by omega)
          have e45 : (bt s k == 45) = false := beq_eq_false_iff_ne.2 (by omega)
          have e46 : (bt s k == 46) = false := beq_eq_false_iff_ne.2 (by omega)
          have HGO : Hid (go k (bt s k) = false) := by show go k (bt s k) = false; rw [← Bool.not_eq_true, go_iff, kst_iff, kch_iff]; omega
          by_cases hk0 : k = 0
          · have ek : ((k : Int) == 0) = true := beq_iff_eq.2 (by omega)
            clear hk0
            go_wp2
            go_ret
            exact ⟨k, hk, ⟨rfl, rfl⟩, HA.out, .inr HGO.out⟩
          · have ek : ((k : Int) == 0) = false := beq_eq_false_iff_ne.2 (by omega)
            clear hk0
            go_wp2
            go_ret
            exact ⟨k, hk, ⟨rfl, rfl⟩, HA.out, .inr HGO.out⟩
        · clear h1
          by_cases h42 : bt s k = 42
          · have e42 : (bt s k == 42) = true := beq_iff_eq.2 h42
            have HGO : Hid (go k (bt s k) = true) := go_iff.2 (.inl (kst_iff.2 (.inr h42)))
            clear h42
            go_wp2
            go_round
            case rel => exact ⟨k + 1, by omega, by go_num, nextK HA.out HGO.out⟩
            case measure => simp [intOf]; omega
          · have e42 : (bt s k == 42) = false := beq_eq_false_iff_ne.2 h42
            by_cases hk0 : k = 0
            · have ek : ((k : Int) == 0) = true := beq_iff_eq.2 (by omega)
              have HGO : Hid (go k (bt s k) = false) := by show go k (bt s k) = false; rw [← Bool.not_eq_true, go_iff, kst_iff]; omega
              clear hk0 h42
              go_wp2
              go_ret
              exact ⟨k, hk, ⟨rfl, rfl⟩, HA.out, .inr HGO.out⟩
            · have ek : ((k : Int) == 0) = false := beq_eq_false_iff_ne.2 (by omega)
              by_cases hd : 48 ≤ bt s k ∧ bt s k ≤ 57
              · have HGO : Hid (go k (bt s k) = true) := go_iff.2 (.inr ⟨hk0, kch_iff.2 (by omega)⟩)
                obtain ⟨hd1, hd2⟩ := hd
                have e95 : (bt s k == 95) = false := beq_eq_false_iff_ne.2 (by omega)
                have e45 : (bt s k == 45) = false := beq_eq_false_iff_ne.2 (by omega)
                have e46 : (bt s k == 46) = false := beq_eq_false_iff_ne.2 (by omega)
                clear hk0 h42
                go_wp2
                go_round
                case rel => exact ⟨k + 1, by omega, by go_num, nextK HA.out HGO.out⟩
                case measure => simp [intOf]; omega
              · by_cases h95 : bt s k = 95
                · have e95 : (bt s k == 95) = true := beq_iff_eq.2 h95
                  have HGO : Hid (go k (bt s k) = true) := go_iff.2 (.inr ⟨hk0, kch_iff.2 (by omega)⟩)
                  have h48 : 48 ≤ bt s k := by omega
                  have d57 : decide (bt s k ≤ 57) = false := by simp; omega
                  have e45 : (bt s k == 45) = false := beq_eq_false_iff_ne.2 (by omega)
                  have e46 : (bt s k == 46) = false := beq_eq_false_iff_ne.2 (by omega)
                  clear hk0 h42 h95 hd
                  go_wp2
                  go_round
                  case rel => exact ⟨k + 1, by omega, by go_num, nextK HA.out HGO.out⟩
                  case measure => simp [intOf]; omega
                · by_cases h45 : bt s k = 45
                  · have e45 : (bt s k == 45) = true := beq_iff_eq.2 h45
                    have HGO : Hid (go k (bt s k) = true) := go_iff.2 (.inr ⟨hk0, kch_iff.2 (by omega)⟩)
                    have h48 : ¬ 48 ≤ bt s k := by omega
                    have d48 : decide (48 ≤ bt s k) = false := by simp; omega
                    have e95 : (bt s k == 95) = false := beq_eq_false_iff_ne.2 (by omega)
                    have e46 : (bt s k == 46) = false := beq_eq_false_iff_ne.2 (by omega)
                    clear hk0 h42 h95 h45 hd
                    go_wp2
                    go_round
                    case rel => exact ⟨k + 1, by omega, by go_num, nextK HA.out HGO.out⟩
                    case measure => simp [intOf]; omega
                  · by_cases h46 : bt s k = 46
                    · have e46 : (bt s k == 46) = true := beq_iff_eq.2 h46
                      have HGO : Hid (go k (bt s k) = true) := go_iff.2 (.inr ⟨hk0, kch_iff.2 (by omega)⟩)
                      have h48 : ¬ 48 ≤ bt s k := by omega
                      have d48 : decide (48 ≤ bt s k) = false := by simp; omega
                      have e95 : (bt s k == 95) = false := beq_eq_false_iff_ne.2 (by omega)
                      have e45 : (bt s k == 45) = false := beq_eq_false_iff_ne.2 (by omega)
                      clear hk0 h42 h95 h45 h46 hd
                      go_wp2
                      go_round
                      case rel => exact ⟨k + 1, by omega, by go_num, nextK HA.out HGO.out⟩
                      case measure => simp [intOf]; omega
                    · have HGO : Hid (go k (bt s k) = false) := by show go k (bt s k) = false; rw [← Bool.not_eq_true, go_iff, kst_iff, kch_iff]; omega
                      have e95 : (bt s k == 95) = false := beq_eq_false_iff_ne.2 (by omega)
                      have e45 : (bt s k == 45) = false := beq_eq_false_iff_ne.2 (by omega)
                      have e46 : (bt s k == 46) = false := beq_eq_false_iff_ne.2 (by omega)
                      clear hk0 h42 h95 h45 h46
                      by_cases h48 : 48 ≤ bt s k
                      · have d57 : decide (bt s k ≤ 57) = false := by simp; omega
                        clear hd
                        go_wp2
                        go_ret
                        exact ⟨k, hk, ⟨rfl, rfl⟩, HA.out, .inr HGO.out⟩
                      · have d48 : decide (48 ≤ bt s k) = false := by simp; omega
                        clear hd
                        go_wp2
                        go_ret
                        exact ⟨k, hk, ⟨rfl, rfl⟩, HA.out, .inr HGO.out⟩
    · obtain rfl : k = s.size := by omega
      go_wp2
      go_ret
      exact ⟨s.size, hk, ⟨by first | rfl | simp, by simp⟩, HA.out, .inl rfl⟩
theorem zz_any (g : Nat) (s : ByteArray) (hs : s.size ≤ 1048576) (w : World) (hc : w.cell? ⟨g, 0, none⟩ = some (.string s)) (hf : w.frozen? ⟨g, 0, none⟩ = false) :
    Calls Try.prog 7 #[.pointer (some ⟨g, 0, none⟩)] w fun e w' => (∃ k, k ≤ s.size ∧ (e = .returned (.string (s.extract 0 k)) ∧ w' = w.setCell ⟨g, 0, none⟩ (.string (s.extract k s.size))) ∧ (∀ i, i < k → go i (bt s i) = true) ∧ (k = s.size ∨ go k (bt s k) = false)) := by
  go_enter Try.func7, Try.ntmps7
  go_wp2_with fail
  refine (take_any g s hs _ hc hf).mono ?_
  rintro e w1 ⟨k, hk, ⟨rfl, rfl⟩, h1, h2⟩
  have H1 : Hid (∀ i, i < k → go i (bt s i) = true) := h1
  have H2 : Hid (k = s.size ∨ go k (bt s k) = false) := h2
  clear h1 h2
  go_wp2
  go_ret
  exact ⟨k, hk, ⟨rfl, rfl⟩, H1.out, H2.out⟩

/-! ### zzValidKey at a key -/
set_option maxHeartbeats 400000 in
theorem valid_any (s : ByteArray) (h0 : 0 < s.size) (hs : s.size ≤ 1048576) (h : ∀ i, i < s.size → go i (bt s i) = true) (w : World) :
    Calls Try.prog 9 #[.string s] w fun e w' => e = .returned (.bool true) ∧ w' = w := by
  have hg := get_bt s
  have k0 : kst (bt s 0) = true := by have := h 0 h0; rwa [go_zero] at this
  have HA : Hid (∀ i, i < s.size → go i (bt s i) = true) := h
  have hz : ((s.size : Int) == 0) = false := beq_eq_false_iff_ne.2 (by omega)
  clear h
  go_enter Try.func9, Try.ntmps9
  go_wp2_with (go_at_call 8; refine (start_any _ _).mono ?_; rintro e w' ⟨rfl, rfl⟩)
  go_loop [3] (fun i => ∃ (k : Nat), 1 ≤ k ∧ k ≤ s.size ∧ i = .int .i64 (k : Int)) (fun i => s.size - (intOf i).toNat)
  case atStart => exact ⟨1, by omega, by omega, rfl⟩
  case round =>
    obtain ⟨k, hk1, hk, rfl⟩ := hrel
    by_cases hlt : k < s.size
    · have hch : kch (bt s k) = true := by have := HA.out k hlt; rwa [go_pos (by omega)] at this
      have hii : (k : Int) < (s.size : Int) := by omega
      go_wp2_with (go_at_call 10; refine (char_any _ _).mono ?_; rintro e w' ⟨rfl, rfl⟩)
      go_round
      case rel => exact ⟨k + 1, by omega, by omega, by go_num⟩
      case measure => simp [intOf]; omega
    · go_wp2
      go_ret
      exact ⟨rfl, rfl⟩
end Go.Proofs.Qxb6604202a.Key
