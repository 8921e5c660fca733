import Derived.Test.Qxb6604140aCentsWalk
import Derived.BigQuiet
import Derived.Deep.QuietTactic
namespace Go.Proofs.Qxb6604140a.Cents
open Go.RowKit

theorem dig_any (x : Int) (w : World) : Calls Try.prog 27 #[.int .u8 x] w fun e w' => e = .returned (.bool (dig x)) ∧ w' = w := by
  by_cases h1 : 48 ≤ x
  · by_cases h2 : x ≤ 57
    · have hd : Hid (dig x = true) := dig_iff.2 ⟨h1, h2⟩
      go_enter Try.func27, Try.ntmps27
      go_wp2
      go_ret
      exact ⟨by rw [hd.out]; rfl, rfl⟩
    · have hd : Hid (dig x = false) := dig_not.2 (by omega)
      go_enter Try.func27, Try.ntmps27
      go_wp2
      go_ret
      exact ⟨by rw [hd.out]; rfl, rfl⟩
  · have hd : Hid (dig x = false) := dig_not.2 (by omega)
    go_enter Try.func27, Try.ntmps27
    go_wp2
    go_ret
    exact ⟨by rw [hd.out]; rfl, rfl⟩

theorem rl_a1 {b : Nat → Int} {n : Nat} (h1 : 2 ≤ n) (h2 : b (n - 2) = 46) (h3 : dig (b (n - 1)) = false) : rl b n = none := by
  unfold rl; rw [if_pos ⟨h1, h2⟩, if_neg (by rw [h3]; simp)]
theorem rl_a2 {b : Nat → Int} {n : Nat} (h1 : 2 ≤ n) (h2 : b (n - 2) = 46) (h3 : dig (b (n - 1)) = true) : rl b n = rlFin b (n - 2) ((b (n - 1) - 48) * 10) := by
  unfold rl; rw [if_pos ⟨h1, h2⟩, if_pos h3]
theorem rl_b1 {b : Nat → Int} {n : Nat} (h0 : ¬ (2 ≤ n ∧ b (n - 2) = 46)) (h1 : 3 ≤ n) (h2 : b (n - 3) = 46) (h3 : ¬ (dig (b (n - 2)) = true ∧ dig (b (n - 1)) = true)) : rl b n = none := by
  unfold rl; rw [if_neg h0, if_pos ⟨h1, h2⟩, if_neg h3]
theorem rl_b2 {b : Nat → Int} {n : Nat} (h0 : ¬ (2 ≤ n ∧ b (n - 2) = 46)) (h1 : 3 ≤ n) (h2 : b (n - 3) = 46) (h3 : dig (b (n - 2)) = true ∧ dig (b (n - 1)) = true) :
    rl b n = rlFin b (n - 3) ((b (n - 2) - 48) * 10 + (b (n - 1) - 48)) := by
  unfold rl; rw [if_neg h0, if_pos ⟨h1, h2⟩, if_pos h3]
theorem rl_c {b : Nat → Int} {n : Nat} (h0 : ¬ (2 ≤ n ∧ b (n - 2) = 46)) (h1 : ¬ (3 ≤ n ∧ b (n - 3) = 46)) : rl b n = rlFin b n 0 := by
  unfold rl; rw [if_neg h0, if_neg h1]

set_option maxHeartbeats 1000000 in
theorem rl_w1 (s : ByteArray) (hs : s.size ≤ maxLen) (w : World) (h2 : 2 ≤ s.size) (h46 : bt s (s.size - 2) = 46) :
    Calls Try.prog 10 #[.string s] w fun e w' => e = ans (rl (bt s) s.size) ∧ ∃ n, w' = w.drewN n := by
  unfold maxLen at hs
  have hg := get_bt s
  have p0 := bt_nonneg s (s.size - 1)
  have p1 := bt_le s (s.size - 1)
  have q0 := bt_nonneg s (s.size - 2)
  have q1 := bt_le s (s.size - 2)
  have hq : (bt s (s.size - 2) == 46) = true := beq_iff_eq.2 h46
  cases hd : dig (bt s (s.size - 1)) with
  | false =>
    have hr : Hid (rl (bt s) s.size = none) := rl_a1 h2 h46 hd
    clear h46
    go_enter Try.func10, Try.ntmps10
    go_wp2_with (go_at_call 27; refine (dig_any _ _).mono ?_; rintro e w' ⟨rfl, rfl⟩)
    go_ret2
    exact ⟨ans_none hr.out, 0, rfl⟩
  | true =>
    have hr : Hid (rl (bt s) s.size = rlFin (bt s) (s.size - 2) ((bt s (s.size - 1) - 48) * 10)) := rl_a2 h2 h46 hd
    have hdd := dig_iff.1 hd
    clear h46
    go_enter Try.func10, Try.ntmps10
    by_cases hw : s.size - 2 < 1
    · have hr2 : Hid (rlFin (bt s) (s.size - 2) ((bt s (s.size - 1) - 48) * 10) = none) := rlFin_out (.inl hw)
      go_wp2_with (go_at_call 27; refine (dig_any _ _).mono ?_; rintro e w' ⟨rfl, rfl⟩)
      go_ret2
      exact ⟨ans_none (by rw [hr.out, hr2.out]), ⟨0, rfl⟩⟩
    · by_cases hw2 : 17 < s.size - 2
      · have hr2 : Hid (rlFin (bt s) (s.size - 2) ((bt s (s.size - 1) - 48) * 10) = none) := rlFin_out (.inr hw2)
        go_wp2_with (go_at_call 27; refine (dig_any _ _).mono ?_; rintro e w' ⟨rfl, rfl⟩)
        go_ret2
        exact ⟨ans_none (by rw [hr.out, hr2.out]), ⟨0, rfl⟩⟩
      · go_wp2_with (go_at_call 27; refine (dig_any _ _).mono ?_; rintro e w' ⟨rfl, rfl⟩)
        go_loop [7, 8] (fun v i => ∃ (k : Nat) (V : Int), k ≤ s.size - 2 ∧ i = .int .i64 k ∧ v = .int .u64 V ∧ 0 ≤ V ∧ V < 18446744073709551616 ∧ Hid (valTo (bt s) k = some V)) (fun _ i => s.size - 2 - (intOf i).toNat)
        case atStart => exact ⟨0, 0, by omega, rfl, rfl, by omega, by omega, rfl⟩
        case round =>
          obtain ⟨k, V, hk, rfl, rfl, hV0, hV1, HV⟩ := hrel
          have b0 := bt_nonneg s k
          have b1 := bt_le s k
          by_cases hlt : k < s.size - 2
          · cases hdk : dig (bt s k) with
            | false =>
              have hr2 : Hid (rlFin (bt s) (s.size - 2) ((bt s (s.size - 1) - 48) * 10) = none) := rlFin_none (val_none (val_bad HV.out hdk) _ hlt)
              go_wp2_with (go_at_call 27; refine (dig_any _ _).mono ?_; rintro e w' ⟨rfl, rfl⟩)
              go_ret2
              exact ⟨ans_none (by rw [hr.out, hr2.out]), ⟨0, rfl⟩⟩
            | true =>
              have hd2 := dig_iff.1 hdk
              have hv2 : Hid (valTo (bt s) (k + 1) = some ((V * 10 + (bt s k - 48)) % 18446744073709551616)) := val_digit HV.out hdk
              go_wp2_with (go_at_call 27; refine (dig_any _ _).mono ?_; rintro e w' ⟨rfl, rfl⟩)
              go_round
              case rel => exact ⟨k + 1, (V * 10 + (bt s k - 48)) % 18446744073709551616, by omega, by go_num, int_u64 (by simp only [IntKind.wrap_u64]; omega), by omega, by omega, hv2⟩
              case measure => simp [intOf]; omega
          · have HK : Hid (k = s.size - 2) := by show k = s.size - 2; omega
            have hr2 : Hid (rlFin (bt s) (s.size - 2) ((bt s (s.size - 1) - 48) * 10) = some ((V * 100 + ((bt s (s.size - 1) - 48) * 10)) % 18446744073709551616)) := by
              have hv := HV.out
              rw [HK.out] at hv
              exact rlFin_some (by omega) (by omega) hv
            go_wp2_with (go_at_call 27; refine (dig_any _ _).mono ?_; rintro e w' ⟨rfl, rfl⟩)
            go_ret2
            exact ⟨ans_some (by rw [hr.out, hr2.out]) (by simp only [IntKind.wrap_u64]; omega), ⟨0, rfl⟩⟩

set_option maxHeartbeats 1000000 in
theorem rl_w2 (s : ByteArray) (hs : s.size ≤ maxLen) (w : World) (H1 : Hid (¬ (2 ≤ s.size ∧ bt s (s.size - 2) = 46))) (h2 : 3 ≤ s.size) (h46 : bt s (s.size - 3) = 46) :
    Calls Try.prog 10 #[.string s] w fun e w' => e = ans (rl (bt s) s.size) ∧ ∃ n, w' = w.drewN n := by
  unfold maxLen at hs
  have hg := get_bt s
  have p0 := bt_nonneg s (s.size - 1)
  have p1 := bt_le s (s.size - 1)
  have q0 := bt_nonneg s (s.size - 2)
  have q1 := bt_le s (s.size - 2)
  have hq2 : (bt s (s.size - 2) == 46) = false := beq_eq_false_iff_ne.2 fun c => H1.out ⟨by omega, c⟩
  have hq3 : (bt s (s.size - 3) == 46) = true := beq_iff_eq.2 h46
  cases hd2 : dig (bt s (s.size - 2)) with
  | false =>
    have hr : Hid (rl (bt s) s.size = none) := rl_b1 H1.out h2 h46 (by rw [hd2]; simp)
    clear h46
    go_enter Try.func10, Try.ntmps10
    go_wp2_with (go_at_call 27; refine (dig_any _ _).mono ?_; rintro e w' ⟨rfl, rfl⟩)
    go_ret2
    exact ⟨ans_none hr.out, 0, rfl⟩
  | true =>
    cases hd : dig (bt s (s.size - 1)) with
    | false =>
      have hr : Hid (rl (bt s) s.size = none) := rl_b1 H1.out h2 h46 (by rw [hd]; simp)
      clear h46
      go_enter Try.func10, Try.ntmps10
      go_wp2_with (go_at_call 27; refine (dig_any _ _).mono ?_; rintro e w' ⟨rfl, rfl⟩)
      go_ret2
      exact ⟨ans_none hr.out, 0, rfl⟩
    | true =>
      have hr : Hid (rl (bt s) s.size = rlFin (bt s) (s.size - 3) ((bt s (s.size - 2) - 48) * 10 + (bt s (s.size - 1) - 48))) := rl_b2 H1.out h2 h46 ⟨hd2, hd⟩
      have hdd := dig_iff.1 hd
      have hdd2 := dig_iff.1 hd2
      have hi1 : (1 : Int) ≤ (s.size : Int) := by omega
      clear h46
      go_enter Try.func10, Try.ntmps10
      go_wp2_with (go_at_call 27; refine (dig_any _ _).mono ?_; rintro e w' ⟨rfl, rfl⟩)
      go_quiet (fail)
      by_cases hw : s.size - 3 < 1
      · have hr2 : Hid (rlFin (bt s) (s.size - 3) ((bt s (s.size - 2) - 48) * 10 + (bt s (s.size - 1) - 48)) = none) := rlFin_out (.inl hw)
        go_wp2
        go_ret2
        exact ⟨ans_none (by rw [hr.out, hr2.out]), ⟨_, rfl⟩⟩
      · by_cases hw2 : 17 < s.size - 3
        · have hr2 : Hid (rlFin (bt s) (s.size - 3) ((bt s (s.size - 2) - 48) * 10 + (bt s (s.size - 1) - 48)) = none) := rlFin_out (.inr hw2)
          go_wp2
          go_ret2
          exact ⟨ans_none (by rw [hr.out, hr2.out]), ⟨_, rfl⟩⟩
        · go_wp2
          go_loop [7, 8] (fun v i => ∃ (k : Nat) (V : Int), k ≤ s.size - 3 ∧ i = .int .i64 k ∧ v = .int .u64 V ∧ 0 ≤ V ∧ V < 18446744073709551616 ∧ Hid (valTo (bt s) k = some V)) (fun _ i => s.size - 3 - (intOf i).toNat)
          case atStart => exact ⟨0, 0, by omega, rfl, rfl, by omega, by omega, rfl⟩
          case round =>
            obtain ⟨k, V, hk, rfl, rfl, hV0, hV1, HV⟩ := hrel
            have b0 := bt_nonneg s k
            have b1 := bt_le s k
            by_cases hlt : k < s.size - 3
            · cases hdk : dig (bt s k) with
              | false =>
                have hr2 : Hid (rlFin (bt s) (s.size - 3) ((bt s (s.size - 2) - 48) * 10 + (bt s (s.size - 1) - 48)) = none) := rlFin_none (val_none (val_bad HV.out hdk) _ hlt)
                go_wp2_with (go_at_call 27; refine (dig_any _ _).mono ?_; rintro e w' ⟨rfl, rfl⟩)
                go_ret2
                exact ⟨ans_none (by rw [hr.out, hr2.out]), ⟨_, rfl⟩⟩
              | true =>
                have hd2 := dig_iff.1 hdk
                have hv2 : Hid (valTo (bt s) (k + 1) = some ((V * 10 + (bt s k - 48)) % 18446744073709551616)) := val_digit HV.out hdk
                go_wp2_with (go_at_call 27; refine (dig_any _ _).mono ?_; rintro e w' ⟨rfl, rfl⟩)
                go_round
                case rel => exact ⟨k + 1, (V * 10 + (bt s k - 48)) % 18446744073709551616, by omega, by go_num, int_u64 (by simp only [IntKind.wrap_u64]; omega), by omega, by omega, hv2⟩
                case measure => simp [intOf]; omega
            · have HK : Hid (k = s.size - 3) := by show k = s.size - 3; omega
              have hr2 : Hid (rlFin (bt s) (s.size - 3) ((bt s (s.size - 2) - 48) * 10 + (bt s (s.size - 1) - 48)) = some ((V * 100 + ((bt s (s.size - 2) - 48) * 10 + (bt s (s.size - 1) - 48))) % 18446744073709551616)) := by
                have hv := HV.out
                rw [HK.out] at hv
                exact rlFin_some (by omega) (by omega) hv
              go_wp2
              go_ret2
              exact ⟨ans_some (by rw [hr.out, hr2.out]) (by simp only [IntKind.wrap_u64]; omega), ⟨_, rfl⟩⟩

set_option maxHeartbeats 1000000 in
theorem rl_w3 (s : ByteArray) (hs : s.size ≤ maxLen) (w : World) (H1 : Hid (¬ (2 ≤ s.size ∧ bt s (s.size - 2) = 46))) (H3 : Hid (¬ (3 ≤ s.size ∧ bt s (s.size - 3) = 46))) :
    Calls Try.prog 10 #[.string s] w fun e w' => e = ans (rl (bt s) s.size) ∧ ∃ n, w' = w.drewN n := by
  unfold maxLen at hs
  have hg := get_bt s
  have p0 := bt_nonneg s (s.size - 1)
  have p1 := bt_le s (s.size - 1)
  have q0 := bt_nonneg s (s.size - 2)
  have q1 := bt_le s (s.size - 2)
  have hr : Hid (rl (bt s) s.size = rlFin (bt s) s.size 0) := rl_c H1.out H3.out
  by_cases hn2 : 2 ≤ s.size
  · have hq2 : (bt s (s.size - 2) == 46) = false := beq_eq_false_iff_ne.2 fun c => H1.out ⟨by omega, c⟩
    by_cases hn3 : 3 ≤ s.size
    · have hq3 : (bt s (s.size - 3) == 46) = false := beq_eq_false_iff_ne.2 fun c => H3.out ⟨by omega, c⟩
      go_enter Try.func10, Try.ntmps10
      by_cases hw : s.size < 1
      · omega
      · by_cases hw2 : 17 < s.size
        · have hr2 : Hid (rlFin (bt s) (s.size) (0) = none) := rlFin_out (.inr hw2)
          go_wp2
          go_ret2
          exact ⟨ans_none (by rw [hr.out, hr2.out]), ⟨0, rfl⟩⟩
        · go_wp2
          go_loop [7, 8] (fun v i => ∃ (k : Nat) (V : Int), k ≤ s.size ∧ i = .int .i64 k ∧ v = .int .u64 V ∧ 0 ≤ V ∧ V < 18446744073709551616 ∧ Hid (valTo (bt s) k = some V)) (fun _ i => s.size - (intOf i).toNat)
          case atStart => exact ⟨0, 0, by omega, rfl, rfl, by omega, by omega, rfl⟩
          case round =>
            obtain ⟨k, V, hk, rfl, rfl, hV0, hV1, HV⟩ := hrel
            have b0 := bt_nonneg s k
            have b1 := bt_le s k
            by_cases hlt : k < s.size
            · cases hdk : dig (bt s k) with
              | false =>
                have hr2 : Hid (rlFin (bt s) (s.size) (0) = none) := rlFin_none (val_none (val_bad HV.out hdk) _ hlt)
                go_wp2_with (go_at_call 27; refine (dig_any _ _).mono ?_; rintro e w' ⟨rfl, rfl⟩)
                go_ret2
                exact ⟨ans_none (by rw [hr.out, hr2.out]), ⟨0, rfl⟩⟩
              | true =>
                have hd2 := dig_iff.1 hdk
                have hv2 : Hid (valTo (bt s) (k + 1) = some ((V * 10 + (bt s k - 48)) % 18446744073709551616)) := val_digit HV.out hdk
                go_wp2_with (go_at_call 27; refine (dig_any _ _).mono ?_; rintro e w' ⟨rfl, rfl⟩)
                go_round
                case rel => exact ⟨k + 1, (V * 10 + (bt s k - 48)) % 18446744073709551616, by omega, by go_num, int_u64 (by simp only [IntKind.wrap_u64]; omega), by omega, by omega, hv2⟩
                case measure => simp [intOf]; omega
            · have HK : Hid (k = s.size) := by show k = s.size; omega
              have hr2 : Hid (rlFin (bt s) (s.size) (0) = some ((V * 100 + (0)) % 18446744073709551616)) := by
                have hv := HV.out
                rw [HK.out] at hv
                exact rlFin_some (by omega) (by omega) hv
              go_wp2
              go_ret2
              exact ⟨ans_some (by rw [hr.out, hr2.out]) (by simp only [IntKind.wrap_u64]; omega), ⟨0, rfl⟩⟩

    · go_enter Try.func10, Try.ntmps10
      by_cases hw : s.size < 1
      · omega
      · by_cases hw2 : 17 < s.size
        · omega
        · go_wp2
          go_loop [7, 8] (fun v i => ∃ (k : Nat) (V : Int), k ≤ s.size ∧ i = .int .i64 k ∧ v = .int .u64 V ∧ 0 ≤ V ∧ V < 18446744073709551616 ∧ Hid (valTo (bt s) k = some V)) (fun _ i => s.size - (intOf i).toNat)
          case atStart => exact ⟨0, 0, by omega, rfl, rfl, by omega, by omega, rfl⟩
          case round =>
            obtain ⟨k, V, hk, rfl, rfl, hV0, hV1, HV⟩ := hrel
            have b0 := bt_nonneg s k
            have b1 := bt_le s k
            by_cases hlt : k < s.size
            · cases hdk : dig (bt s k) with
              | false =>
                have hr2 : Hid (rlFin (bt s) (s.size) (0) = none) := rlFin_none (val_none (val_bad HV.out hdk) _ hlt)
                go_wp2_with (go_at_call 27; refine (dig_any _ _).mono ?_; rintro e w' ⟨rfl, rfl⟩)
                go_ret2
                exact ⟨ans_none (by rw [hr.out, hr2.out]), ⟨0, rfl⟩⟩
              | true =>
                have hd2 := dig_iff.1 hdk
                have hv2 : Hid (valTo (bt s) (k + 1) = some ((V * 10 + (bt s k - 48)) % 18446744073709551616)) := val_digit HV.out hdk
                go_wp2_with (go_at_call 27; refine (dig_any _ _).mono ?_; rintro e w' ⟨rfl, rfl⟩)
                go_round
                case rel => exact ⟨k + 1, (V * 10 + (bt s k - 48)) % 18446744073709551616, by omega, by go_num, int_u64 (by simp only [IntKind.wrap_u64]; omega), by omega, by omega, hv2⟩
                case measure => simp [intOf]; omega
            · have HK : Hid (k = s.size) := by show k = s.size; omega
              have hr2 : Hid (rlFin (bt s) (s.size) (0) = some ((V * 100 + (0)) % 18446744073709551616)) := by
                have hv := HV.out
                rw [HK.out] at hv
                exact rlFin_some (by omega) (by omega) hv
              go_wp2
              go_ret2
              exact ⟨ans_some (by rw [hr.out, hr2.out]) (by simp only [IntKind.wrap_u64]; omega), ⟨0, rfl⟩⟩

  · go_enter Try.func10, Try.ntmps10
    by_cases hw : s.size < 1
    · have hr2 : Hid (rlFin (bt s) (s.size) (0) = none) := rlFin_out (.inl hw)
      go_wp2
      go_ret2
      exact ⟨ans_none (by rw [hr.out, hr2.out]), ⟨0, rfl⟩⟩
    · by_cases hw2 : 17 < s.size
      · omega
      · go_wp2
        go_loop [7, 8] (fun v i => ∃ (k : Nat) (V : Int), k ≤ s.size ∧ i = .int .i64 k ∧ v = .int .u64 V ∧ 0 ≤ V ∧ V < 18446744073709551616 ∧ Hid (valTo (bt s) k = some V)) (fun _ i => s.size - (intOf i).toNat)
        case atStart => exact ⟨0, 0, by omega, rfl, rfl, by omega, by omega, rfl⟩
        case round =>
          obtain ⟨k, V, hk, rfl, rfl, hV0, hV1, HV⟩ := hrel
          have b0 := bt_nonneg s k
          have b1 := bt_le s k
          by_cases hlt : k < s.size
          · cases hdk : dig (bt s k) with
            | false =>
              have hr2 : Hid (rlFin (bt s) (s.size) (0) = none) := rlFin_none (val_none (val_bad HV.out hdk) _ hlt)
              go_wp2_with (go_at_call 27; refine (dig_any _ _).mono ?_; rintro e w' ⟨rfl, rfl⟩)
              go_ret2
              exact ⟨ans_none (by rw [hr.out, hr2.out]), ⟨0, rfl⟩⟩
            | true =>
              have hd2 := dig_iff.1 hdk
              have hv2 : Hid (valTo (bt s) (k + 1) = some ((V * 10 + (bt s k - 48)) % 18446744073709551616)) := val_digit HV.out hdk
              go_wp2_with (go_at_call 27; refine (dig_any _ _).mono ?_; rintro e w' ⟨rfl, rfl⟩)
              go_round
              case rel => exact ⟨k + 1, (V * 10 + (bt s k - 48)) % 18446744073709551616, by omega, by go_num, int_u64 (by simp only [IntKind.wrap_u64]; omega), by omega, by omega, hv2⟩
              case measure => simp [intOf]; omega
          · have HK : Hid (k = s.size) := by show k = s.size; omega
            have hr2 : Hid (rlFin (bt s) (s.size) (0) = some ((V * 100 + (0)) % 18446744073709551616)) := by
              have hv := HV.out
              rw [HK.out] at hv
              exact rlFin_some (by omega) (by omega) hv
            go_wp2
            go_ret2
            exact ⟨ans_some (by rw [hr.out, hr2.out]) (by simp only [IntKind.wrap_u64]; omega), ⟨0, rfl⟩⟩


theorem rl_any (s : ByteArray) (hs : s.size ≤ maxLen) (w : World) :
    Calls Try.prog 10 #[.string s] w fun e w' => e = ans (rl (bt s) s.size) ∧ ∃ n, w' = w.drewN n := by
  by_cases h1 : 2 ≤ s.size ∧ bt s (s.size - 2) = 46
  · exact rl_w1 s hs w h1.1 h1.2
  · by_cases h3 : 3 ≤ s.size ∧ bt s (s.size - 3) = 46
    · exact rl_w2 s hs w h1 h3.1 h3.2
    · exact rl_w3 s hs w h1 h3
end Go.Proofs.Qxb6604140a.Cents
