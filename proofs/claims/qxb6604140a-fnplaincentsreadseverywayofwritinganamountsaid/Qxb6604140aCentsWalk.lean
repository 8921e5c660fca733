import Derived.Test.Qxb6604140aRows
import Derived.Test.Qxb6604140aCentsPlain
import Derived.WalkKit
import Derived.WalkSpells
namespace Go.Proofs.Qxb6604140a.Cents
open Go.RowKit
def bt (s : ByteArray) (k : Nat) : Int := if h : k < s.size then ((s[k]'h).toNat : Int) else 0
theorem get_bt (s : ByteArray) : ∀ (n : Nat) (h : n < s.size), ((s[n]'h).toNat : Int) = bt s n := fun n h => by unfold bt; rw [dif_pos h]
theorem bt_nonneg (s : ByteArray) (k : Nat) : 0 ≤ bt s k := by unfold bt; split <;> omega
theorem bt_le (s : ByteArray) (k : Nat) : bt s k ≤ 255 := by
  unfold bt; split
  · have := (s[k]).toNat_lt; omega
  · omega

/-- What a reader that answers 'none' or 'some cents' hands back. -/
def ans (o : Option Int) : Ending := .returned (.tuple #[.int .u64 (o.getD 0), .bool o.isSome])
theorem ans_none {o : Option Int} (h : o = none) : Ending.returned (.tuple #[.int .u64 0, .bool false]) = ans o := by subst h; rfl
theorem ans_some {o : Option Int} {v x : Int} (h : o = some v) (e : x = v) : Ending.returned (.tuple #[.int .u64 x, .bool true]) = ans o := by subst h; subst e; rfl
theorem fin_dot0 {n : Nat} {c p : Int} (h : ¬ p < 0) (h1 : p = 0 ∨ 17 < p ∨ (n : Int) - p - 1 = 0 ∨ 2 < (n : Int) - p - 1) : fin n c p = none := by
  unfold fin; rw [if_neg h, if_pos h1]
theorem fin_dot1 {n : Nat} {c p : Int} (h : ¬ p < 0) (h1 : ¬ (p = 0 ∨ 17 < p ∨ (n : Int) - p - 1 = 0 ∨ 2 < (n : Int) - p - 1)) : fin n c p = some (mul10 (2 - ((n : Int) - p - 1)).toNat c) := by
  unfold fin; rw [if_neg h, if_neg h1]
theorem fin_no0 {n : Nat} {c p : Int} (h : p < 0) (h1 : n = 0 ∨ 17 < n) : fin n c p = none := by
  unfold fin; rw [if_pos h, if_pos h1]
theorem fin_no1 {n : Nat} {c p : Int} (h : p < 0) (h1 : ¬ (n = 0 ∨ 17 < n)) : fin n c p = some (mul10 2 c) := by
  unfold fin; rw [if_pos h, if_neg h1]
theorem mul10_bd (j : Nat) (c : Int) (h0 : 0 ≤ c) (h1 : c < 18446744073709551616) : 0 ≤ mul10 j c ∧ mul10 j c < 18446744073709551616 := by
  cases j with
  | zero => exact ⟨h0, h1⟩
  | succ j => simp only [mul10]; omega
theorem int_u64 {a b : Int} (h : a = b) : Value.int .u64 a = .int .u64 b := by rw [h]
theorem mul10_step (j : Nat) (c : Int) : IntKind.u64.wrap (mul10 j c * 10) = mul10 (j + 1) c := by rw [IntKind.wrap_u64]; rfl

set_option maxHeartbeats 1000000 in
theorem pc_any (s : ByteArray) (hs : s.size ≤ maxLen) (w : World) :
    Calls Try.prog 26 #[.string s] w fun e w' => e = ans (pc (bt s) s.size) ∧ w' = w := by
  unfold maxLen at hs
  have hg := get_bt s
  go_enter Try.func26, Try.ntmps26
  go_wp2
  go_loop [4, 5, 12] (fun c p i => ∃ (k : Nat) (C : Int) (P : Int), k ≤ s.size ∧ i = .int .i64 k ∧ c = .int .u64 C ∧ p = .int .i64 P ∧ 0 ≤ C ∧ C < 18446744073709551616 ∧ -1 ≤ P ∧ P < k ∧ Hid (scanTo (bt s) k = some (C, P))) (fun _ _ i => s.size - (intOf i).toNat)
  case atStart => exact ⟨0, 0, -1, Nat.zero_le _, rfl, rfl, rfl, by omega, by omega, by omega, by omega, rfl⟩
  case round =>
    obtain ⟨k, C, P, hk, rfl, rfl, rfl, hC0, hC1, hP0, hP1, HS⟩ := hrel
    have b0 := bt_nonneg s k
    have b1 := bt_le s k
    by_cases hlt : k < s.size
    · by_cases h46 : bt s k = 46
      · have H46 : Hid (bt s k = 46) := h46
        by_cases hP : P < 0
        · clear h46
          have h46' : (bt s k == 46) = true := by rw [H46.out]; rfl
          go_wp2
          go_round
          case rel => exact ⟨k + 1, C, k, by omega, by go_num, rfl, rfl, hC0, hC1, by omega, by omega, scan_point HS.out H46.out hP⟩
          case measure => simp [intOf]; omega
        · clear h46
          have h46' : (bt s k == 46) = true := by rw [H46.out]; rfl
          have h9 : 9 < (bt s k - 48) % 256 := by rw [H46.out]; decide
          have hbad : Hid (pc (bt s) s.size = none) := pc_none (scan_bad HS.out (by omega) (by have := H46.out; omega)) hlt
          go_wp2
          go_ret2
          exact ⟨ans_none hbad.out, rfl⟩
      · have h46' : (bt s k == 46) = false := beq_eq_false_iff_ne.2 h46
        by_cases hd : 48 ≤ bt s k ∧ bt s k ≤ 57
        · have h9 : (bt s k - 48) % 256 ≤ 9 := by omega
          have e9 : Hid ((bt s k - 48) % 256 = bt s k - 48) := by show (bt s k - 48) % 256 = bt s k - 48; omega
          have hs1 : Hid (scanTo (bt s) (k + 1) = some ((C * 10 + (bt s k - 48)) % 18446744073709551616, P)) := scan_digit HS.out hd.1 hd.2
          go_wp2
          go_round
          case rel => exact ⟨k + 1, (C * 10 + (bt s k - 48)) % 18446744073709551616, P, by omega, by go_num, int_u64 (by simp only [IntKind.wrap_u64]; omega), rfl, by omega, by omega, hP0, by omega, hs1⟩
          case measure => simp [intOf]; omega
        · have h9 : 9 < (bt s k - 48) % 256 := by omega
          have hbad : Hid (pc (bt s) s.size = none) := pc_none (scan_bad HS.out (by omega) (by omega)) hlt
          go_wp2
          go_ret2
          exact ⟨ans_none hbad.out, rfl⟩
    · obtain rfl : k = s.size := by omega
      have hpc : Hid (pc (bt s) s.size = fin s.size C P) := pc_some HS.out
      have hnn : (0 : Int) ≤ s.size := by omega
      by_cases hP : P < 0
      · by_cases hn0 : s.size = 0
        · have hfin : Hid (fin s.size C P = none) := fin_no0 hP (.inl hn0)
          have hz : ((s.size : Int) == 0) = true := by rw [hn0]; rfl
          clear hn0
          go_wp2
          go_ret2
          exact ⟨ans_none (by rw [hpc.out, hfin.out]), rfl⟩
        · by_cases hn1 : 17 < s.size
          · have hfin : Hid (fin s.size C P = none) := fin_no0 hP (.inr hn1)
            have hz : ((s.size : Int) == 0) = false := beq_eq_false_iff_ne.2 (by omega)
            go_wp2
            go_ret2
            exact ⟨ans_none (by rw [hpc.out, hfin.out]), rfl⟩
          · have hfin : Hid (fin s.size C P = some (mul10 2 C)) := fin_no1 hP (by omega)
            have hz : ((s.size : Int) == 0) = false := beq_eq_false_iff_ne.2 (by omega)
            go_wp2
            go_loop [4, 66] (fun c i => ∃ j : Nat, j ≤ 2 ∧ i = .int .i64 j ∧ c = .int .u64 (mul10 j C)) (fun _ i => 2 - (intOf i).toNat)
            case atStart => exact ⟨0, by omega, rfl, rfl⟩
            case round =>
              obtain ⟨j, hj, rfl, rfl⟩ := hrel
              have hst := mul10_step j C
              by_cases hj2 : j < 2
              · go_wp2
                go_round
                case rel => exact ⟨j + 1, by omega, by go_num, rfl⟩
                case measure => simp [intOf]; omega
              · obtain rfl : j = 2 := by omega
                go_wp2
                go_ret2
                exact ⟨ans_some (by rw [hpc.out, hfin.out]) rfl, rfl⟩
      · by_cases hb0 : P = 0
        · have hfin : Hid (fin s.size C P = none) := fin_dot0 hP (.inl hb0)
          have hz : (P == 0) = true := beq_iff_eq.2 hb0
          clear hb0
          go_wp2
          go_ret2
          exact ⟨ans_none (by rw [hpc.out, hfin.out]), rfl⟩
        · have hz : (P == 0) = false := beq_eq_false_iff_ne.2 hb0
          by_cases hb1 : 17 < P
          · have hfin : Hid (fin s.size C P = none) := fin_dot0 hP (.inr (.inl hb1))
            go_wp2
            go_ret2
            exact ⟨ans_none (by rw [hpc.out, hfin.out]), rfl⟩
          · by_cases hb2 : (s.size : Int) - P - 1 = 0
            · have hfin : Hid (fin s.size C P = none) := fin_dot0 hP (.inr (.inr (.inl hb2)))
              have hz2 : ((s.size : Int) - P - 1 == 0) = true := beq_iff_eq.2 hb2
              clear hb2
              go_wp2
              go_ret2
              exact ⟨ans_none (by rw [hpc.out, hfin.out]), rfl⟩
            · have hz2 : ((s.size : Int) - P - 1 == 0) = false := beq_eq_false_iff_ne.2 hb2
              by_cases hb3 : 2 < (s.size : Int) - P - 1
              · have hfin : Hid (fin s.size C P = none) := fin_dot0 hP (.inr (.inr (.inr hb3)))
                go_wp2
                go_ret2
                exact ⟨ans_none (by rw [hpc.out, hfin.out]), rfl⟩
              · have hfin : Hid (fin s.size C P = some (mul10 (2 - ((s.size : Int) - P - 1)).toNat C)) := fin_dot1 hP (by omega)
                go_wp2
                go_loop [4, 66] (fun c i => ∃ j : Nat, j ≤ (2 - ((s.size : Int) - P - 1)).toNat ∧ i = .int .i64 j ∧ c = .int .u64 (mul10 j C)) (fun _ i => 2 - (intOf i).toNat)
                case atStart => exact ⟨0, by omega, rfl, rfl⟩
                case round =>
                  obtain ⟨j, hj, rfl, rfl⟩ := hrel
                  have hst := mul10_step j C
                  by_cases hj2 : j < (2 - ((s.size : Int) - P - 1)).toNat
                  · have hj3 : (j : Int) < 2 - ((s.size : Int) - P - 1) := by omega
                    go_wp2
                    go_round
                    case rel => exact ⟨j + 1, by omega, by go_num, rfl⟩
                    case measure => simp [intOf]; omega
                  · have hj3 : ¬ (j : Int) < 2 - ((s.size : Int) - P - 1) := by omega
                    have hj4 : j = (2 - ((s.size : Int) - P - 1)).toNat := by omega
                    have HJ : Hid (j = (2 - ((s.size : Int) - P - 1)).toNat) := hj4
                    clear hj4 hj2 hj
                    go_wp2
                    go_ret2
                    exact ⟨ans_some (by rw [hpc.out, hfin.out]) (by rw [← HJ.out]), rfl⟩
end Go.Proofs.Qxb6604140a.Cents
