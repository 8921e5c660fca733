/-
  PLAIN: decimal texts, and what the readers make of them. No Go in sight.
-/
import Derived.Test.Qxb6604140aCentsPlain
namespace Go.Proofs.Qxb6604140a.Cents

/-- A list of bytes as a reader; 0 behind its end. -/
def lb (l : List UInt8) (i : Nat) : Int := ((l[i]?.getD 0).toNat : Int)

/-- The decimal digits of x, at most f of them (0: none). -/
def dec : Nat → Nat → List UInt8
  | 0, _ => []
  | f + 1, x => if x = 0 then [] else dec f (x / 10) ++ [UInt8.ofNat (x % 10 + 48)]
theorem dec_zero (f : Nat) : dec f 0 = [] := by cases f <;> simp [dec]
theorem dec_pos {f x : Nat} (h : 0 < x) : dec (f + 1) x = dec f (x / 10) ++ [UInt8.ofNat (x % 10 + 48)] := by
  simp only [dec]; rw [if_neg (by omega)]
theorem dec_len : ∀ (f x : Nat), (dec f x).length ≤ f := by
  intro f
  induction f with
  | zero => intro x; simp [dec]
  | succ f ih =>
    intro x
    by_cases h : x = 0
    · subst h; rw [dec_zero]; simp
    · rw [dec_pos (by omega)]; have := ih (x / 10); simp; omega
theorem dec_len_pow : ∀ (f x k : Nat), x < 10 ^ k → (dec f x).length ≤ k := by
  intro f
  induction f with
  | zero => intro x k _; simp [dec]
  | succ f ih =>
    intro x k hx
    by_cases h : x = 0
    · subst h; rw [dec_zero]; simp
    · cases k with
      | zero => simp at hx; omega
      | succ k =>
        rw [dec_pos (by omega)]
        have : x / 10 < 10 ^ k := by rw [Nat.pow_succ] at hx; omega
        have := ih (x / 10) k this
        simp; omega

def digs (l : List UInt8) : Prop := ∀ b ∈ l, 48 ≤ b.toNat ∧ b.toNat ≤ 57
theorem dec_digs : ∀ (f x : Nat), digs (dec f x) := by
  intro f
  induction f with
  | zero => intro x b hb; simp [dec] at hb
  | succ f ih =>
    intro x b hb
    by_cases h : x = 0
    · subst h; rw [dec_zero] at hb; simp at hb
    · rw [dec_pos (by omega)] at hb
      rcases List.mem_append.1 hb with h1 | h1
      · exact ih _ b h1
      · rw [List.mem_singleton.1 h1]
        have : (UInt8.ofNat (x % 10 + 48)).toNat = (x % 10 + 48) % 256 := UInt8.toNat_ofNat'
        omega

/-- The number that a list of digits says. -/
def nval (l : List UInt8) : Int := l.foldl (fun a b => a * 10 + ((b.toNat : Int) - 48)) 0
theorem nval_snoc (l : List UInt8) (b : UInt8) : nval (l ++ [b]) = nval l * 10 + ((b.toNat : Int) - 48) := by simp [nval]
theorem nval_dec : ∀ (f x : Nat), x < 10 ^ f → nval (dec f x) = x := by
  intro f
  induction f with
  | zero => intro x hx; simp at hx; subst hx; simp [dec, nval]
  | succ f ih =>
    intro x hx
    by_cases h : x = 0
    · subst h; rw [dec_zero]; simp [nval]
    · rw [dec_pos (by omega), nval_snoc]
      have h1 : x / 10 < 10 ^ f := by rw [Nat.pow_succ] at hx; omega
      rw [ih _ h1]
      have : (UInt8.ofNat (x % 10 + 48)).toNat = (x % 10 + 48) % 256 := UInt8.toNat_ofNat'
      omega
theorem nval_zero_cons (l : List UInt8) : nval (48 :: l) = nval l := by simp [nval]

theorem lb_at {l : List UInt8} {i : Nat} {b : UInt8} (h : l[i]? = some b) : lb l i = (b.toNat : Int) := by simp [lb, h]
theorem valTo_congr {b c : Nat → Int} : ∀ {k : Nat}, (∀ i, i < k → b i = c i) → valTo b k = valTo c k := by
  intro k
  induction k with
  | zero => intro _; rfl
  | succ k ih =>
    intro h
    simp only [valTo, ih fun i hi => h i (by omega), h k (by omega)]

theorem dig_lb {l : List UInt8} {i : Nat} (h : digs l) (hi : i < l.length) : dig (lb l i) = true := by
  have hb := h l[i] (List.getElem_mem hi)
  rw [lb_at (List.getElem?_eq_getElem hi)]
  exact dig_iff.2 ⟨by omega, by omega⟩

/-- The reader of digits on a list: after k bytes. -/
theorem valTo_take {l : List UInt8} (h : digs l) : ∀ k, k ≤ l.length → valTo (lb l) k = some (nval (l.take k) % 18446744073709551616) := by
  intro k
  induction k with
  | zero => intro _; simp [valTo, nval]
  | succ k ih =>
    intro hk
    rw [val_digit (ih (by omega)) (dig_lb h (by omega))]
    rw [List.take_succ_eq_append_getElem (by omega), nval_snoc, lb_at (List.getElem?_eq_getElem (by omega))]
    congr 1
    omega
theorem valTo_list {l r : List UInt8} (h : digs l) : valTo (lb (l ++ r)) l.length = some (nval l % 18446744073709551616) := by
  rw [valTo_congr (c := lb l) (fun i hi => by unfold lb; rw [List.getElem?_append_left hi]), valTo_take h _ (Nat.le_refl _), List.take_length]

theorem rl_two (W : List UInt8) (t o : UInt8) (n : Nat) (v : Int) (hW : digs W) (h1 : 1 ≤ W.length) (h2 : W.length ≤ 17) (ht : 48 ≤ t.toNat ∧ t.toNat ≤ 57) (ho : 48 ≤ o.toNat ∧ o.toNat ≤ 57)
    (hn : n = W.length + 3) (hv : nval W = v) (v0 : 0 ≤ v) (v1 : v < 100000000000000000) :
    rl (lb (W ++ [46, t, o])) n = some (v * 100 + ((t.toNat : Int) - 48) * 10 + ((o.toNat : Int) - 48)) := by
  subst hn
  have b1 : lb (W ++ [46, t, o]) (W.length + 2) = (o.toNat : Int) := lb_at (by rw [List.getElem?_append_right (by omega)]; simp)
  have b2 : lb (W ++ [46, t, o]) (W.length + 1) = (t.toNat : Int) := lb_at (by rw [List.getElem?_append_right (by omega)]; simp)
  have b3 : lb (W ++ [46, t, o]) W.length = 46 := lb_at (b := 46) (by rw [List.getElem?_append_right (by omega)]; simp)
  unfold rl
  rw [show W.length + 3 - 2 = W.length + 1 from rfl, show W.length + 3 - 3 = W.length from rfl, show W.length + 3 - 1 = W.length + 2 from rfl, b1, b2, b3]
  rw [if_neg (by omega), if_pos ⟨by omega, rfl⟩, if_pos ⟨dig_iff.2 (by omega), dig_iff.2 (by omega)⟩, rlFin_some h1 h2 (valTo_list hW), hv]
  congr 1
  omega
theorem rl_one (W : List UInt8) (t : UInt8) (n : Nat) (v : Int) (hW : digs W) (h1 : 1 ≤ W.length) (h2 : W.length ≤ 17) (ht : 48 ≤ t.toNat ∧ t.toNat ≤ 57)
    (hn : n = W.length + 2) (hv : nval W = v) (v0 : 0 ≤ v) (v1 : v < 100000000000000000) :
    rl (lb (W ++ [46, t])) n = some (v * 100 + ((t.toNat : Int) - 48) * 10) := by
  subst hn
  have b2 : lb (W ++ [46, t]) (W.length + 1) = (t.toNat : Int) := lb_at (by rw [List.getElem?_append_right (by omega)]; simp)
  have b3 : lb (W ++ [46, t]) W.length = 46 := lb_at (b := 46) (by rw [List.getElem?_append_right (by omega)]; simp)
  unfold rl
  rw [show W.length + 2 - 2 = W.length from rfl, show W.length + 2 - 1 = W.length + 1 from rfl, b2, b3]
  rw [if_pos ⟨by omega, rfl⟩, if_pos (dig_iff.2 (by omega)), rlFin_some h1 h2 (valTo_list hW), hv]
  congr 1
  omega
theorem rl_none (W : List UInt8) (n : Nat) (v : Int) (hW : digs W) (h1 : 1 ≤ W.length) (h2 : W.length ≤ 17)
    (hn : n = W.length) (hv : nval W = v) (v0 : 0 ≤ v) (v1 : v < 100000000000000000) :
    rl (lb W) n = some (v * 100) := by
  subst hn
  unfold rl
  rw [if_neg (fun h => dig_nodot (dig_lb hW (by omega)) h.2), if_neg (fun h => dig_nodot (dig_lb hW (by omega)) h.2)]
  have := valTo_list (r := []) hW
  rw [List.append_nil] at this
  rw [rlFin_some h1 h2 this, hv]
  congr 1
  omega
/-- An eighteenth whole digit. -/
theorem rl_long (W : List UInt8) (t o : UInt8) (n : Nat) (h2 : 17 < W.length) (ht : 48 ≤ t.toNat ∧ t.toNat ≤ 57) (hn : n = W.length + 3) :
    rl (lb (W ++ [46, t, o])) n = none := by
  subst hn
  have b2 : lb (W ++ [46, t, o]) (W.length + 1) = (t.toNat : Int) := lb_at (by rw [List.getElem?_append_right (by omega)]; simp)
  have b3 : lb (W ++ [46, t, o]) W.length = 46 := lb_at (b := 46) (by rw [List.getElem?_append_right (by omega)]; simp)
  unfold rl
  rw [show W.length + 3 - 2 = W.length + 1 from rfl, show W.length + 3 - 3 = W.length from rfl, b2, b3]
  rw [if_neg (by omega), if_pos ⟨by omega, rfl⟩]
  split
  · exact rlFin_out (.inr h2)
  · rfl
/-- A third byte behind the two decimals, whatever it is. -/
theorem rl_tail (W : List UInt8) (t o x : UInt8) (n : Nat) (ht : 48 ≤ t.toNat ∧ t.toNat ≤ 57) (ho : 48 ≤ o.toNat ∧ o.toNat ≤ 57) (hn : n = W.length + 4) :
    rl (lb (W ++ [46, t, o, x])) n = none := by
  subst hn
  have b1 : lb (W ++ [46, t, o, x]) (W.length + 2) = (o.toNat : Int) := lb_at (by rw [List.getElem?_append_right (by omega)]; simp)
  have b2 : lb (W ++ [46, t, o, x]) (W.length + 1) = (t.toNat : Int) := lb_at (by rw [List.getElem?_append_right (by omega)]; simp)
  have b3 : lb (W ++ [46, t, o, x]) W.length = 46 := lb_at (b := 46) (by rw [List.getElem?_append_right (by omega)]; simp)
  unfold rl
  rw [show W.length + 4 - 2 = W.length + 2 from rfl, show W.length + 4 - 3 = W.length + 1 from rfl, b1, b2]
  rw [if_neg (by omega), if_neg (by omega)]
  exact rlFin_none (val_not (i := W.length) (by omega) (dot_nodig b3))
/-- A leading point. -/
theorem rl_lead (W : List UInt8) (t o : UInt8) (n : Nat) (ht : 48 ≤ t.toNat ∧ t.toNat ≤ 57) (hn : n = W.length + 4) :
    rl (lb (46 :: W ++ [46, t, o])) n = none := by
  subst hn
  have b2 : lb (46 :: W ++ [46, t, o]) (W.length + 2) = (t.toNat : Int) := lb_at (by rw [List.getElem?_append_right (by simp)]; simp)
  have b3 : lb (46 :: W ++ [46, t, o]) (W.length + 1) = 46 := lb_at (b := 46) (by rw [List.getElem?_append_right (by simp)]; simp)
  have b0 : lb (46 :: W ++ [46, t, o]) 0 = 46 := rfl
  unfold rl
  rw [show W.length + 4 - 2 = W.length + 2 from rfl, show W.length + 4 - 3 = W.length + 1 from rfl, b2, b3]
  rw [if_neg (by omega), if_pos ⟨by omega, rfl⟩]
  split
  · exact rlFin_none (val_not (i := 0) (by omega) (dot_nodig b0))
  · rfl
end Go.Proofs.Qxb6604140a.Cents
