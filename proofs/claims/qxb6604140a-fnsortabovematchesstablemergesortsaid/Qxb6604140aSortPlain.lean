/-
  PLAIN: stable sorting by a key: what it is, that it is one, that merging runs does it, that dealing into buckets digit by digit does it. No Go in sight.
-/
namespace Go.Proofs.Qxb6604140a.Srt

/-! ### Segments of a function -/
def seg (f : Nat → Int) (a : Nat) : Nat → List Int
  | 0 => []
  | n + 1 => f a :: seg f (a + 1) n
theorem seg_length (f : Nat → Int) : ∀ n a, (seg f a n).length = n := by
  intro n; induction n with
  | zero => intro a; rfl
  | succ n ih => intro a; simp [seg, ih]
theorem seg_append (f : Nat → Int) : ∀ m a n, seg f a (m + n) = seg f a m ++ seg f (a + m) n := by
  intro m; induction m with
  | zero => intro a n; simp [seg]
  | succ m ih =>
    intro a n
    rw [show m + 1 + n = (m + n) + 1 from by omega]
    simp only [seg, List.cons_append]
    rw [ih, show a + 1 + m = a + (m + 1) from by omega]
theorem seg_snoc (f : Nat → Int) (a n : Nat) : seg f a (n + 1) = seg f a n ++ [f (a + n)] := by rw [seg_append]; rfl
theorem seg_congr {f g : Nat → Int} : ∀ {n a : Nat}, (∀ i, a ≤ i → i < a + n → f i = g i) → seg f a n = seg g a n := by
  intro n; induction n with
  | zero => intro a _; rfl
  | succ n ih =>
    intro a h
    simp only [seg]
    rw [h a (by omega) (by omega), ih fun i h1 h2 => h i (by omega) (by omega)]
theorem seg_inj {f g : Nat → Int} : ∀ {n a : Nat}, seg f a n = seg g a n → ∀ i, a ≤ i → i < a + n → f i = g i := by
  intro n; induction n with
  | zero => intro a _ i h1 h2; omega
  | succ n ih =>
    intro a h i h1 h2
    simp only [seg, List.cons.injEq] at h
    by_cases e : i = a
    · rw [e]; exact h.1
    · exact ih h.2 i (by omega) (by omega)
theorem mem_seg {f : Nat → Int} {x : Int} : ∀ {n a : Nat}, x ∈ seg f a n → ∃ i, a ≤ i ∧ i < a + n ∧ f i = x := by
  intro n; induction n with
  | zero => intro a h; simp [seg] at h
  | succ n ih =>
    intro a h
    simp only [seg, List.mem_cons] at h
    rcases h with h | h
    · exact ⟨a, by omega, by omega, h.symm⟩
    · obtain ⟨i, h1, h2, h3⟩ := ih h; exact ⟨i, by omega, by omega, h3⟩

/-! ### Stable sorting -/
def SS (K : Int → Int) (a b : List Int) : Prop := a.Pairwise (fun x y => K x ≤ K y) ∧ ∀ v, a.filter (fun x => K x == v) = b.filter (fun x => K x == v)

theorem pw_mono {R S : Int → Int → Prop} : ∀ {l : List Int}, (∀ x y, x ∈ l → y ∈ l → R x y → S x y) → l.Pairwise R → l.Pairwise S := by
  intro l
  induction l with
  | nil => intro _ _; exact List.Pairwise.nil
  | cons x l ih =>
    intro h hp
    have hp' := List.pairwise_cons.1 hp
    exact List.pairwise_cons.2 ⟨fun y hy => h x y (by simp) (by simp [hy]) (hp'.1 y hy), ih (fun a b ha hb => h a b (by simp [ha]) (by simp [hb])) hp'.2⟩
theorem SS_nil (K : Int → Int) : SS K [] [] := ⟨List.Pairwise.nil, fun _ => rfl⟩
theorem SS_one (K : Int → Int) (x : Int) : SS K [x] [x] := ⟨List.pairwise_singleton _ _, fun _ => rfl⟩
theorem SS_mem {K : Int → Int} {a b : List Int} (h : SS K a b) (x : Int) : x ∈ a ↔ x ∈ b := by
  have := h.2 (K x)
  have e : x ∈ a.filter (fun y => K y == K x) ↔ x ∈ b.filter (fun y => K y == K x) := by rw [this]
  simpa using e
theorem SS_congr {K J : Int → Int} {a b : List Int} (h : SS K a b) (e : ∀ x, x ∈ b → K x = J x) : SS J a b := by
  have ea : ∀ x, x ∈ a → K x = J x := fun x hx => e x ((SS_mem h x).1 hx)
  refine ⟨pw_mono (fun x y hx hy hxy => by rw [← ea x hx, ← ea y hy]; exact hxy) h.1, fun v => ?_⟩
  rw [List.filter_congr (q := fun x => K x == v) fun x hx => by rw [ea x hx], List.filter_congr (l := b) (q := fun x => K x == v) fun x hx => by rw [e x hx]]
  exact h.2 v

theorem SS_unique {K : Int → Int} : ∀ {a b : List Int}, a.Pairwise (fun x y => K x ≤ K y) → b.Pairwise (fun x y => K x ≤ K y) → (∀ v, a.filter (fun x => K x == v) = b.filter (fun x => K x == v)) → a = b := by
  intro a
  induction a with
  | nil =>
    intro b _ _ h
    cases b with
    | nil => rfl
    | cons y b => have := h (K y); simp at this
  | cons x a ih =>
    intro b ha hb h
    cases b with
    | nil => have := h (K x); simp at this
    | cons y b =>
      have ha' := List.pairwise_cons.1 ha
      have hb' := List.pairwise_cons.1 hb
      have m1 : x ∈ y :: b := by
        have : x ∈ (y :: b).filter (fun z => K z == K x) := by rw [← h (K x)]; simp
        exact (List.mem_filter.1 this).1
      have m2 : y ∈ x :: a := by
        have : y ∈ (x :: a).filter (fun z => K z == K y) := by rw [h (K y)]; simp
        exact (List.mem_filter.1 this).1
      have k1 : K y ≤ K x := by
        rcases List.mem_cons.1 m1 with e | e
        · rw [e]; omega
        · exact hb'.1 x e
      have k2 : K x ≤ K y := by
        rcases List.mem_cons.1 m2 with e | e
        · rw [e]; omega
        · exact ha'.1 y e
      have ke : K y = K x := by omega
      have h0 := h (K x)
      have exy : x = y := by
        simp [ke] at h0
        exact h0.1
      subst exy
      congr 1
      refine ih ha'.2 hb'.2 fun v => ?_
      have hv := h v
      by_cases c : K x = v
      · simp [c] at hv; simpa using hv
      · simp [c] at hv; simpa using hv
theorem SS_one_only {K : Int → Int} {a b c : List Int} (h1 : SS K a c) (h2 : SS K b c) : a = b :=
  SS_unique h1.1 h2.1 fun v => (h1.2 v).trans (h2.2 v).symm

/-! ### Merging -/
def le (K : Int → Int) (x y : Int) : Bool := decide (K x ≤ K y)
def mrg (K : Int → Int) (a b : List Int) : List Int := List.merge a b (le K)
theorem mrg_nil_left (K : Int → Int) (b : List Int) : mrg K [] b = b := by simp [mrg]
theorem mrg_nil_right (K : Int → Int) (a : List Int) : mrg K a [] = a := by simp [mrg]
theorem mrg_left {K : Int → Int} {x y : Int} (a b : List Int) (h : K x ≤ K y) : mrg K (x :: a) (y :: b) = x :: mrg K a (y :: b) := by
  unfold mrg; rw [List.cons_merge_cons_pos]; simpa [le] using h
theorem mrg_right {K : Int → Int} {x y : Int} (a b : List Int) (h : ¬ K x ≤ K y) : mrg K (x :: a) (y :: b) = y :: mrg K (x :: a) b := by
  unfold mrg; rw [List.cons_merge_cons_neg]; simpa [le] using h
theorem mrg_filter {K : Int → Int} (v : Int) : ∀ (n : Nat) (a b : List Int), a.length + b.length ≤ n → a.Pairwise (fun x y => K x ≤ K y) →
    (mrg K a b).filter (fun x => K x == v) = a.filter (fun x => K x == v) ++ b.filter (fun x => K x == v) := by
  intro n
  induction n with
  | zero =>
    intro a b h _
    have ea : a = [] := List.length_eq_zero_iff.1 (by omega)
    have eb : b = [] := List.length_eq_zero_iff.1 (by omega)
    subst ea; subst eb; rw [mrg_nil_left]; rfl
  | succ n ih =>
    intro a b h ha
    cases a with
    | nil => rw [mrg_nil_left]; simp
    | cons x a =>
      cases b with
      | nil => rw [mrg_nil_right]; simp
      | cons y b =>
        simp only [List.length_cons] at h
        by_cases c : K x ≤ K y
        · rw [mrg_left a b c, List.filter_cons, ih a (y :: b) (by simp; omega) (List.pairwise_cons.1 ha).2, List.filter_cons (x := x)]
          split <;> simp
        · rw [mrg_right a b c, List.filter_cons, ih (x :: a) b (by simp; omega) ha, List.filter_cons (x := y)]
          split
          · rename_i e
            have e' : K y = v := by simpa using e
            have none : (x :: a).filter (fun z => K z == v) = [] := by
              rw [List.filter_eq_nil_iff]
              intro z hz
              have : K x ≤ K z := by
                rcases List.mem_cons.1 hz with q | q
                · rw [q]; omega
                · exact (List.pairwise_cons.1 ha).1 z q
              simp; omega
            rw [none]; simp
          · rfl
theorem SS_mrg {K : Int → Int} {a b a0 b0 : List Int} (h1 : SS K a a0) (h2 : SS K b b0) : SS K (mrg K a b) (a0 ++ b0) := by
  refine ⟨?_, fun v => ?_⟩
  · have hp := List.pairwise_merge (le := le K) (by intro x y z; simp [le]; omega) (by intro x y; simp [le]; omega) a b (pw_mono (fun x y _ _ => by simp [le]) h1.1) (pw_mono (fun x y _ _ => by simp [le]) h2.1)
    exact pw_mono (fun x y _ _ => by simp [le]) hp
  · rw [mrg_filter v _ a b (Nat.le_refl _) h1.1, List.filter_append, h1.2, h2.2]

/-! ### Chunks of a width -/
/-- Chunk c of width W of the first n values. -/
def chk (f : Nat → Int) (n W c : Nat) : List Int := seg f (c * W) (min (c * W + W) n - c * W)
theorem chk_out {f : Nat → Int} {n W c : Nat} (h : n ≤ c * W) : chk f n W c = [] := by
  unfold chk; rw [show min (c * W + W) n - c * W = 0 from by omega]; rfl
def CH (K : Int → Int) (S S0 : Nat → Int) (n W : Nat) : Prop := ∀ c, SS K (chk S n W c) (chk S0 n W c)
theorem CH_one (K : Int → Int) (S : Nat → Int) (n : Nat) : CH K S S n 1 := by
  intro c
  unfold chk
  by_cases h : c < n
  · rw [show min (c * 1 + 1) n - c * 1 = 1 from by omega]; exact SS_one _ _
  · rw [show min (c * 1 + 1) n - c * 1 = 0 from by omega]; exact SS_nil _
theorem CH_whole {K : Int → Int} {S S0 : Nat → Int} {n W : Nat} (h : CH K S S0 n W) (hW : n ≤ W) : SS K (seg S 0 n) (seg S0 0 n) := by
  have := h 0
  unfold chk at this
  rw [show min (0 * W + W) n - 0 * W = n from by omega, show 0 * W = 0 from by omega] at this
  exact this
/-- Two chunks merged are a chunk of twice the width. -/
theorem chk_two {K : Int → Int} {S S0 : Nat → Int} {n W c lo : Nat} (h : CH K S S0 n W) (hlo : lo = c * (2 * W)) (hn : lo < n) {D : Nat → Int}
    (hD : seg D lo (min (lo + 2 * W) n - lo) = mrg K (seg S lo (min (lo + W) n - lo)) (seg S (min (lo + W) n) (min (lo + 2 * W) n - min (lo + W) n))) :
    SS K (chk D n (2 * W) c) (chk S0 n (2 * W) c) := by
  have e0 : 2 * c * W = lo := by rw [hlo, Nat.mul_comm 2 c, Nat.mul_assoc]
  have e1 : (2 * c + 1) * W = lo + W := by rw [Nat.add_mul, e0]; omega
  have h0 := h (2 * c)
  have h1 := h (2 * c + 1)
  unfold chk at h0 h1 ⊢
  rw [e0] at h0
  rw [e1] at h1
  rw [← hlo]
  rw [hD]
  have h1' : SS K (seg S (min (lo + W) n) (min (lo + 2 * W) n - min (lo + W) n)) (seg S0 (min (lo + W) n) (min (lo + 2 * W) n - min (lo + W) n)) := by
    by_cases q : lo + W ≤ n
    · rw [show min (lo + W) n = lo + W from by omega]
      rw [show lo + W + W = lo + 2 * W from by omega] at h1
      exact h1
    · rw [show min (lo + 2 * W) n - min (lo + W) n = 0 from by omega]; exact SS_nil _
  have := SS_mrg h0 h1'
  have e2 : seg S0 lo (min (lo + 2 * W) n - lo) = seg S0 lo (min (lo + W) n - lo) ++ seg S0 (min (lo + W) n) (min (lo + 2 * W) n - min (lo + W) n) := by
    have := seg_append S0 (min (lo + W) n - lo) lo (min (lo + 2 * W) n - min (lo + W) n)
    rw [show min (lo + W) n - lo + (min (lo + 2 * W) n - min (lo + W) n) = min (lo + 2 * W) n - lo from by omega, show lo + (min (lo + W) n - lo) = min (lo + W) n from by omega] at this
    exact this
  rw [e2]
  exact this

/-! ### Dealing into buckets by a digit -/
/-- The values of l whose digit is e, in their order. -/
def bk (d : Int → Int) (l : List Int) (e : Nat) : List Int := l.filter (fun x => d x == (e : Int))
def cnt (d : Int → Int) (l : List Int) (e : Nat) : Nat := (bk d l e).length
def base (d : Int → Int) (l : List Int) : Nat → Nat
  | 0 => 0
  | e + 1 => base d l e + cnt d l e
def bks (d : Int → Int) (l : List Int) : Nat → List Int
  | 0 => []
  | e + 1 => bks d l e ++ bk d l e
theorem base_mono (d : Int → Int) (l : List Int) : ∀ {a b : Nat}, a ≤ b → base d l a ≤ base d l b := by
  intro a b h
  induction b with
  | zero => have : a = 0 := by omega
            subst this; exact Nat.le_refl _
  | succ b ih =>
    by_cases e : a = b + 1
    · subst e; exact Nat.le_refl _
    · have := ih (by omega); simp only [base]; omega
theorem bk_snoc (d : Int → Int) (l : List Int) (x : Int) (e : Nat) : bk d (l ++ [x]) e = bk d l e ++ (if d x = (e : Int) then [x] else []) := by
  unfold bk; rw [List.filter_append]
  by_cases h : d x = (e : Int) <;> simp [h]
theorem cnt_snoc_same {d : Int → Int} {l : List Int} {x : Int} {e : Nat} (h : d x = (e : Int)) : cnt d (l ++ [x]) e = cnt d l e + 1 := by
  unfold cnt; rw [bk_snoc, if_pos h]; simp
theorem cnt_snoc_other {d : Int → Int} {l : List Int} {x : Int} {e : Nat} (h : ¬ d x = (e : Int)) : cnt d (l ++ [x]) e = cnt d l e := by
  unfold cnt; rw [bk_snoc, if_neg h]; simp
theorem cnt_nil (d : Int → Int) (e : Nat) : cnt d [] e = 0 := rfl
theorem cnt_le (d : Int → Int) (l : List Int) (e : Nat) : cnt d l e ≤ l.length := List.length_filter_le _ _
theorem base_snoc {d : Int → Int} {l : List Int} {x : Int} {e : Nat} (h : d x = (e : Int)) : ∀ E, base d (l ++ [x]) E = base d l E + (if e < E then 1 else 0) := by
  intro E
  induction E with
  | zero => rfl
  | succ E ih =>
    simp only [base]
    rw [ih]
    by_cases c : e = E
    · subst c
      rw [cnt_snoc_same h, if_neg (by omega), if_pos (by omega)]; omega
    · rw [cnt_snoc_other (by omega)]
      by_cases c2 : e < E
      · rw [if_pos c2, if_pos (by omega)]; omega
      · rw [if_neg c2, if_neg (by omega)]; omega
theorem base_all {d : Int → Int} {N : Nat} (hd : ∀ x, 0 ≤ d x ∧ d x < (N : Int)) (S : Nat → Int) : ∀ n, base d (seg S 0 n) N = n := by
  intro n
  induction n with
  | zero =>
    have : ∀ E, base d [] E = 0 := by
      intro E
      induction E with
      | zero => rfl
      | succ E ih => simp only [base, ih, cnt_nil]
    exact this N
  | succ n ih =>
    obtain ⟨e, he⟩ : ∃ e : Nat, d (S (0 + n)) = (e : Int) := ⟨(d (S (0 + n))).toNat, by have := hd (S (0 + n)); omega⟩
    rw [seg_snoc, base_snoc he, ih, if_pos (by have := hd (S (0 + n)); omega)]
/-- The buckets laid out behind one another are the array. -/
theorem seg_bks {d : Int → Int} {l : List Int} {T : Nat → Int} {N : Nat} (h : ∀ e, e < N → seg T (base d l e) (cnt d l e) = bk d l e) : ∀ E, E ≤ N → seg T 0 (base d l E) = bks d l E := by
  intro E
  induction E with
  | zero => intro _; rfl
  | succ E ih =>
    intro hE
    simp only [base, bks]
    rw [seg_append, ih (by omega), Nat.zero_add, h E (by omega)]
/-- One value more is dealt. -/
theorem deal {d : Int → Int} {S T : Nat → Int} {n m N e : Nat} (he : d (S m) = (e : Int)) 
    (h : ∀ x, x < N → seg T (base d (seg S 0 n) x) (cnt d (seg S 0 m) x) = bk d (seg S 0 m) x) (hle : ∀ x, cnt d (seg S 0 (m + 1)) x ≤ cnt d (seg S 0 n) x) :
    ∀ x, x < N → seg (fun j => if j = base d (seg S 0 n) e + cnt d (seg S 0 m) e then S m else T j) (base d (seg S 0 n) x) (cnt d (seg S 0 (m + 1)) x) = bk d (seg S 0 (m + 1)) x := by
  intro x hx
  have hsn : seg S 0 (m + 1) = seg S 0 m ++ [S m] := by rw [seg_snoc, Nat.zero_add]
  have hlt : cnt d (seg S 0 m) e + 1 ≤ cnt d (seg S 0 n) e := by have := hle e; rw [hsn, cnt_snoc_same he] at this; exact this
  by_cases c : x = e
  · subst c
    rw [hsn, cnt_snoc_same he, bk_snoc, if_pos he, seg_snoc]
    rw [seg_congr (g := T) (fun i h1 h2 => if_neg (by omega)), h x hx]
    simp
  · have hne : ¬ d (S m) = (x : Int) := by omega
    have hx2 := hle x
    rw [hsn, cnt_snoc_other hne] at hx2
    rw [hsn, cnt_snoc_other hne, bk_snoc, if_neg hne, List.append_nil]
    rw [seg_congr (g := T) (fun i h1 h2 => if_neg ?_), h x hx]
    rcases Nat.lt_or_ge x e with q | q
    · have := base_mono d (seg S 0 n) (show x + 1 ≤ e by omega)
      simp only [base] at this
      omega
    · have := base_mono d (seg S 0 n) (show e + 1 ≤ x by omega)
      simp only [base] at this
      omega
theorem cnt_mono (d : Int → Int) (S : Nat → Int) (e : Nat) {m n : Nat} (h : m ≤ n) : cnt d (seg S 0 m) e ≤ cnt d (seg S 0 n) e := by
  obtain ⟨r, rfl⟩ : ∃ r, n = m + r := ⟨n - m, by omega⟩
  rw [seg_append]
  unfold cnt bk
  rw [List.filter_append]
  simp

/-- Where all values lie in one bucket the dealing changes nothing. -/
theorem bks_one {d : Int → Int} {l : List Int} {e N : Nat} (he : e < N) (h : cnt d l e = l.length) : bks d l N = l := by
  have hf : bk d l e = l := by
    unfold cnt at h
    exact (List.filter_sublist).eq_of_length h
  have hall : ∀ x ∈ l, d x = (e : Int) := by
    intro x hx
    rw [← hf] at hx
    unfold bk at hx
    simpa using (List.mem_filter.1 hx).2
  have hz : ∀ x, x ≠ e → bk d l x = [] := by
    intro x hx
    unfold bk
    rw [List.filter_eq_nil_iff]
    intro y hy
    rw [hall y hy]
    simp
    omega
  have : ∀ E, bks d l E = if e < E then l else [] := by
    intro E
    induction E with
    | zero => simp [bks]
    | succ E ih =>
      simp only [bks, ih]
      by_cases c : e = E
      · subst c; rw [if_neg (by omega), if_pos (by omega), hf]; rfl
      · rw [hz E (fun q => c q.symm), List.append_nil]
        by_cases c2 : e < E
        · rw [if_pos c2, if_pos (by omega)]
        · rw [if_neg c2, if_neg (by omega)]
  rw [this, if_pos he]

theorem mem_bks {d : Int → Int} {l : List Int} {x : Int} : ∀ {E : Nat}, x ∈ bks d l E → x ∈ l ∧ d x < (E : Int) := by
  intro E
  induction E with
  | zero => intro h; simp [bks] at h
  | succ E ih =>
    intro h
    simp only [bks, List.mem_append] at h
    rcases h with h | h
    · have := ih h; exact ⟨this.1, by omega⟩
    · unfold bk at h
      have := List.mem_filter.1 h
      have e : d x = (E : Int) := by simpa using this.2
      exact ⟨this.1, by omega⟩
/-- Dealing by the next digit: J sorts by the digit first, then by K. -/
theorem SS_bks {K J d : Int → Int} {a b : List Int} {N : Nat} {M : Int} (hM : 0 < M) (hJ : ∀ x, J x = d x * M + K x) (hK : ∀ x, 0 ≤ K x ∧ K x < M) (hd : ∀ x, 0 ≤ d x ∧ d x < (N : Int)) (h : SS K a b) :
    SS J (bks d a N) b := by
  refine ⟨?_, fun v => ?_⟩
  · have : ∀ E, (bks d a E).Pairwise (fun x y => J x ≤ J y) := by
      intro E
      induction E with
      | zero => exact List.Pairwise.nil
      | succ E ih =>
        simp only [bks]
        rw [List.pairwise_append]
        refine ⟨ih, ?_, ?_⟩
        · unfold bk
          refine pw_mono (fun x y hx hy hxy => ?_) (List.Pairwise.filter _ h.1)
          have ex : d x = (E : Int) := by simpa using (List.mem_filter.1 hx).2
          have ey : d y = (E : Int) := by simpa using (List.mem_filter.1 hy).2
          rw [hJ, hJ, ex, ey]
          omega
        · intro x hx y hy
          have h1 := (mem_bks hx).2
          have ey : d y = (E : Int) := by unfold bk at hy; simpa using (List.mem_filter.1 hy).2
          have k1 := hK x
          have k2 := hK y
          rw [hJ, hJ, ey]
          have : (d x + 1) * M ≤ (E : Int) * M := Int.mul_le_mul_of_nonneg_right (by omega) (by omega)
          rw [Int.add_mul] at this
          omega
    exact this N
  · have hsplit : ∀ x, (J x == v) = ((d x == v / M) && (K x == v % M)) := by
      intro x
      rw [Bool.eq_iff_iff]
      simp only [beq_iff_eq, Bool.and_eq_true]
      constructor
      · intro e
        have k1 := hK x
        rw [hJ] at e
        subst e
        rw [Int.add_comm, Int.add_mul_ediv_right _ _ (by omega), Int.ediv_eq_zero_of_lt k1.1 k1.2, Int.add_mul_emod_self_right, Int.emod_eq_of_lt k1.1 k1.2]
        omega
      · rintro ⟨e1, e2⟩
        rw [hJ, e1, e2, Int.mul_comm]
        exact Int.mul_ediv_add_emod v M
    have hb : ∀ l : List Int, l.filter (fun x => J x == v) = (l.filter (fun x => K x == v % M)).filter (fun x => d x == v / M) := by
      intro l
      rw [List.filter_filter]
      exact List.filter_congr fun x _ => hsplit x
    have hE : ∀ E : Nat, (bks d a E).filter (fun x => J x == v) = if 0 ≤ v / M ∧ v / M < (E : Int) then a.filter (fun x => J x == v) else [] := by
      intro E
      induction E with
      | zero => rw [if_neg (by omega)]; rfl
      | succ E ih =>
        simp only [bks]
        rw [List.filter_append, ih]
        unfold bk
        by_cases c : v / M = (E : Int)
        · rw [if_neg (by omega), if_pos (by omega), List.nil_append, List.filter_filter]
          refine List.filter_congr fun x _ => ?_
          rw [hsplit x, c]
          cases (d x == (E : Int)) <;> simp
        · have hn : (a.filter (fun x => d x == (E : Int))).filter (fun x => J x == v) = [] := by
            rw [List.filter_eq_nil_iff]
            intro x hx
            have ex : d x = (E : Int) := by simpa using (List.mem_filter.1 hx).2
            rw [hsplit x, ex]
            simp only [Bool.and_eq_true, beq_iff_eq, not_and]
            intro q; omega
          rw [hn, List.append_nil]
          by_cases c2 : 0 ≤ v / M ∧ v / M < (E : Int)
          · rw [if_pos c2, if_pos (by omega)]
          · rw [if_neg c2, if_neg (by omega)]
    rw [hE N]
    by_cases c : 0 ≤ v / M ∧ v / M < (N : Int)
    · rw [if_pos c, hb a, hb b, h.2]
    · rw [if_neg c]
      symm
      rw [List.filter_eq_nil_iff]
      intro x _
      rw [hsplit x]
      have := hd x
      simp only [Bool.and_eq_true, beq_iff_eq, not_and]
      intro q; omega

/-! ### Keys and digits of 64-bit numbers -/
/-- x >> bit of a uint64. -/
def ky (bit : Nat) (x : Int) : Int := x / 2 ^ (min bit 64)
/-- Digit of eleven bits from bit B on. -/
def dg (B : Nat) (x : Int) : Int := x / 2 ^ B % 2048
/-- The first j digits from bit on. -/
def kj (bit j : Nat) (x : Int) : Int := x / 2 ^ bit % 2 ^ (11 * j)
theorem pow_pos2 (n : Nat) : (0 : Int) < 2 ^ n := Int.pow_pos (by omega)
theorem kj_succ (bit j : Nat) (x : Int) : kj bit (j + 1) x = dg (bit + 11 * j) x * 2 ^ (11 * j) + kj bit j x := by
  unfold kj dg
  have e1 : (2 : Int) ^ (11 * (j + 1)) = 2 ^ (11 * j) * 2048 := by rw [show 11 * (j + 1) = 11 * j + 11 from by omega, Int.pow_add]; rfl
  have e2 : (2 : Int) ^ (bit + 11 * j) = 2 ^ bit * 2 ^ (11 * j) := Int.pow_add _ _ _
  rw [e1, e2, ← Int.ediv_ediv_of_nonneg (Int.le_of_lt (pow_pos2 bit))]
  generalize x / 2 ^ bit = y
  have hp := pow_pos2 (11 * j)
  generalize (2 : Int) ^ (11 * j) = m at *
  have a1 := Int.mul_ediv_add_emod y m
  have a2 := Int.mul_ediv_add_emod (y / m) 2048
  have a3 := Int.mul_ediv_add_emod y (m * 2048)
  have a4 : y / (m * 2048) = y / m / 2048 := (Int.ediv_ediv_of_nonneg (Int.le_of_lt hp)).symm
  rw [a4] at a3
  have e5 : m * 2048 * (y / m / 2048) = m * (2048 * (y / m / 2048)) := Int.mul_assoc _ _ _
  rw [e5] at a3
  have e6 : 2048 * (y / m / 2048) = y / m - y / m % 2048 := by omega
  rw [e6, Int.mul_sub] at a3
  rw [Int.mul_comm (y / m % 2048) m]
  omega
theorem kj_zero (bit : Nat) (x : Int) : kj bit 0 x = 0 := by unfold kj; simp
theorem kj_bd (bit j : Nat) (x : Int) : 0 ≤ kj bit j x ∧ kj bit j x < 2 ^ (11 * j) :=
  ⟨Int.emod_nonneg _ (by have := pow_pos2 (11 * j); omega), Int.emod_lt_of_pos _ (pow_pos2 _)⟩
theorem dg_bd (B : Nat) (x : Int) : 0 ≤ dg B x ∧ dg B x < ((2048 : Nat) : Int) := by unfold dg; omega
/-- All 64 bits are dealt. -/
theorem kj_end {bit j : Nat} (h : 64 ≤ bit + 11 * j) {x : Int} (h0 : 0 ≤ x) (h1 : x < 18446744073709551616) : kj bit j x = ky bit x := by
  have e64 : (2 : Int) ^ 64 = 18446744073709551616 := by decide
  unfold kj ky
  by_cases c : bit ≤ 64
  · rw [Nat.min_eq_left c]
    refine Int.emod_eq_of_lt (Int.ediv_nonneg h0 (Int.le_of_lt (pow_pos2 bit))) ?_
    refine Int.ediv_lt_of_lt_mul (pow_pos2 bit) ?_
    rw [← Int.pow_add]
    obtain ⟨r, hr⟩ : ∃ r, 11 * j + bit = 64 + r := ⟨11 * j + bit - 64, by omega⟩
    rw [hr, Int.pow_add, e64]
    have := pow_pos2 r
    have : (1 : Int) ≤ 2 ^ r := by omega
    have : 18446744073709551616 * 1 ≤ 18446744073709551616 * (2 : Int) ^ r := Int.mul_le_mul_of_nonneg_left this (by omega)
    omega
  · rw [Nat.min_eq_right (by omega), e64]
    have z1 : x / 2 ^ bit = 0 := by
      refine Int.ediv_eq_zero_of_lt h0 ?_
      obtain ⟨r, hr⟩ : ∃ r, bit = 64 + r := ⟨bit - 64, by omega⟩
      rw [hr, Int.pow_add, e64]
      have := pow_pos2 r
      have : (1 : Int) ≤ 2 ^ r := by omega
      have : 18446744073709551616 * 1 ≤ 18446744073709551616 * (2 : Int) ^ r := Int.mul_le_mul_of_nonneg_left this (by omega)
      omega
    rw [z1, Int.zero_emod]
    omega
theorem SS_refl_const {K : Int → Int} {l : List Int} (h : ∀ x, K x = 0) : SS K l l := by
  refine ⟨?_, fun _ => rfl⟩
  induction l with
  | nil => exact List.Pairwise.nil
  | cons x l ih => exact List.pairwise_cons.2 ⟨fun y _ => by rw [h, h]; omega, ih⟩
/-- One pass. -/
theorem SS_pass {bit j : Nat} {a b : List Int} (h : SS (kj bit j) a b) : SS (kj bit (j + 1)) (bks (dg (bit + 11 * j)) a 2048) b :=
  SS_bks (pow_pos2 (11 * j)) (kj_succ bit j) (kj_bd bit j) (dg_bd _) h
end Go.Proofs.Qxb6604140a.Srt
