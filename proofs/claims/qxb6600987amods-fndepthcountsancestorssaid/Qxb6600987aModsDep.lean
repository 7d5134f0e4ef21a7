namespace Go.Proofs.Qxb6600987aMods.Dp
/-- how many live processes the walk up from x meets, at most f -/
def dep (lk : Int → Option Int) : Nat → Int → Nat
  | 0, _ => 0
  | f + 1, x => match lk x with
    | none => 0
    | some y => dep lk f y + 1
def ch (lk : Int → Option Int) : Nat → Int → Int
  | 0, x => x
  | k + 1, x => ch lk k ((lk x).getD 0)
theorem ch_succ (lk : Int → Option Int) (k : Nat) : ∀ x, ch lk (k + 1) x = (lk (ch lk k x)).getD 0 := by
  induction k with
  | zero => intro x; rfl
  | succ k ih => intro x; exact ih ((lk x).getD 0)
theorem ch_add (lk : Int → Option Int) (a : Nat) : ∀ b x, ch lk (a + b) x = ch lk b (ch lk a x) := by
  induction a with
  | zero => intro b x; simp [ch]
  | succ a ih => intro b x; rw [show a + 1 + b = (a + b) + 1 by omega]; exact ih b _
theorem dep_none (lk : Int → Option Int) (f : Nat) (x : Int) (h : lk x = none) : dep lk f x = 0 := by
  cases f with
  | zero => rfl
  | succ f => simp [dep, h]
theorem dep_some (lk : Int → Option Int) (f : Nat) (x y : Int) (h : lk x = some y) : dep lk (f + 1) x = dep lk f y + 1 := by
  simp [dep, h]
theorem dep_le (lk : Int → Option Int) (f : Nat) : ∀ x, dep lk f x ≤ f := by
  induction f with
  | zero => intro x; exact Nat.le_refl _
  | succ f ih =>
    intro x
    cases h : lk x with
    | none => rw [dep_none _ _ _ h]; omega
    | some y => rw [dep_some _ _ _ _ h]; have := ih y; omega
theorem dep_min (lk : Int → Option Int) (f : Nat) : ∀ x, dep lk f x = min (dep lk (f + 1) x) f := by
  induction f with
  | zero => intro x; simp [dep]
  | succ f ih =>
    intro x
    cases h : lk x with
    | none => rw [dep_none _ _ _ h, dep_none _ _ _ h]; omega
    | some y => rw [dep_some _ _ _ _ h, dep_some _ _ _ _ h]; have := ih y; omega
theorem dep_out (lk : Int → Option Int) (k : Nat) : ∀ N x, (∀ j, j < k → (lk (ch lk j x)).isSome = true) → lk (ch lk k x) = none → k ≤ N → dep lk N x = k := by
  induction k with
  | zero => intro N x _ h _; exact dep_none _ _ _ h
  | succ k ih =>
    intro N x hs hn hN
    obtain ⟨N, rfl⟩ : ∃ M, N = M + 1 := ⟨N - 1, by omega⟩
    have h0 := hs 0 (by omega)
    obtain ⟨y, hy⟩ := Option.isSome_iff_exists.1 h0
    have hy' : lk x = some y := hy
    rw [dep_some _ _ _ _ hy']
    have e : ∀ j, ch lk (j + 1) x = ch lk j y := fun j => by simp [ch, hy']
    rw [ih N y (fun j hj => by rw [← e]; exact hs (j + 1) (by omega)) (by rw [← e]; exact hn) (by omega)]
theorem dep_inf (lk : Int → Option Int) (N : Nat) : ∀ x, (∀ j, (lk (ch lk j x)).isSome = true) → dep lk N x = N := by
  induction N with
  | zero => intro x _; rfl
  | succ N ih =>
    intro x hs
    obtain ⟨y, hy⟩ := Option.isSome_iff_exists.1 (hs 0)
    have hy' : lk x = some y := hy
    have e : ∀ j, ch lk (j + 1) x = ch lk j y := fun j => by simp [ch, hy']
    rw [dep_some _ _ _ _ hy', ih y (fun j => by rw [← e]; exact hs (j + 1))]
theorem loops (lk : Int → Option Int) (x : Int) (j k : Nat) (hjk : j < k) (he : ch lk j x = ch lk k x) (hs : ∀ i, i < k → (lk (ch lk i x)).isSome = true) : ∀ i, (lk (ch lk i x)).isSome = true := by
  intro i
  induction i using Nat.strongRecOn with
  | ind i ih =>
    by_cases h : i < k
    · exact hs i h
    · have e : ch lk i x = ch lk (j + (i - k)) x := by
        rw [ch_add, he, ← ch_add, show k + (i - k) = i by omega]
      rw [e]
      exact ih _ (by omega)
theorem dep_loop (lk : Int → Option Int) (N : Nat) (x : Int) (j k : Nat) (hjk : j < k) (he : ch lk j x = ch lk k x) (hs : ∀ i, i < k → (lk (ch lk i x)).isSome = true) : dep lk N x = N :=
  dep_inf lk N x (loops lk x j k hjk he hs)

/-! the place of a number in a list -/
def idx (l : List Int) (x : Int) : Option Nat := l.findIdx? (· == x)
def lk (l m : List Int) (x : Int) : Option Int := (idx l x).map fun i => m.getD i 0
theorem idx_none (l : List Int) (x : Int) : idx l x = none ↔ ∀ i, i < l.length → l.getD i 0 ≠ x := by
  unfold idx
  rw [List.findIdx?_eq_none_iff]
  constructor
  · intro h i hi
    have := h (l.getD i 0) (by simp [List.getD, hi])
    simpa using this
  · intro h y hy
    obtain ⟨i, hi, rfl⟩ := List.mem_iff_getElem.1 hy
    have := h i hi
    simpa [List.getD, hi] using this
theorem idx_some (l : List Int) (x : Int) (i : Nat) (h : idx l x = some i) : i < l.length ∧ l.getD i 0 = x := by
  unfold idx at h
  rw [List.findIdx?_eq_some_iff_getElem] at h
  obtain ⟨hi, hx, _⟩ := h
  exact ⟨hi, by simpa [List.getD, hi] using hx⟩
theorem idx_first (l : List Int) (x : Int) (i : Nat) (hi : i < l.length) (hx : l.getD i 0 = x) (hf : ∀ j, j < i → l.getD j 0 ≠ x) : idx l x = some i := by
  unfold idx
  rw [List.findIdx?_eq_some_iff_getElem]
  refine ⟨hi, by simpa [List.getD, hi] using hx, fun j hj => ?_⟩
  have := hf j hj
  simpa [List.getD, show j < l.length by omega] using this
def Apart (l : List Int) : Prop := ∀ i j, i < j → j < l.length → l.getD i 0 ≠ l.getD j 0
theorem idx_apart (l : List Int) (ha : Apart l) (i : Nat) (hi : i < l.length) : idx l (l.getD i 0) = some i :=
  idx_first l _ i hi rfl fun j hj => ha j i hj hi

/-! how many places are marked -/
theorem count_le (l : List Bool) : l.count true ≤ l.length := List.count_le_length
theorem count_set (l : List Bool) : ∀ i, i < l.length → l.getD i true = false → (l.set i true).count true = l.count true + 1 := by
  induction l with
  | nil => intro i hi; simp at hi
  | cons b l ih =>
    intro i hi h
    cases i with
    | zero => simp at h; subst h; simp
    | succ i => simp at hi h; have := ih i (by omega) (by simpa [List.getD] using h); simp [List.count_cons, this]; omega
end Go.Proofs.Qxb6600987aMods.Dp
