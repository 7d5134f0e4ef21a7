namespace Go.Proofs.Qxb6606068aMods.Crcp
def st (x : Nat) : Nat := if x % 2 = 1 then (x / 2) ^^^ 33800 else x / 2
def stn : Nat → Nat → Nat
  | 0, x => x
  | n + 1, x => st (stn n x)
def upd (c b : Nat) : Nat := stn 8 (c ^^^ b)
def crc (l : List Nat) : Nat := l.foldl upd 65535

theorem st_lt (x : Nat) (h : x < 65536) : st x < 65536 := by
  unfold st
  split
  · exact Nat.xor_lt_two_pow (n := 16) (by omega) (by decide)
  · omega
theorem stn_lt (n x : Nat) (h : x < 65536) : stn n x < 65536 := by
  induction n with
  | zero => exact h
  | succ n ih => exact st_lt _ ih
theorem upd_lt (c b : Nat) (h : c < 65536) (hb : b < 256) : upd c b < 65536 :=
  stn_lt _ _ (Nat.xor_lt_two_pow (n := 16) h (by omega))
theorem xor_mod2 (x y : Nat) : (x ^^^ y) % 2 = (x % 2 + y % 2) % 2 := by
  have h : (x ^^^ y) % 2 = x % 2 ^^^ y % 2 := Nat.xor_mod_two_pow (n := 1)
  rw [h]
  rcases Nat.mod_two_eq_zero_or_one x with hx | hx <;> rcases Nat.mod_two_eq_zero_or_one y with hy | hy <;> rw [hx, hy] <;> rfl
theorem st_xor (x y : Nat) : st (x ^^^ y) = st x ^^^ st y := by
  have h2 := xor_mod2 x y
  have hd : (x ^^^ y) / 2 = x / 2 ^^^ y / 2 := Nat.xor_div_two_pow (n := 1)
  unfold st
  rw [hd]
  rcases Nat.mod_two_eq_zero_or_one x with hx | hx <;> rcases Nat.mod_two_eq_zero_or_one y with hy | hy <;> simp only [hx, hy] at h2 <;> simp [h2, hx, hy]
  · rw [Nat.xor_assoc]
  · rw [Nat.xor_assoc, Nat.xor_assoc, Nat.xor_comm 33800]
  · rw [Nat.xor_assoc, ← Nat.xor_assoc 33800, Nat.xor_comm 33800, Nat.xor_assoc, Nat.xor_self, Nat.xor_zero]
theorem stn_xor (n x y : Nat) : stn n (x ^^^ y) = stn n x ^^^ stn n y := by
  induction n with
  | zero => rfl
  | succ n ih => simp only [stn, ih, st_xor]

theorem split256 (x : Nat) : x = 256 * (x / 256) ^^^ x % 256 := by
  apply Nat.eq_of_testBit_eq
  intro i
  rw [Nat.testBit_xor, show 256 * (x / 256) = 2 ^ 8 * (x / 2 ^ 8) from rfl, show x % 256 = x % 2 ^ 8 from rfl, Nat.testBit_two_pow_mul, Nat.testBit_div_two_pow, Nat.testBit_mod_two_pow]
  by_cases h : i < 8
  · simp [h, show ¬ 8 ≤ i by omega]
  · simp [h, show 8 ≤ i by omega, show i - 8 + 8 = i by omega]
theorem stn8_hi : ∀ h, h < 256 → stn 8 (256 * h) = h := by decide +kernel
theorem comp8 : ∀ h, h < 256 → h ^^^ (255 - h) = 255 := by decide +kernel
theorem stn8 (x : Nat) (h : x < 65536) : stn 8 x = (x / 256) ^^^ stn 8 (x % 256) := by
  rw [show stn 8 x = stn 8 (256 * (x / 256) ^^^ x % 256) from by rw [← split256], stn_xor, stn8_hi _ (by omega)]
theorem residue (c : Nat) (h : c < 65536) : upd (upd c ((65535 - c) % 256)) ((65535 - c) / 256) = 61624 := by
  have e1 : (65535 - c) % 256 = 255 - c % 256 := by omega
  have e2 : (65535 - c) / 256 = 255 - c / 256 := by omega
  have a1 : c ^^^ (255 - c % 256) = 256 * (c / 256) ^^^ 255 := by
    have hc := comp8 (c % 256) (by omega)
    calc c ^^^ (255 - c % 256) = (256 * (c / 256) ^^^ c % 256) ^^^ (255 - c % 256) := by rw [← split256]
      _ = _ := by rw [Nat.xor_assoc, hc]
  have a2 : upd c (255 - c % 256) = c / 256 ^^^ stn 8 255 := by
    unfold upd; rw [a1, stn_xor, stn8_hi _ (by omega)]
  rw [e1, e2, a2]
  unfold upd
  rw [Nat.xor_comm (c / 256), Nat.xor_assoc, comp8 _ (by omega)]
  decide +kernel

/-! the mirror -/
def rv (n : Nat) : Nat → Nat → Nat
  | 0, _ => 0
  | i + 1, v => if v / 2 ^ i % 2 = 1 then rv n i v ||| 2 ^ (n - 1 - i) else rv n i v
def mst (m : Nat) : Nat := if m / 32768 % 2 = 1 then (m * 2 % 65536) ^^^ 4129 else m * 2 % 65536
def mstn : Nat → Nat → Nat
  | 0, x => x
  | n + 1, x => mst (mstn n x)
def mupd (m b : Nat) : Nat := mstn 8 (m ^^^ (rv 8 8 b * 256))
def mcrc (l : List Nat) : Nat := l.foldl mupd 65535
theorem rv_lt (n i v : Nat) (hi : i ≤ n) : rv n i v < 2 ^ n := by
  induction i with
  | zero => exact Nat.two_pow_pos n
  | succ i ih =>
    unfold rv
    split
    · exact Nat.or_lt_two_pow (ih (by omega)) (Nat.pow_lt_pow_right (by decide) (by omega))
    · exact ih (by omega)
theorem rv_bit (n i v j : Nat) (hi : i ≤ n) : (rv n i v).testBit j = (decide (n - i ≤ j ∧ j < n) && v.testBit (n - 1 - j)) := by
  induction i with
  | zero => simp [rv]; intro h; omega
  | succ i ih =>
    have hb : v.testBit i = decide (v / 2 ^ i % 2 = 1) := by rw [Nat.testBit_eq_decide_div_mod_eq]
    unfold rv
    split
    · rename_i h
      rw [Nat.testBit_or, ih (by omega), Nat.testBit_two_pow]
      by_cases e : n - 1 - i = j
      · subst e
        simp [show n - 1 - (n - 1 - i) = i by omega, hb, h]; omega
      · simp only [e, decide_false, Bool.or_false]
        congr 1
        rw [decide_eq_decide]; omega
    · rename_i h
      rw [ih (by omega)]
      by_cases e : n - 1 - i = j
      · subst e
        simp [show n - 1 - (n - 1 - i) = i by omega, hb, h]
      · congr 1
        rw [decide_eq_decide]; omega

theorem lt_bit (x i : Nat) (h : x < 65536) (hi : 16 ≤ i) : x.testBit i = false :=
  Nat.testBit_lt_two_pow (Nat.lt_of_lt_of_le h (Nat.pow_le_pow_right (n := 2) (by decide) hi))
theorem mst_lt (m : Nat) : mst m < 65536 := by
  unfold mst
  split
  · exact Nat.xor_lt_two_pow (n := 16) (by omega) (by decide)
  · omega
theorem eq16 (x y : Nat) (hx : x < 65536) (hy : y < 65536) (h : ∀ i, i < 16 → x.testBit i = y.testBit i) : x = y := by
  apply Nat.eq_of_testBit_eq
  intro i
  by_cases hi : i < 16
  · exact h i hi
  · rw [lt_bit x i hx (by omega), lt_bit y i hy (by omega)]
theorem rv16_lt (v : Nat) : rv 16 16 v < 65536 := rv_lt 16 16 v (Nat.le_refl _)
theorem rv8_lt (v : Nat) : rv 8 8 v < 256 := rv_lt 8 8 v (Nat.le_refl _)
theorem rv16_bit (v j : Nat) (h : j < 16) : (rv 16 16 v).testBit j = v.testBit (15 - j) := by
  rw [rv_bit 16 16 v j (Nat.le_refl _)]; simp [h]
theorem rv8_bit (v j : Nat) : (rv 8 8 v).testBit j = (decide (j < 8) && v.testBit (7 - j)) := by
  rw [rv_bit 8 8 v j (Nat.le_refl _)]; simp
theorem rv16_rv16 (c : Nat) (h : c < 65536) : rv 16 16 (rv 16 16 c) = c := by
  refine eq16 _ _ (rv16_lt _) h fun i hi => ?_
  rw [rv16_bit _ _ hi, rv16_bit _ _ (by omega), show 15 - (15 - i) = i by omega]
theorem rv16_xor (c b : Nat) (hb : b < 256) : rv 16 16 (c ^^^ b) = rv 16 16 c ^^^ (rv 8 8 b * 256) := by
  have h8 := rv8_lt b
  refine eq16 _ _ (rv16_lt _) (Nat.xor_lt_two_pow (n := 16) (rv16_lt _) (by omega)) fun i hi => ?_
  rw [rv16_bit _ _ hi, Nat.testBit_xor, Nat.testBit_xor, rv16_bit _ _ hi, show rv 8 8 b * 256 = rv 8 8 b * 2 ^ 8 from rfl, Nat.testBit_mul_two_pow, rv8_bit]
  congr 1
  by_cases h8 : 8 ≤ i
  · simp [h8, show i - 8 < 8 by omega, show 7 - (i - 8) = 15 - i by omega]
  · simp [h8]
    exact Nat.testBit_lt_two_pow (Nat.lt_of_lt_of_le hb (show 2 ^ 8 ≤ 2 ^ (15 - i) from Nat.pow_le_pow_right (by decide) (by omega)))
theorem c1 : ∀ i, i < 16 → (33800 : Nat).testBit (15 - i) = (4129 : Nat).testBit i := by decide
theorem rv16_st (c : Nat) (h : c < 65536) : rv 16 16 (st c) = mst (rv 16 16 c) := by
  have hm := rv16_lt c
  have ht : rv 16 16 c / 32768 % 2 = c % 2 := by
    have := rv16_bit c 15 (by decide)
    simp [Nat.testBit_eq_decide_div_mod_eq] at this
    rw [show (32768 : Nat) = 2 ^ 15 from rfl]
    omega
  have hd : ∀ i, i < 16 → (c / 2).testBit (15 - i) = (rv 16 16 c * 2 % 65536).testBit i := by
    intro i hi
    rw [show c / 2 = c / 2 ^ 1 from rfl, Nat.testBit_div_two_pow, show rv 16 16 c * 2 % 65536 = rv 16 16 c * 2 ^ 1 % 2 ^ 16 from rfl, Nat.testBit_mod_two_pow, Nat.testBit_mul_two_pow]
    by_cases h0 : i = 0
    · subst h0; simp; exact lt_bit c 16 h (by decide)
    · rw [rv16_bit _ _ (by omega)]
      simp [hi, show 1 ≤ i by omega, show 15 - (i - 1) = 15 - i + 1 by omega]
  refine eq16 _ _ (rv16_lt _) (mst_lt _) fun i hi => ?_
  rw [rv16_bit _ _ hi]
  unfold st mst
  rw [ht]
  split
  · rw [Nat.testBit_xor, Nat.testBit_xor, hd i hi, c1 i hi]
  · exact hd i hi
theorem rv16_stn (n c : Nat) (h : c < 65536) : rv 16 16 (stn n c) = mstn n (rv 16 16 c) := by
  induction n with
  | zero => rfl
  | succ n ih => simp only [stn, mstn]; rw [rv16_st _ (stn_lt _ _ h), ih]
theorem rv16_upd (c b : Nat) (h : c < 65536) (hb : b < 256) : rv 16 16 (upd c b) = mupd (rv 16 16 c) b := by
  unfold upd mupd
  rw [rv16_stn _ _ (Nat.xor_lt_two_pow (n := 16) h (by omega)), rv16_xor _ _ hb]
theorem crc_lt (l : List Nat) : ∀ c, c < 65536 → (∀ b ∈ l, b < 256) → l.foldl upd c < 65536 := by
  induction l with
  | nil => intro c h _; exact h
  | cons b l ih => intro c h hb; exact ih _ (upd_lt _ _ h (hb b (by simp))) (fun x hx => hb x (by simp [hx]))
theorem mirror (l : List Nat) : ∀ c, c < 65536 → (∀ b ∈ l, b < 256) → l.foldl mupd (rv 16 16 c) = rv 16 16 (l.foldl upd c) := by
  induction l with
  | nil => intro c _ _; rfl
  | cons b l ih =>
    intro c h hb
    simp only [List.foldl_cons]
    rw [← rv16_upd c b h (hb b (by simp))]
    exact ih _ (upd_lt _ _ h (hb b (by simp))) (fun x hx => hb x (by simp [hx]))
theorem mcrc_eq (l : List Nat) (hb : ∀ b ∈ l, b < 256) : rv 16 16 (mcrc l) = crc l := by
  have h0 : rv 16 16 65535 = 65535 := by decide +kernel
  unfold mcrc crc
  rw [← h0, mirror l _ (by decide) hb, rv16_rv16 _ (crc_lt l _ (by decide) hb), h0]
theorem check9 : crc [49, 50, 51, 52, 53, 54, 55, 56, 57] = 65535 - 36974 := by decide +kernel
end Go.Proofs.Qxb6606068aMods.Crcp
