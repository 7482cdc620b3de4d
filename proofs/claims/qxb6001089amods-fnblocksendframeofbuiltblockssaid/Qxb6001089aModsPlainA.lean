/-
  PLAIN LAWS ON THE ARITHMETIC CODER. No Go in sight.
-/
namespace Go.Proofs.Qxb6001089aMods.PA

/-- low and high behind k shifts -/
def sL (L k : Nat) : Nat := L * 256 ^ k % 4294967296
def sH (H k : Nat) : Nat := (H * 256 ^ k + (256 ^ k - 1)) % 4294967296
/-- the byte that shift j hands out -/
def eb (H j : Nat) : Nat := H / 256 ^ (3 - j) % 256
/-- the first k bytes are one -/
def Top (L H k : Nat) : Prop := L / 256 ^ (4 - k) = H / 256 ^ (4 - k)
/-- the number that the first k bytes make -/
def vv (H k : Nat) : Nat := H / 256 ^ (4 - k)

theorem five {P : Nat → Prop} (h0 : P 0) (h1 : P 1) (h2 : P 2) (h3 : P 3) (h4 : P 4) (k : Nat) (hk : k ≤ 4) : P k := by
  match k, hk with
  | 0, _ => exact h0
  | 1, _ => exact h1
  | 2, _ => exact h2
  | 3, _ => exact h3
  | 4, _ => exact h4
theorem four {P : Nat → Prop} (h0 : P 0) (h1 : P 1) (h2 : P 2) (h3 : P 3) (k : Nat) (hk : k < 4) : P k := by
  match k, hk with
  | 0, _ => exact h0
  | 1, _ => exact h1
  | 2, _ => exact h2
  | 3, _ => exact h3

theorem sL_zero (L : Nat) (h : L < 4294967296) : sL L 0 = L := by simp [sL]; omega
theorem sH_zero (H : Nat) (h : H < 4294967296) : sH H 0 = H := by simp [sH]; omega
theorem sL_lt (L k : Nat) : sL L k < 4294967296 := Nat.mod_lt _ (by decide)
theorem sH_lt (H k : Nat) : sH H k < 4294967296 := Nat.mod_lt _ (by decide)
theorem eb_lt (H j : Nat) : eb H j < 256 := Nat.mod_lt _ (by decide)
theorem top_zero (L H : Nat) (h : L < 4294967296) (h' : H < 4294967296) : Top L H 0 := by
  unfold Top
  rw [Nat.div_eq_of_lt (by simpa using h), Nat.div_eq_of_lt (by simpa using h')]
theorem top_next (L H k : Nat) (hL : L < 4294967296) (hH : H < 4294967296) (hk : k ≤ 4) (ht : Top L H k) (h : sL L k / 16777216 = sH H k / 16777216) : k < 4 ∧ Top L H (k + 1) := by
  unfold Top sL sH at *
  revert ht h
  refine five (P := fun k => L / 256 ^ (4 - k) = H / 256 ^ (4 - k) → L * 256 ^ k % 4294967296 / 16777216 = (H * 256 ^ k + (256 ^ k - 1)) % 4294967296 / 16777216 → k < 4 ∧ L / 256 ^ (4 - (k + 1)) = H / 256 ^ (4 - (k + 1))) ?_ ?_ ?_ ?_ ?_ k hk <;> simp <;> omega
theorem byte_is (H k : Nat) (hH : H < 4294967296) (hk : k < 4) : sH H k / 16777216 = eb H k := by
  unfold sH eb
  refine four (P := fun k => (H * 256 ^ k + (256 ^ k - 1)) % 4294967296 / 16777216 = H / 256 ^ (3 - k) % 256) ?_ ?_ ?_ ?_ k hk <;> simp <;> omega
theorem sL_next (L k : Nat) (hk : k < 4) : sL L k * 256 % 4294967296 = sL L (k + 1) := by
  unfold sL
  refine four (P := fun k => L * 256 ^ k % 4294967296 * 256 % 4294967296 = L * 256 ^ (k + 1) % 4294967296) ?_ ?_ ?_ ?_ k hk <;> simp <;> omega
theorem sH_next (H k : Nat) (hk : k < 4) : sH H k * 256 % 4294967296 + 255 = sH H (k + 1) := by
  unfold sH
  refine four (P := fun k => (H * 256 ^ k + (256 ^ k - 1)) % 4294967296 * 256 % 4294967296 + 255 = (H * 256 ^ (k + 1) + (256 ^ (k + 1) - 1)) % 4294967296) ?_ ?_ ?_ ?_ k hk <;> simp <;> omega
theorem vv_zero (H : Nat) (h : H < 4294967296) : vv H 0 = 0 := Nat.div_eq_of_lt (by simpa using h)
theorem vv_next (H j : Nat) (hj : j < 4) : vv H j * 256 + eb H j = vv H (j + 1) := by
  unfold vv eb
  refine four (P := fun j => H / 256 ^ (4 - j) * 256 + H / 256 ^ (3 - j) % 256 = H / 256 ^ (4 - (j + 1))) ?_ ?_ ?_ ?_ j hj <;> simp <;> omega
theorem vv_lt (H k : Nat) (h : H < 4294967296) : vv H k < 4294967296 := Nat.lt_of_le_of_lt (Nat.div_le_self _ _) h
theorem lo_is (L H k : Nat) (hk : k ≤ 4) (ht : Top L H k) : (vv H k * 4294967296 + sL L k) * 256 ^ (4 - k) = L * 4294967296 := by
  unfold Top vv sL at *
  revert ht
  refine five (P := fun k => L / 256 ^ (4 - k) = H / 256 ^ (4 - k) → (H / 256 ^ (4 - k) * 4294967296 + L * 256 ^ k % 4294967296) * 256 ^ (4 - k) = L * 4294967296) ?_ ?_ ?_ ?_ ?_ k hk <;> simp <;> omega
theorem hi_is (H k : Nat) (hH : H < 4294967296) (hk : k ≤ 4) : (vv H k * 4294967296 + sH H k) * 256 ^ (4 - k) + (256 ^ (4 - k) - 1) = H * 4294967296 + 4294967295 := by
  unfold vv sH
  refine five (P := fun k => (H / 256 ^ (4 - k) * 4294967296 + (H * 256 ^ k + (256 ^ k - 1)) % 4294967296) * 256 ^ (4 - k) + (256 ^ (4 - k) - 1) = H * 4294967296 + 4294967295) ?_ ?_ ?_ ?_ ?_ k hk
  · show (H / 4294967296 * 4294967296 + (H * 1 + 0) % 4294967296) * 4294967296 + 4294967295 = _
    omega
  · show (H / 16777216 * 4294967296 + (H * 256 + 255) % 4294967296) * 16777216 + 16777215 = _
    omega
  · show (H / 65536 * 4294967296 + (H * 65536 + 65535) % 4294967296) * 65536 + 65535 = _
    omega
  · show (H / 256 * 4294967296 + (H * 16777216 + 16777215) % 4294967296) * 256 + 255 = _
    omega
  · show (H / 1 * 4294967296 + (H * 4294967296 + 4294967295) % 4294967296) * 1 + 0 = _
    omega
theorem s_le (L H k : Nat) (hle : L ≤ H) (hk : k ≤ 4) (ht : Top L H k) : sL L k ≤ sH H k := by
  unfold Top sL sH at *
  revert ht
  refine five (P := fun k => L / 256 ^ (4 - k) = H / 256 ^ (4 - k) → L * 256 ^ k % 4294967296 ≤ (H * 256 ^ k + (256 ^ k - 1)) % 4294967296) ?_ ?_ ?_ ?_ ?_ k hk <;> simp <;> omega

/-! ### the test on the top bytes -/
def td (a b : Nat) : Nat := (a ^^^ b) &&& 4278190080
theorem and_top (x : Nat) (hx : x < 4294967296) : (x &&& 4278190080 = 0) ↔ x / 16777216 = 0 := by
  have e : (4278190080 : Nat) = (2 ^ 8 - 1) <<< 24 := by decide
  constructor
  · intro h
    have hz : x >>> 24 = 0 := by
      apply Nat.eq_of_testBit_eq
      intro i
      rw [Nat.zero_testBit, Nat.testBit_shiftRight]
      by_cases hi : i < 8
      · have hb : (x &&& 4278190080).testBit (24 + i) = false := by rw [h, Nat.zero_testBit]
        rw [Nat.testBit_and, e, Nat.testBit_shiftLeft, Nat.testBit_two_pow_sub_one, Nat.add_sub_cancel_left, decide_eq_true hi, decide_eq_true (by omega), Bool.and_self, Bool.and_true] at hb
        exact hb
      · exact Nat.testBit_lt_two_pow (Nat.lt_of_lt_of_le hx (by rw [show (4294967296 : Nat) = 2 ^ 32 from by decide]; exact Nat.pow_le_pow_right (by decide) (by omega)))
    rw [Nat.shiftRight_eq_div_pow] at hz
    simpa using hz
  · intro h
    have hlt : x < 2 ^ 24 := by omega
    apply Nat.eq_of_testBit_eq
    intro i
    rw [Nat.zero_testBit, Nat.testBit_and, e, Nat.testBit_shiftLeft]
    by_cases hi : 24 ≤ i
    · rw [Nat.testBit_lt_two_pow (Nat.lt_of_lt_of_le hlt (Nat.pow_le_pow_right (by decide) hi))]; rfl
    · simp [hi]
theorem xor_lt (a b : Nat) (ha : a < 4294967296) (hb : b < 4294967296) : a ^^^ b < 4294967296 := Nat.xor_lt_two_pow (n := 32) ha hb
theorem td_zero (a b : Nat) (ha : a < 4294967296) (hb : b < 4294967296) : td a b = 0 ↔ a / 16777216 = b / 16777216 := by
  unfold td
  rw [and_top _ (xor_lt a b ha hb)]
  have e : (a ^^^ b) / 16777216 = (a / 16777216) ^^^ (b / 16777216) := by
    have := Nat.shiftRight_xor_distrib (a := a) (b := b) (i := 24)
    simpa [Nat.shiftRight_eq_div_pow] using this
  rw [e]
  constructor
  · intro h
    have h2 : (a / 16777216 ^^^ b / 16777216) ^^^ b / 16777216 = b / 16777216 := by rw [h, Nat.zero_xor]
    rwa [Nat.xor_assoc, Nat.xor_self, Nat.xor_zero] at h2
  · intro h; rw [h, Nat.xor_self]

/-! ### the split -/
def qq (L H p : Nat) : Nat := (H - L) * p / 4096
theorem qq_lt (L H p : Nat) (h : L < H) (hp : p ≤ 4095) : qq L H p < H - L := by
  unfold qq
  rw [Nat.div_lt_iff_lt_mul (by decide)]
  calc (H - L) * p ≤ (H - L) * 4095 := Nat.mul_le_mul_left _ hp
    _ < (H - L) * 4096 := by omega
theorem prod_le (L H p : Nat) (hH : H < 4294967296) (hp : p ≤ 4095) : (H - L) * p ≤ 17587891077120 := by
  calc (H - L) * p ≤ 4294967296 * 4095 := Nat.mul_le_mul (by omega) hp
    _ ≤ 17587891077120 := by decide
end Go.Proofs.Qxb6001089aMods.PA
