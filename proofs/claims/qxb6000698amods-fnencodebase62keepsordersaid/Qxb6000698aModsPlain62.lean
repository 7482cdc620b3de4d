/-
  PLAIN LAWS ON NUMBERS IN BASE 256 AND BASE 62. No Go in sight.
-/
namespace Go.Proofs.Qxb6000698aMods.B62

/-- byte p (0 is the greatest) of the 32 bytes of A -/
def byt (A p : Nat) : Nat := A / 256 ^ (31 - p) % 256
/-- the Base62 character of the digit d -/
def chr (d : Nat) : Nat := if d < 10 then 48 + d else if d < 36 then 55 + d else 61 + d
/-- digit p (0 is the greatest) of the 43 digits of N -/
def dgt (N p : Nat) : Nat := N / 62 ^ (42 - p) % 62

theorem byt_lt (A p : Nat) : byt A p < 256 := Nat.mod_lt _ (by decide)
theorem dgt_lt (N p : Nat) : dgt N p < 62 := Nat.mod_lt _ (by decide)
theorem chr_lt (d : Nat) (h : d < 62) : chr d < 123 := by unfold chr; split <;> (try split) <;> omega
theorem chr_ge (d : Nat) : 48 ≤ chr d := by unfold chr; split <;> (try split) <;> omega

/-! ### one round of the long division by 62 -/
/-- the remainder ahead of byte j -/
def rm (A j : Nat) : Nat := A / 256 ^ (32 - j) % 62
theorem rm_lt (A j : Nat) : rm A j < 62 := Nat.mod_lt _ (by decide)
theorem rm_zero (A : Nat) (h : A < 256 ^ 32) : rm A 0 = 0 := by unfold rm; rw [Nat.sub_zero, Nat.div_eq_of_lt h]
theorem rm_last (A : Nat) : rm A 32 = A % 62 := by simp [rm]

theorem top_split (A j : Nat) (h : j < 32) : A / 256 ^ (31 - j) = A / 256 ^ (32 - j) * 256 + byt A j := by
  have e : 256 ^ (32 - j) = 256 ^ (31 - j) * 256 := by rw [show 32 - j = (31 - j) + 1 from by omega, Nat.pow_succ]
  unfold byt
  rw [e, ← Nat.div_div_eq_div_mul]
  omega

theorem rm_step (A j : Nat) (h : j < 32) : (rm A j * 256 + byt A j) % 62 = rm A (j + 1) := by
  have t := top_split A j h
  unfold rm
  rw [show 32 - (j + 1) = 31 - j from by omega, t]
  omega

theorem quo_step (A j : Nat) (h : j < 32) : (rm A j * 256 + byt A j) / 62 = byt (A / 62) j := by
  have t := top_split A j h
  have b := byt_lt A j
  have e : byt (A / 62) j = A / 256 ^ (31 - j) / 62 % 256 := by
    show A / 62 / 256 ^ (31 - j) % 256 = _
    rw [Nat.div_div_eq_div_mul, Nat.div_div_eq_div_mul, Nat.mul_comm]
  rw [e, t]
  unfold rm
  omega

theorem cur_lt (A j : Nat) : rm A j * 256 + byt A j < 15872 := by
  have := rm_lt A j
  have := byt_lt A j
  omega

/-- the 32 bytes when the first j of them have been divided -/
def dvm (A j : Nat) : List Nat := (List.range 32).map fun p => if p < j then byt (A / 62) p else byt A p
def byts (A : Nat) : List Nat := (List.range 32).map (byt A)
theorem dvm_zero (A : Nat) : dvm A 0 = byts A := by simp [dvm, byts]
theorem map_range_congr {α : Type} (n : Nat) (f g : Nat → α) (h : ∀ p, p < n → f p = g p) : (List.range n).map f = (List.range n).map g :=
  List.map_congr_left fun p hp => h p (by simpa using hp)
theorem dvm_last (A : Nat) : dvm A 32 = byts (A / 62) := map_range_congr _ _ _ fun p hp => by rw [if_pos hp]
theorem set_range {α : Type} (n j : Nat) (f g : Nat → α) (x : α) (h : ∀ p, p < n → p ≠ j → f p = g p) (hx : x = g j) : ((List.range n).map f).set j x = (List.range n).map g := by
  apply List.ext_getElem
  · simp
  · intro p h1 h2
    simp only [List.length_set, List.length_map, List.length_range] at h1
    rw [List.getElem_set]
    by_cases hp : j = p
    · subst hp; simp [hx]
    · rw [if_neg hp]; simp [h p h1 (by omega)]
theorem dvm_set (A j : Nat) : (dvm A j).set j (byt (A / 62) j) = dvm A (j + 1) := by
  refine set_range 32 j _ _ _ (fun p _ hp => ?_) (by simp)
  by_cases h : p < j
  · simp [h, show p < j + 1 from by omega]
  · simp [h, show ¬ p < j + 1 from by omega]
theorem dvm_get (A j : Nat) (h : j < 32) : (dvm A j).getD j 0 = byt A j := by simp [dvm, List.getD, h]
theorem dvm_length (A j : Nat) : (dvm A j).length = 32 := by simp [dvm]
theorem byts_length (A : Nat) : (byts A).length = 32 := by simp [byts]

/-! ### the digits -/
/-- the 43 characters when the last k have been written -/
def dgs (N k : Nat) : List Nat := (List.range 43).map fun p => if 43 ≤ p + k then chr (dgt N p) else 0
def enc (N : Nat) : List Nat := (List.range 43).map fun p => chr (dgt N p)
theorem dgs_length (N k : Nat) : (dgs N k).length = 43 := by simp [dgs]
theorem enc_length (N : Nat) : (enc N).length = 43 := by simp [enc]
theorem dgs_zero (N : Nat) : dgs N 0 = List.replicate 43 0 := by
  refine (map_range_congr 43 _ (fun _ => 0) fun p hp => by rw [if_neg (by omega)]).trans ?_
  simp [List.map_const']
theorem dgs_last (N : Nat) : dgs N 43 = enc N := map_range_congr _ _ _ fun p _ => by rw [if_pos (by omega)]
theorem dgs_set (N k : Nat) (h : k < 43) : (dgs N k).set (42 - k) (chr (N / 62 ^ k % 62)) = dgs N (k + 1) := by
  refine set_range 43 (42 - k) _ _ _ (fun p _ hp => ?_) ?_
  · by_cases h1 : 43 ≤ p + k
    · simp [h1, show 43 ≤ p + (k + 1) from by omega]
    · simp [h1, show ¬ 43 ≤ p + (k + 1) from by omega]
  · rw [if_pos (by omega)]
    unfold dgt
    rw [show 42 - (42 - k) = k from by omega]
theorem div_next (N k : Nat) : N / 62 ^ k / 62 = N / 62 ^ (k + 1) := by rw [Nat.div_div_eq_div_mul, Nat.pow_succ]

/-! ### from bytes to the number -/
def val (l : List Nat) : Nat := l.foldl (fun a d => a * 256 + d) 0
theorem val_from (l : List Nat) (a : Nat) : l.foldl (fun a d => a * 256 + d) a = a * 256 ^ l.length + val l := by
  induction l generalizing a with
  | nil => simp [val]
  | cons x l ih =>
    unfold val
    simp only [List.foldl_cons, List.length_cons]
    rw [ih, ih (0 * 256 + x), Nat.pow_succ, Nat.add_mul, Nat.zero_mul, Nat.zero_add, Nat.mul_assoc, Nat.mul_comm 256, Nat.add_assoc]
theorem val_lt (l : List Nat) (h : ∀ x ∈ l, x < 256) : val l < 256 ^ l.length := by
  induction l with
  | nil => simp [val]
  | cons x l ih =>
    have hx := h x (by simp)
    have hl := ih fun y hy => h y (by simp [hy])
    have e : val (x :: l) = x * 256 ^ l.length + val l := by
      show l.foldl _ (0 * 256 + x) = _
      rw [val_from]; simp
    rw [e, List.length_cons, Nat.pow_succ]
    have : x * 256 ^ l.length ≤ 255 * 256 ^ l.length := Nat.mul_le_mul_right _ (by omega)
    omega
theorem val_byt (l : List Nat) (h : ∀ x ∈ l, x < 256) (p : Nat) (hp : p < l.length) : val l / 256 ^ (l.length - 1 - p) % 256 = l[p] := by
  induction l generalizing p with
  | nil => simp at hp
  | cons x l ih =>
    have hx := h x (by simp)
    have hl := val_lt l fun y hy => h y (by simp [hy])
    have e : val (x :: l) = x * 256 ^ l.length + val l := by
      show l.foldl _ (0 * 256 + x) = _
      rw [val_from]; simp
    have pos : 0 < 256 ^ l.length := Nat.pow_pos (by decide)
    cases p with
    | zero =>
      simp only [List.length_cons, Nat.add_sub_cancel, Nat.sub_zero, List.getElem_cons_zero]
      rw [e, Nat.mul_comm, Nat.mul_add_div pos, Nat.div_eq_of_lt hl]
      omega
    | succ p =>
      simp only [List.length_cons] at hp
      have hp' : p < l.length := by omega
      have := ih (fun y hy => h y (by simp [hy])) p hp'
      simp only [List.length_cons, List.getElem_cons_succ]
      rw [← this, e]
      have e2 : l.length = (l.length - 1 - p) + (p + 1) := by omega
      have e3 : l.length + 1 - 1 - (p + 1) = l.length - 1 - p := by omega
      rw [e3]
      have e4 : x * 256 ^ l.length = 256 ^ (l.length - 1 - p) * (256 * (x * 256 ^ p)) := by
        conv => lhs; rw [e2, Nat.pow_add, Nat.pow_succ]
        rw [Nat.mul_left_comm, Nat.mul_comm (256 ^ p) 256, Nat.mul_left_comm x 256]
      rw [e4, Nat.mul_add_div (Nat.pow_pos (by decide))]
      omega
theorem byts_val (l : List Nat) (h : ∀ x ∈ l, x < 256) (hl : l.length = 32) : byts (val l) = l := by
  apply List.ext_getElem
  · simp [byts, hl]
  · intro p h1 h2
    have := val_byt l h p h2
    rw [hl] at this
    simp only [byts, List.getElem_map, List.getElem_range]
    exact this
theorem val_lt32 (l : List Nat) (h : ∀ x ∈ l, x < 256) (hl : l.length = 32) : val l < 256 ^ 32 := by
  have := val_lt l h; rwa [hl] at this

/-! ### multiply and add -/
/-- the carry behind the last k bytes -/
def cy (A v k : Nat) : Nat := (A % 256 ^ k * 62 + v) / 256 ^ k
theorem cy_zero (A v : Nat) : cy A v 0 = v := by simp [cy, Nat.mod_one]
theorem low_split (A k : Nat) (h : k < 32) : A % 256 ^ (k + 1) = byt A (31 - k) * 256 ^ k + A % 256 ^ k := by
  unfold byt
  rw [show 31 - (31 - k) = k from by omega, Nat.pow_succ, Nat.mod_mul]
  rw [Nat.mul_comm (256 ^ k), Nat.add_comm]
theorem cy_cur (A v k : Nat) (h : k < 32) : byt A (31 - k) * 62 + cy A v k = (A % 256 ^ (k + 1) * 62 + v) / 256 ^ k := by
  have pos : 0 < 256 ^ k := Nat.pow_pos (by decide)
  unfold cy
  rw [low_split A k h]
  have e : (byt A (31 - k) * 256 ^ k + A % 256 ^ k) * 62 + v = 256 ^ k * (byt A (31 - k) * 62) + (A % 256 ^ k * 62 + v) := by
    rw [Nat.add_mul, Nat.mul_comm (256 ^ k), Nat.mul_right_comm, Nat.add_assoc]
  rw [e, Nat.mul_add_div pos]
theorem cy_step (A v k : Nat) (h : k < 32) : (byt A (31 - k) * 62 + cy A v k) / 256 = cy A v (k + 1) := by
  rw [cy_cur A v k h]
  unfold cy
  rw [Nat.div_div_eq_div_mul, Nat.pow_succ]
theorem mul_step (A v k : Nat) (h : k < 32) : (byt A (31 - k) * 62 + cy A v k) % 256 = byt (A * 62 + v) (31 - k) := by
  rw [cy_cur A v k h]
  unfold byt
  rw [show 31 - (31 - k) = k from by omega]
  have pos : 0 < 256 ^ k := Nat.pow_pos (by decide)
  have e : A * 62 + v = 256 ^ k * (256 * (A / 256 ^ (k + 1) * 62)) + (A % 256 ^ (k + 1) * 62 + v) := by
    have := Nat.div_add_mod A (256 ^ (k + 1))
    conv => lhs; rw [← this]
    rw [Nat.add_mul, Nat.pow_succ, Nat.add_assoc, Nat.mul_assoc (256 ^ k) 256, Nat.mul_assoc (256 ^ k), Nat.mul_assoc 256]
  conv => rhs; rw [e, Nat.mul_add_div pos]
  omega
theorem cy_lt (A v k : Nat) (hv : v < 62) : cy A v k < 62 := by
  unfold cy
  have pos : 0 < 256 ^ k := Nat.pow_pos (by decide)
  rw [Nat.div_lt_iff_lt_mul pos]
  have := Nat.mod_lt A pos
  omega
theorem cy_last (A v : Nat) (h : A * 62 + v < 256 ^ 32) : cy A v 32 = 0 := by
  unfold cy
  rw [Nat.mod_eq_of_lt (by omega), Nat.div_eq_of_lt h]
/-- the 32 bytes when the last k of them have been multiplied -/
def mlm (A v k : Nat) : List Nat := (List.range 32).map fun p => if 32 ≤ p + k then byt (A * 62 + v) p else byt A p
theorem mlm_length (A v k : Nat) : (mlm A v k).length = 32 := by simp [mlm]
theorem mlm_zero (A v : Nat) : mlm A v 0 = byts A := map_range_congr _ _ _ fun p hp => by rw [if_neg (by omega)]
theorem mlm_last (A v : Nat) : mlm A v 32 = byts (A * 62 + v) := map_range_congr _ _ _ fun p _ => by rw [if_pos (by omega)]
theorem mlm_get (A v k : Nat) (h : k < 32) : (mlm A v k).getD (31 - k) 0 = byt A (31 - k) := by
  have h1 : 31 - k < 32 := by omega
  have h2 : ¬ 32 ≤ 31 - k + k := by omega
  simp [mlm, List.getD, h1, h2]
theorem mlm_set (A v k : Nat) (h : k < 32) : (mlm A v k).set (31 - k) (byt (A * 62 + v) (31 - k)) = mlm A v (k + 1) := by
  refine set_range 32 (31 - k) _ _ _ (fun p _ hp => ?_) ?_
  · by_cases h1 : 32 ≤ p + k
    · simp [h1, show 32 ≤ p + (k + 1) from by omega]
    · simp [h1, show ¬ 32 ≤ p + (k + 1) from by omega]
  · rw [if_pos (by omega)]

/-! ### reading the digits -/
/-- the value of the first i digits of N -/
def hd (N i : Nat) : Nat := N / 62 ^ (43 - i)
theorem big : 256 ^ 32 < 62 ^ 43 := by decide +kernel
theorem hd_zero (N : Nat) (h : N < 256 ^ 32) : hd N 0 = 0 := Nat.div_eq_of_lt (by have := big; show N < 62 ^ 43; omega)
theorem hd_last (N : Nat) : hd N 43 = N := by simp [hd]
theorem hd_le (N i : Nat) : hd N i ≤ N := Nat.div_le_self _ _
theorem hd_step (N i : Nat) (h : i < 43) : hd N i * 62 + dgt N i = hd N (i + 1) := by
  unfold hd dgt
  rw [show 43 - i = (42 - i) + 1 from by omega, show 43 - (i + 1) = 42 - i from by omega, Nat.pow_succ, ← Nat.div_div_eq_div_mul]
  omega

/-! ### order -/
def cmpN (A B : Nat) : Int := if A < B then -1 else if B < A then 1 else 0
theorem byt_order (A B i : Nat) (h : i < 32) (e : A / 256 ^ (32 - i) = B / 256 ^ (32 - i)) (l : byt A i < byt B i) : A < B := by
  have ta := top_split A i h
  have tb := top_split B i h
  have : A / 256 ^ (31 - i) < B / 256 ^ (31 - i) := by omega
  exact Nat.lt_of_not_le fun hle => by have := Nat.div_le_div_right (c := 256 ^ (31 - i)) hle; omega
theorem byt_next (A B i : Nat) (h : i < 32) (e : A / 256 ^ (32 - i) = B / 256 ^ (32 - i)) (l : byt A i = byt B i) : A / 256 ^ (32 - (i + 1)) = B / 256 ^ (32 - (i + 1)) := by
  have ta := top_split A i h
  have tb := top_split B i h
  rw [show 32 - (i + 1) = 31 - i from by omega, ta, tb, e, l]
theorem dgt_order (A B i : Nat) (h : i < 43) (e : hd A i = hd B i) (l : dgt A i < dgt B i) : A < B := by
  have ta := hd_step A i h
  have tb := hd_step B i h
  have : hd A (i + 1) < hd B (i + 1) := by omega
  exact Nat.lt_of_not_le fun hle => by have := Nat.div_le_div_right (c := 62 ^ (43 - (i + 1))) hle; unfold hd at *; omega
theorem dgt_next (A B i : Nat) (h : i < 43) (e : hd A i = hd B i) (l : dgt A i = dgt B i) : hd A (i + 1) = hd B (i + 1) := by
  have ta := hd_step A i h
  have tb := hd_step B i h
  omega
theorem chr_mono (a b : Nat) (ha : a < 62) (hb : b < 62) : chr a < chr b ↔ a < b := by
  unfold chr; repeat' split
  all_goals omega
theorem cmp_lt (A B : Nat) (h : A < B) : cmpN A B = -1 := by simp [cmpN, h]
theorem cmp_gt (A B : Nat) (h : B < A) : cmpN A B = 1 := by simp [cmpN, h]; omega
theorem cmp_eq (A : Nat) : cmpN A A = 0 := by simp [cmpN]
end Go.Proofs.Qxb6000698aMods.B62
