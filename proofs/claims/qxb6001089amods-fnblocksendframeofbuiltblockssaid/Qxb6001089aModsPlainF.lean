import Derived.Test.Qxb6001089aModsPlainB
/-
  PLAIN LAWS ON BLOCKS THAT WERE BUILT. No Go in sight.
-/
namespace Go.Proofs.Qxb6001089aMods.PF
open Go.Proofs.Qxb6001089aMods

/-- the kind of block i -/
def kd (K : Nat → Nat) (nk i : Nat) : Nat := if i < nk then K i % 4 else 2
/-- the length of its content -/
def cl (S K : Nat → Nat) (nk i : Nat) : Nat := if kd K nk i = 1 then 1 else S i % 2097152
/-- its header, without and with the last bit -/
def h0 (S K : Nat → Nat) (nk i : Nat) : Nat := S i % 2097152 * 8 + kd K nk i * 2
def hd (S K : Nat → Nat) (nk m i : Nat) : Nat := h0 S K nk i + (if i + 1 = m then 1 else 0)
/-- where block i begins -/
def pos (S K : Nat → Nat) (nk np : Nat) : Nat → Nat
  | 0 => np
  | i + 1 => pos S K nk np i + (3 + cl S K nk i)
theorem pos_zero (S K : Nat → Nat) (nk np : Nat) : pos S K nk np 0 = np := rfl
theorem pos_succ (S K : Nat → Nat) (nk np i : Nat) : pos S K nk np (i + 1) = pos S K nk np i + (3 + cl S K nk i) := rfl
theorem pos_le (S K : Nat → Nat) (nk np i j : Nat) (h : i ≤ j) : pos S K nk np i ≤ pos S K nk np j := by
  induction h with
  | refl => exact Nat.le_refl _
  | step _ ih => rw [pos_succ]; omega
theorem pos_lt (S K : Nat → Nat) (nk np i j : Nat) (h : i < j) : pos S K nk np i + (3 + cl S K nk i) ≤ pos S K nk np j := by
  rw [← pos_succ]; exact pos_le _ _ _ _ _ _ h
theorem kd_lt (K : Nat → Nat) (nk i : Nat) : kd K nk i < 4 := by unfold kd; split <;> omega
theorem hd_lt (S K : Nat → Nat) (nk m i : Nat) : hd S K nk m i < 16777216 := by
  have := kd_lt K nk i
  unfold hd h0; split <;> omega
theorem cl_lt (S K : Nat → Nat) (nk i : Nat) : cl S K nk i < 2097152 := by unfold cl; split <;> omega

def put (F : Nat → Nat) (n x p : Nat) : Nat := if p = n then x else F p
/-- the bytes hold the headers of the first i blocks -/
def Bt (S K : Nat → Nat) (nk m np : Nat) (F : Nat → Nat) (i : Nat) : Prop := (∀ p, F p < 256) ∧ ∀ j, j < i → PB.hdr F (pos S K nk np j) = hd S K nk m j
theorem Bt.start {S K : Nat → Nat} {nk m np : Nat} {F : Nat → Nat} (h : ∀ p, F p < 256) : Bt S K nk m np F 0 := ⟨h, fun j hj => by omega⟩
theorem Bt.put {S K : Nat → Nat} {nk m np : Nat} {F : Nat → Nat} {i : Nat} (h : Bt S K nk m np F i) (n x : Nat) (hn : pos S K nk np i ≤ n) (hx : x < 256) : Bt S K nk m np (put F n x) i := by
  refine ⟨fun p => ?_, fun j hj => ?_⟩
  · unfold PF.put; split
    · exact hx
    · exact h.1 p
  · have := pos_lt S K nk np j i hj
    rw [← h.2 j hj]
    unfold PB.hdr PF.put
    rw [if_neg (by omega), if_neg (by omega), if_neg (by omega)]
theorem Bt.head {S K : Nat → Nat} {nk m np : Nat} {F : Nat → Nat} {i b0 b1 b2 : Nat} (h : Bt S K nk m np F i) (e0 : b0 = hd S K nk m i % 256) (e1 : b1 = hd S K nk m i / 256 % 256) (e2 : b2 = hd S K nk m i / 65536 % 256) :
    Bt S K nk m np (PF.put (PF.put (PF.put F (pos S K nk np i) b0) (pos S K nk np i + 1) b1) (pos S K nk np i + 1 + 1) b2) (i + 1) := by
  have hb := ((h.put (pos S K nk np i) b0 (Nat.le_refl _) (by omega)).put (pos S K nk np i + 1) b1 (by omega) (by omega)).put (pos S K nk np i + 1 + 1) b2 (by omega) (by omega)
  refine ⟨hb.1, fun j hj => ?_⟩
  by_cases hji : j < i
  · exact hb.2 j hji
  · obtain rfl : j = i := by omega
    have hl := hd_lt S K nk m j
    generalize pos S K nk np j = n at *
    generalize hd S K nk m j = H at *
    have p0 : PF.put (PF.put (PF.put F n b0) (n + 1) b1) (n + 1 + 1) b2 n = b0 := by unfold PF.put; rw [if_neg (by omega), if_neg (by omega), if_pos rfl]
    have p1 : PF.put (PF.put (PF.put F n b0) (n + 1) b1) (n + 1 + 1) b2 (n + 1) = b1 := by simp [PF.put]
    have p2 : PF.put (PF.put (PF.put F n b0) (n + 1) b1) (n + 1 + 1) b2 (n + 2) = b2 := by simp [PF.put]
    unfold PB.hdr
    rw [p0, p1, p2]
    omega

theorem Bt.put3 {S K : Nat → Nat} {nk m np : Nat} {F : Nat → Nat} {i : Nat} (h : Bt S K nk m np F (i + 1)) (n x : Nat) (hn : pos S K nk np i + 3 ≤ n) (hx : x < 256) : Bt S K nk m np (PF.put F n x) (i + 1) := by
  refine ⟨fun p => ?_, fun j hj => ?_⟩
  · unfold PF.put; split
    · exact hx
    · exact h.1 p
  · have : pos S K nk np j + 3 ≤ n := by
      by_cases hji : j < i
      · have := pos_lt S K nk np j i hji
        omega
      · obtain rfl : j = i := by omega
        exact hn
    rw [← h.2 j hj]
    unfold PB.hdr PF.put
    rw [if_neg (by omega), if_neg (by omega), if_neg (by omega)]
theorem con_at {S K : Nat → Nat} {nk m np : Nat} {F : Nat → Nat} {i j : Nat} (h : Bt S K nk m np F i) (hj : j < i) : PB.con F (pos S K nk np j) = cl S K nk j ∧ PB.lst F (pos S K nk np j) = decide (j + 1 = m) := by
  unfold PB.con PB.lst cl
  rw [h.2 j hj]
  have hk := kd_lt K nk j
  unfold hd h0
  generalize kd K nk j = k at *
  generalize S j % 2097152 = s at *
  by_cases hm : j + 1 = m
  · simp only [if_pos hm, decide_eq_true hm]
    refine ⟨?_, decide_eq_true (by omega)⟩
    by_cases h1 : k = 1
    · rw [if_pos (by omega), if_pos h1]
    · rw [if_neg (by omega), if_neg h1]; omega
  · simp only [if_neg hm, decide_eq_false hm]
    refine ⟨?_, decide_eq_false (by omega)⟩
    by_cases h1 : k = 1
    · rw [if_pos (by omega), if_pos h1]
    · rw [if_neg (by omega), if_neg h1]; omega

/-- where the walk over built blocks stands -/
theorem comes_built {S K : Nat → Nat} {nk m np : Nat} {F : Nat → Nat} {s : Nat × Bool} (h : Bt S K nk m np F m) (hc : PB.Comes F (pos S K nk np m) np s) :
    ∃ j, j ≤ m ∧ s.1 = pos S K nk np j ∧ s.2 = decide (0 < j ∧ j = m) := by
  obtain ⟨k, rfl⟩ := hc
  induction k with
  | zero => exact ⟨0, Nat.zero_le _, rfl, by simp [PB.itr]⟩
  | succ k ih =>
    have e : PB.itr F (pos S K nk np m) (k + 1) (np, false) = PB.stp F (pos S K nk np m) (PB.itr F (pos S K nk np m) k (np, false)) := rfl
    rw [e]
    generalize PB.itr F (pos S K nk np m) k (np, false) = s at ih ⊢
    unfold PB.stp
    by_cases hs : s.2 = false ∧ s.1 + 3 ≤ pos S K nk np m
    · rw [if_pos hs]
      obtain ⟨j, hj, h1, h2⟩ := ih
      have hjm : j < m := by
        rcases Nat.lt_or_ge j m with h | h
        · exact h
        · exfalso
          obtain rfl : j = m := by omega
          have := hs.2
          omega
      obtain ⟨c1, c2⟩ := con_at h hjm
      refine ⟨j + 1, hjm, ?_, ?_⟩
      · show s.1 + (3 + PB.con F s.1) = _
        rw [h1, c1, pos_succ]
      · show PB.lst F s.1 = _
        rw [h1, c2]
        by_cases hm : j + 1 = m
        · rw [decide_eq_true hm, decide_eq_true (by omega)]
        · rw [decide_eq_false hm, decide_eq_false (by omega)]
    · rw [if_neg hs]; exact ih
/-- and where it ends -/
theorem ends_built {S K : Nat → Nat} {nk m np : Nat} {F : Nat → Nat} {E : Nat} {L : Bool} (h : Bt S K nk m np F m) (hc : PB.Comes F (pos S K nk np m) np (E, L)) (hx : L = true ∨ pos S K nk np m < E + 3) :
    E = pos S K nk np m ∧ L = decide (0 < m) := by
  obtain ⟨j, hj, h1, h2⟩ := comes_built h hc
  simp only at h1 h2
  have hjm : j = m := by
    rcases hx with hx | hx
    · rw [hx] at h2
      exact (of_decide_eq_true h2.symm).2
    · rcases Nat.lt_or_ge j m with hlt | hge
      · have := pos_lt S K nk np j m hlt
        omega
      · omega
  subst hjm
  refine ⟨h1, ?_⟩
  rw [h2]
  by_cases h0 : 0 < j
  · rw [decide_eq_true h0, decide_eq_true ⟨h0, rfl⟩]
  · rw [decide_eq_false h0, decide_eq_false (fun h => h0 h.1)]
end Go.Proofs.Qxb6001089aMods.PF
