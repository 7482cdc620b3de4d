/-
  PLAIN LAWS ON THE WALK OVER BLOCKS. No Go in sight.
-/
namespace Go.Proofs.Qxb6001089aMods.PB

/-- the header at place e -/
def hdr (bt : Nat → Nat) (e : Nat) : Nat := bt e + bt (e + 1) * 256 + bt (e + 2) * 65536
/-- the length of the content -/
def con (bt : Nat → Nat) (e : Nat) : Nat := if hdr bt e / 2 % 4 = 1 then 1 else hdr bt e / 8
def lst (bt : Nat → Nat) (e : Nat) : Bool := decide (hdr bt e % 2 = 1)
/-- one step of the walk over n bytes -/
def stp (bt : Nat → Nat) (n : Nat) (s : Nat × Bool) : Nat × Bool := if s.2 = false ∧ s.1 + 3 ≤ n then (s.1 + (3 + con bt s.1), lst bt s.1) else s
def itr (bt : Nat → Nat) (n : Nat) : Nat → Nat × Bool → Nat × Bool
  | 0, s => s
  | k + 1, s => stp bt n (itr bt n k s)
/-- the walk from 'at_' on comes to s -/
def Comes (bt : Nat → Nat) (n at_ : Nat) (s : Nat × Bool) : Prop := ∃ k, s = itr bt n k (at_, false)
theorem comes_start (bt : Nat → Nat) (n at_ : Nat) : Comes bt n at_ (at_, false) := ⟨0, rfl⟩
theorem comes_step {bt : Nat → Nat} {n at_ e : Nat} (h : Comes bt n at_ (e, false)) (he : e + 3 ≤ n) : Comes bt n at_ (e + (3 + con bt e), lst bt e) := by
  obtain ⟨k, hk⟩ := h
  refine ⟨k + 1, ?_⟩
  show _ = stp bt n (itr bt n k (at_, false))
  rw [← hk]
  simp [stp, he]
theorem con_le (bt : Nat → Nat) (e : Nat) (h : ∀ i, bt i < 256) : con bt e ≤ 2097151 := by
  unfold con hdr
  have := h e
  have := h (e + 1)
  have := h (e + 2)
  split <;> omega
theorem con_pos_or (bt : Nat → Nat) (e : Nat) : 0 ≤ con bt e := Nat.zero_le _
/-- what holds of every state of the walk -/
theorem comes_bounds {bt : Nat → Nat} {n at_ : Nat} {s : Nat × Bool} (hb : ∀ i, bt i < 256) (h : Comes bt n at_ s) :
    (s.1 = at_ ∧ s.2 = false) ∨ (at_ + 3 ≤ s.1 ∧ at_ + 3 ≤ n ∧ s.1 ≤ n + 2097151) := by
  obtain ⟨k, rfl⟩ := h
  induction k with
  | zero => exact .inl ⟨rfl, rfl⟩
  | succ k ih =>
    show _ ∨ (_ ≤ (stp bt n (itr bt n k (at_, false))).1 ∧ _)
    have e : itr bt n (k + 1) (at_, false) = stp bt n (itr bt n k (at_, false)) := rfl
    rw [e]
    generalize itr bt n k (at_, false) = s at ih ⊢
    unfold stp
    by_cases hc : s.2 = false ∧ s.1 + 3 ≤ n
    · rw [if_pos hc]
      have := con_le bt s.1 hb
      have hc2 := hc.2
      right
      show at_ + 3 ≤ s.1 + (3 + con bt s.1) ∧ at_ + 3 ≤ n ∧ s.1 + (3 + con bt s.1) ≤ n + 2097151
      rcases ih with ⟨h1, _⟩ | ⟨h1, h2, h3⟩ <;> omega
    · rw [if_neg hc]; exact ih
end Go.Proofs.Qxb6001089aMods.PB
