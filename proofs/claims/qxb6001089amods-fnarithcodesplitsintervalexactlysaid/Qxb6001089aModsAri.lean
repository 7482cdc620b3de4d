import Derived.Test.Qxb6001089aModsWid
namespace Go.Proofs.Qxb6001089aMods
open Go.RowKit

set_option maxHeartbeats 400000 in
theorem zzA_any (x y p : Int) (a : Option Addr) (len cap : Nat) (w : World) (hm : len ≤ maxLen) :
    Calls Trym.prog 26 #[.int .u32 x, .int .u32 y, .slice a len cap, .int .i64 p] w fun e w' => e = .returned (.bool (decide (len ≤ 1048576))) ∧ w = w' := by
  unfold maxLen at hm
  by_cases h : len ≤ 1048576
  · rw [decide_eq_true h]
    go_enter Trym.func26, Trym.ntmps26
    go_wp2
    go_ret
    exact ⟨rfl, rfl⟩
  · rw [decide_eq_false h]
    go_enter Trym.func26, Trym.ntmps26
    go_wp2
    go_ret
    exact ⟨rfl, rfl⟩

/-- a state that the coder may stand in -/
def okB (l h : Nat) : Bool := decide (l ≤ h ∧ l / 16777216 ≠ h / 16777216)
set_option maxHeartbeats 400000 in
theorem valid_any (l h : Nat) (w : World) (hl : l < 4294967296) (hh : h < 4294967296) :
    Calls Trym.prog 25 #[.int .u32 (l : Int), .int .u32 (h : Int)] w fun e w' => e = .returned (.bool (okB l h)) ∧ w = w' := by
  have hx := xor_td l h hl hh
  have HZ : Hid _ := PA.td_zero l h hl hh
  by_cases h1 : l ≤ h
  · by_cases h2 : l / 16777216 = h / 16777216
    · have e : okB l h = false := by simp [okB, h1, h2]
      have hz : PA.td l h = 0 := HZ.out.2 h2
      rw [hz] at hx
      rw [e]
      clear hz h2 e
      go_enter Trym.func25, Trym.ntmps25
      go_wp2
      go_ret
      exact ⟨rfl, rfl⟩
    · have e : okB l h = true := by simp [okB, h1, h2]
      have hz : (((PA.td l h : Nat) : Int) != 0) = true := bne_iff_ne.2 (fun e => h2 (HZ.out.1 (by omega)))
      rw [e]
      clear h2 e
      go_enter Trym.func25, Trym.ntmps25
      go_wp2
      go_ret
      exact ⟨rfl, rfl⟩
  · have e : okB l h = false := by simp [okB, h1]
    have hd : decide ((l : Int) ≤ (h : Int)) = false := decide_eq_false (by omega)
    rw [e]
    clear e
    go_enter Trym.func25, Trym.ntmps25
    go_wp2
    go_ret
    exact ⟨rfl, rfl⟩

theorem nc_bl (n : Nat) (f : Nat → Nat) : (nc .u8 n f).toList = bl n f := by simp [nc, bl]
/-- a clone is a row of its own -/
theorem Cloned.owns {w w' : World} {e : Ending} {n : Nat} {f : Nat → Nat} (hl : n ≤ 1048576) (h : Cloned .u8 5 w w' e n f) :
    ∃ a' c', e = .returned (.slice a' n c') ∧ w'.ownsRow w.heap.size 5 1 (.slice a' n c') n (bl n f) ∧ Below w.heap.size w w' ∧ IsN .u8 w' a' n c' f := by
  obtain ⟨⟨a', c', he, hn⟩, hb⟩ := h.out hl
  refine ⟨a', c', he, ?_, hb, hn⟩
  rcases h with ⟨rfl, rfl, rfl⟩ | ⟨rfl, rfl⟩
  · cases he
    exact ⟨by simp [bl], .inl ⟨rfl, rfl⟩⟩
  · cases he
    refine ⟨by rw [bl_length]; omega, .inr ⟨w.heap.size, n, nc .u8 n f, rfl, Nat.le_refl _, heap_alloc_new _ _, Nat.le_refl _, by unfold maxLen; omega, by rw [nc_size]; omega, ?_⟩⟩
    rw [nc_bl, Nat.mul_one, List.take_of_length_le (by rw [bl_length]; omega)]
/-- what is owned can be read -/
theorem owns_reads {base : Nat} {w : World} {v : Value} {n : Nat} {f : Nat → Nat} (hn : n ≤ 2000000) (h : w.ownsRow base 5 1 v n (bl n f)) : ∃ a c, v = .slice a n c ∧ IsN .u8 w a n c f := by
  rcases h.2 with ⟨rfl, rfl⟩ | ⟨g, cap, cur, rfl, _, hg, hle, _, hs, ht⟩
  · exact ⟨none, 0, rfl, by unfold maxLen; omega, .inl ⟨rfl, fun _ => rfl⟩⟩
  · refine ⟨_, _, rfl, by unfold maxLen; omega, ?_⟩
    by_cases h0 : n = 0
    · exact .inl ⟨h0, fun h => by cases h⟩
    · refine .inr ⟨by omega, g, 0, rfl, fun i hi => ?_⟩
      rw [cell_of_row _ _ _ _ _ _ hg, Nat.zero_add, ← Array.getElem?_toList]
      have : (cur.toList.take (n * 1))[i]? = (bl n f)[i]? := by rw [ht]
      rw [List.getElem?_take_of_lt (by omega)] at this
      rw [this]
      simp [bl, hi]
end Go.Proofs.Qxb6001089aMods
