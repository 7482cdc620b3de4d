import Derived.Test.Qxb6001089aModsEnd
namespace Go.Proofs.Qxb6001089aMods
open Go.RowKit

set_option maxHeartbeats 400000 in
theorem zzEnd_any (a : Option Addr) (len cap : Nat) (f : Nat → Nat) (at_ : Nat) (w : World) (h : IsN .u8 w a len cap f) (hf : ∀ i, f i < 256) (hl : len ≤ 1048576) (ha : at_ ≤ 1073741824) :
    Calls Trym.prog 18 #[.slice a len cap, .int .i64 (at_ : Int)] w fun e w' => Walked f len at_ e ∧ Below w.heap.size w w' := by
  have HE : Hid _ := end_any a len cap f at_ w h hf hl ha
  clear h hf
  go_enter Trym.func18, Trym.ntmps18
  go_wp2_with (go_at_call 29; refine Calls.mono HE.out ?_; rintro e w1 ⟨⟨E, L, rfl, hc, hx⟩, hb⟩)
  go_ret2
  exact ⟨⟨E, L, rfl, hc, hx⟩, hb⟩

set_option maxHeartbeats 400000 in
theorem zzB_any (a : Option Addr) (len cap : Nat) (x : Int) (w : World) (hm : len ≤ maxLen) :
    Calls Trym.prog 20 #[.slice a len cap, .int .i64 x] w fun e w' => e = .returned (.bool (decide (len ≤ 1048576))) ∧ w = w' := by
  unfold maxLen at hm
  by_cases h : len ≤ 1048576
  · rw [decide_eq_true h]
    go_enter Trym.func20, Trym.ntmps20
    go_wp2
    go_ret
    exact ⟨rfl, rfl⟩
  · rw [decide_eq_false h]
    go_enter Trym.func20, Trym.ntmps20
    go_wp2
    go_ret
    exact ⟨rfl, rfl⟩

theorem exit_lt {n E : Nat} (h : false = true ∨ n < E + 3) : (n : Int) < (E : Int) + 3 := by
  rcases h with h | h
  · cases h
  · omega

set_option maxHeartbeats 400000 in
theorem bounds_any (a : Option Addr) (len cap : Nat) (f : Nat → Nat) (x : Int) (w : World) (h : IsN .u8 w a len cap f) (hf : ∀ i, f i < 256) :
    Calls Trym.prog 8 #[.slice a len cap, .int .i64 x] w fun e w' => e = .returned (.bool true) ∧ Below w.heap.size w w' := by
  have hm : len ≤ maxLen := h.1
  have HN : Hid _ := h
  have HF : Hid _ := hf
  have HM : Hid _ := hm
  unfold maxLen at hm
  clear h hf
  by_cases hl : len ≤ 1048576
  · have hz := zzB_any a len cap x w HM.out
    rw [decide_eq_true hl] at hz
    have HZ : Hid _ := hz
    clear hz
    by_cases hx0 : x < 0
    · go_enter Trym.func8, Trym.ntmps8
      go_wp2_with (go_at_call 20; refine Calls.mono HZ.out ?_; rintro e w1 ⟨rfl, rfl⟩)
      go_ret
      exact ⟨rfl, Below.refl _ _⟩
    · by_cases hx1 : 1073741824 < x
      · go_enter Trym.func8, Trym.ntmps8
        go_wp2_with (go_at_call 20; refine Calls.mono HZ.out ?_; rintro e w1 ⟨rfl, rfl⟩)
        go_ret
        exact ⟨rfl, Below.refl _ _⟩
      · obtain ⟨at_, rfl⟩ := Int.eq_ofNat_of_zero_le (by omega : 0 ≤ x)
        go_enter Trym.func8, Trym.ntmps8
        go_wp2_with (first
          | (go_at_call 20; refine Calls.mono HZ.out ?_; rintro e w1 ⟨rfl, rfl⟩)
          | fail)
        refine (cloneB_any _ _ _ f _ HN.out hl).mono ?_
        intro e w1 hc
        obtain ⟨⟨a', c', rfl, hn1⟩, hb1⟩ := hc.out hl
        have HN1 : Hid _ := hn1
        have HB1 : Hid _ := hb1
        clear hc hn1 hb1
        go_wp2_with fail
        refine (zzEnd_any _ _ _ f at_ _ HN1.out HF.out hl (by omega)).mono ?_
        rintro e w2 ⟨⟨E, L, rfl, hc2, hx2⟩, hb2⟩
        have HB2 : Hid (Below w.heap.size w w2) := Below.trans HB1.out (hb2.mono (Below.size HB1.out))
        have hbd := PB.comes_bounds HF.out hc2
        simp only at hbd
        clear hc2 hb2 HN1 HB1 HN HF HZ
        rcases hbd with ⟨rfl, rfl⟩ | ⟨g1, g2, g3⟩
        · have k1 : (len : Int) < (E : Int) + 3 := exit_lt hx2
          go_wp2
          go_ret
          exact ⟨rfl, HB2.out⟩
        · cases L
          · have k1 : (len : Int) < (E : Int) + 3 := exit_lt hx2
            have k2 : ¬ (3 ≤ (len : Int) - (E : Int)) := by omega
            go_wp2
            go_ret
            exact ⟨rfl, HB2.out⟩
          · clear hx2
            go_wp2
            go_ret
            exact ⟨rfl, HB2.out⟩
  · have hz := zzB_any a len cap x w HM.out
    rw [decide_eq_false hl] at hz
    have HZ : Hid _ := hz
    clear hz
    go_enter Trym.func8, Trym.ntmps8
    go_wp2_with (go_at_call 20; refine Calls.mono HZ.out ?_; rintro e w1 ⟨rfl, rfl⟩)
    go_ret
    exact ⟨rfl, Below.refl _ _⟩
end Go.Proofs.Qxb6001089aMods
