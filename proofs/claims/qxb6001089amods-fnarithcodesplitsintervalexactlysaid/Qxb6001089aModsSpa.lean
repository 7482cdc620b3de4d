import Derived.Test.Qxb6001089aModsSpl
namespace Go.Proofs.Qxb6001089aMods
open Go.RowKit

set_option maxHeartbeats 1000000 in
theorem split_any (L H n : Nat) (p : Int) (a : Option Addr) (c : Nat) (f : Nat → Nat) (w : World) (hN : IsN .u8 w a n c f) (hL : L < 4294967296) (hH : H < 4294967296) :
    Calls Trym.prog 10 #[.int .u32 (L : Int), .int .u32 (H : Int), .slice a n c, .int .i64 p] w fun e w' => e = .returned (.bool true) ∧ Below w.heap.size w w' := by
  have hz := zzA_any (L : Int) (H : Int) p a n c w hN.1
  have hm : n ≤ 9223372036854775807 := hN.1
  by_cases hn : n ≤ 1048576
  · rw [decide_eq_true hn] at hz
    by_cases hp1 : p < 1
    · have HZ : Hid _ := hz
      clear hz hN
      go_enter Trym.func10, Trym.ntmps10
      go_wp2_with (go_at_call 26; refine Calls.mono HZ.out ?_; rintro e w1 ⟨rfl, rfl⟩)
      go_ret
      exact ⟨rfl, Below.refl _ _⟩
    · by_cases hp2 : 4095 < p
      · have HZ : Hid _ := hz
        clear hz hN
        go_enter Trym.func10, Trym.ntmps10
        go_wp2_with (go_at_call 26; refine Calls.mono HZ.out ?_; rintro e w1 ⟨rfl, rfl⟩)
        go_ret
        exact ⟨rfl, Below.refl _ _⟩
      · have hv := valid_any L H w hL hH
        cases hok : okB L H
        · rw [hok] at hv
          have HZ : Hid _ := hz
          have HV : Hid _ := hv
          clear hz hv hN hok
          go_enter Trym.func10, Trym.ntmps10
          go_wp2_with (first
            | (go_at_call 26; refine Calls.mono HZ.out ?_; rintro e w1 ⟨rfl, rfl⟩)
            | (go_at_call 25; refine Calls.mono HV.out ?_; rintro e w1 ⟨rfl, rfl⟩))
          go_ret
          exact ⟨rfl, Below.refl _ _⟩
        · obtain ⟨P, rfl⟩ := Int.eq_ofNat_of_zero_le (by omega : 0 ≤ p)
          have hlt : L < H := by
            have := of_decide_eq_true hok
            omega
          exact split_in L H P n a c f w hN hn hlt hH (by omega) (by omega) hok
  · rw [decide_eq_false hn] at hz
    have HZ : Hid _ := hz
    clear hz hN
    go_enter Trym.func10, Trym.ntmps10
    go_wp2_with (go_at_call 26; refine Calls.mono HZ.out ?_; rintro e w1 ⟨rfl, rfl⟩)
    go_ret
    exact ⟨rfl, Below.refl _ _⟩
end Go.Proofs.Qxb6001089aMods
