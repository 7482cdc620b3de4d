import Derived.Test.Qxb6001089aModsFra
namespace Go.Proofs.Qxb6001089aMods
open Go.RowKit

set_option maxRecDepth 100000 in
set_option maxHeartbeats 4000000 in
theorem frame_any (a0 : Option Addr) (n0 c0 : Nat) (P : Nat → Nat) (a1 : Option Addr) (n1 c1 : Nat) (S : Nat → Nat) (a2 : Option Addr) (n2 c2 : Nat) (K : Nat → Nat) (w : World)
    (h0 : IsN .u8 w a0 n0 c0 P) (h1 : IsN .u32 w a1 n1 c1 S) (h2 : IsN .u8 w a2 n2 c2 K) (hP : ∀ i, P i < 256) (hS : ∀ i, S i < 4294967296) (hK : ∀ i, K i < 256) :
    Calls Trym.prog 6 #[.slice a0 n0 c0, .slice a1 n1 c1, .slice a2 n2 c2] w fun e w' => e = .returned (.bool true) ∧ Below w.heap.size w w' := by
  have HZ : Hid _ := zzF_any a0 n0 c0 a1 n1 c1 a2 n2 c2 w h0.1 h1.1 h2.1
  have m0 := h0.1
  have m1 := h1.1
  have m2 := h2.1
  unfold maxLen at m0 m1 m2
  by_cases g0 : n0 ≤ 1048576
  · by_cases g1 : n1 ≤ 262144
    · by_cases g2 : n2 ≤ 1048576
      · by_cases g3 : n0 + 4 * n1 + n2 ≤ 1048576
        · exact frame_main a0 n0 c0 P a1 n1 c1 S a2 n2 c2 K w h0 h1 h2 hP hS hK g0 g1 g2 g3
        · have q3 : decide ((1048576 : Int) < (n0 : Int) + 4 * (n1 : Int) + (n2 : Int)) = true := decide_eq_true (by omega)
          clear h0 h1 h2 hP hS hK
          go_enter Trym.func6, Trym.ntmps6
          go_wp2_with fail
          refine Calls.mono HZ.out ?_
          rintro e w1 ⟨⟨b, rfl⟩, rfl⟩
          clear HZ
          cases b
          all_goals
            go_wp2
            go_ret
            exact ⟨rfl, Below.refl _ _⟩
      · have q2 : decide ((1048576 : Int) < (n2 : Int)) = true := decide_eq_true (by omega)
        clear h0 h1 h2 hP hS hK
        go_enter Trym.func6, Trym.ntmps6
        go_wp2_with fail
        refine Calls.mono HZ.out ?_
        rintro e w1 ⟨⟨b, rfl⟩, rfl⟩
        clear HZ
        cases b
        all_goals
          go_wp2
          go_ret
          exact ⟨rfl, Below.refl _ _⟩
    · have q1 : decide ((262144 : Int) < (n1 : Int)) = true := decide_eq_true (by omega)
      clear h0 h1 h2 hP hS hK
      go_enter Trym.func6, Trym.ntmps6
      go_wp2_with fail
      refine Calls.mono HZ.out ?_
      rintro e w1 ⟨⟨b, rfl⟩, rfl⟩
      clear HZ
      cases b
      all_goals
        go_wp2
        go_ret
        exact ⟨rfl, Below.refl _ _⟩
  · have q0 : decide ((1048576 : Int) < (n0 : Int)) = true := decide_eq_true (by omega)
    clear h0 h1 h2 hP hS hK
    go_enter Trym.func6, Trym.ntmps6
    go_wp2_with fail
    refine Calls.mono HZ.out ?_
    rintro e w1 ⟨⟨b, rfl⟩, rfl⟩
    clear HZ
    cases b
    all_goals
      go_wp2
      go_ret
      exact ⟨rfl, Below.refl _ _⟩
end Go.Proofs.Qxb6001089aMods
