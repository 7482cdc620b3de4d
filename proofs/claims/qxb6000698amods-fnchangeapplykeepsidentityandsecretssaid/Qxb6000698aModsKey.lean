import Derived.Test.Qxb6000698aModsStr
namespace Go.Proofs.Qxb6000698aMods
open Go.RowKit

set_option maxHeartbeats 400000 in
theorem eqS_same (a : Option Addr) (len cap : Nat) (f : Nat → ByteArray) (w : World) (h : IsS w a len cap f) :
    Calls Trym.prog 34 #[.slice a len cap, .slice a len cap] w fun e w' => e = .returned (.bool true) ∧ ∃ n, w' = w.drewN n := by
  have hnil := eqnil
  obtain ⟨hm, hc⟩ := h
  unfold maxLen at hm
  have HC : Hid _ := hc
  clear hc
  cases hn : a.isNone
  all_goals
    go_enter Trym.func34, Trym.ntmps34
    go_wp2_with fail
    go_loopw [5] (fun i wr => ∃ k n : Nat, k ≤ len ∧ i = .int .i64 (k : Int) ∧ wr = w.drewN n) (fun i _ => (len - intOf i).toNat)
    case atStart => exact ⟨0, 0, by omega, rfl, rfl⟩
    case round =>
      obtain ⟨k, n, hk, rfl, rfl⟩ := hrel
      by_cases hlt : k < len
      · rcases HC.out with ⟨h0, _⟩ | ⟨hp, b, off, rfl, hcell⟩
        · omega
        · have hck := (hcell k hlt).1
          have h1 : (k : Int) < (len : Int) := by omega
          clear hcell
          go_wp2
          go_quiet (fail)
          go_wp2
          go_roundw
          case rel => exact ⟨k + 1, _, by omega, by go_num, rfl⟩
          case measure => simp [intOf]; omega
      · go_wp2
        go_ret
        exact ⟨rfl, _, rfl⟩

theorem size37 : (Trym.prog.info? 37).map (·.size) = some 14 := by kernel_rfl
theorem size26 : (Trym.prog.info? 26).map (·.size) = some 14 := by kernel_rfl
theorem size24 : (Trym.prog.info? 24).map (·.size) = some 12 := by kernel_rfl
theorem size45 : (Trym.prog.info? 45).map (·.size) = some 6 := by kernel_rfl

set_option maxHeartbeats 400000 in
theorem mkKey_any (s0 s1 s2 s7 s9 s12 s13 : ByteArray) (i4 i5 i6 i8 i10 i11 : Int) (ka : Option Addr) (kl kc : Nat) (w : World) :
    Calls Trym.prog 18 #[.agg #[.string s0, .string s1, .string s2, .slice ka kl kc, .int .i64 i4, .int .i64 i5, .int .i64 i6, .string s7, .int .i64 i8, .string s9, .int .i64 i10, .int .i64 i11, .string s12, .string s13]] w fun e w' => e = .returned (.agg #[.string s0, .string s1, .string s2, .slice ka kl kc, .int .i64 i4, .int .i64 i5, .int .i64 i6, .string s7, .int .i64 i8, .string s9, .int .i64 i10, .int .i64 i11, .string s12, .string s13]) ∧ Below w.heap.size w w' := by
  go_enter Trym.func18, Trym.ntmps18
  go_wp2
  exact bodyPost_ret (results_cell_row (p := 2) (ty := 37) rfl _ _ (w.heap.size + 1) 37 _ (0, 0) _ rfl (heap_alloc2_new _ _ _) Trym.underlying37 rfl size37) rfl ⟨rfl, ((Below.refl _ _).alloc (Nat.le_refl _) _).alloc (by simp) _⟩
end Go.Proofs.Qxb6000698aMods
