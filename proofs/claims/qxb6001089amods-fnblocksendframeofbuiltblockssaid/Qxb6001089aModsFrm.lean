import Derived.Test.Qxb6001089aModsBnd
import Derived.Test.Qxb6001089aModsPlainF
namespace Go.Proofs.Qxb6001089aMods
open Go.RowKit

set_option maxHeartbeats 400000 in
theorem cloneU_any (a : Option Addr) (len cap : Nat) (f : Nat → Nat) (w : World) (h : IsN .u32 w a len cap f) (hl : len ≤ 1048576) :
    Calls Trym.prog 16 #[.slice a len cap] w fun e w' => Cloned .u32 30 w w' e len f := by
  have hnil := eqnil25
  cases a with
  | none =>
    obtain ⟨rfl, rfl⟩ := h.nil
    go_enter Trym.func16, Trym.ntmps16
    go_wp2
    go_ret
    exact .inl ⟨rfl, rfl, rfl⟩
  | some x =>
    have HC : Hid _ := h.2
    clear h
    have hmk := make25 len f hl
    go_enter Trym.func16, Trym.ntmps16
    go_wp2_with fail
    go_loopw [4] (fun i wr => ∃ t : Nat, t ≤ len ∧ i = .int .i64 (t : Int) ∧ wr = w.alloc (.cells (nc .u32 len (cpy f t)) 30)) (fun i _ => (len - intOf i).toNat)
    case atStart => exact ⟨0, by omega, rfl, rfl⟩
    case round =>
      obtain ⟨t, ht, rfl, rfl⟩ := hrel
      by_cases hlt : t < len
      · rcases HC.out with ⟨h0, _⟩ | ⟨hp, b, off, he, hcell⟩
        · omega
        · cases he
          have hck := hcell t hlt
          have hbl : b < w.heap.size := World.block_lt_of_cell? w _ hck
          have hget := nc_get .u32 len (cpy f t) t hlt
          clear hcell
          go_wp2
          go_roundw
          case rel => exact ⟨t + 1, by omega, by go_num, by rw [nc_cpy]⟩
          case measure => simp [intOf]; omega
      · obtain rfl : t = len := by omega
        go_wp2
        go_ret
        exact .inr ⟨rfl, by rw [nc_cpy_all]⟩

theorem and_u8_3 (x : Nat) (h : x < 256) : bits BinOp.and IntKind.u8 (x : Int) 3 = ((x % 4 : Nat) : Int) := by
  have := bits_mask .u8 8 (by decide) wraps_u8 2 (by decide) (x : Int) (by omega) (by omega)
  simp at this
  rw [this]; omega
theorem and_u32_21 (x : Nat) (h : x < 4294967296) : bits BinOp.and IntKind.u32 (x : Int) 2097151 = ((x % 2097152 : Nat) : Int) := by
  have := bits_mask .u32 32 (by decide) wraps_u32 21 (by decide) (x : Int) (by omega) (by omega)
  simp at this
  rw [this]; omega

set_option maxHeartbeats 400000 in
theorem kind_any (a : Option Addr) (len cap : Nat) (K : Nat → Nat) (i : Nat) (w : World) (h : IsN .u8 w a len cap K) (hf : ∀ i, K i < 256) :
    Calls Trym.prog 17 #[.slice a len cap, .int .i64 (i : Int)] w fun e w' => e = .returned (.int .i64 ((PF.kd K len i : Nat) : Int)) ∧ w' = w := by
  have hm := h.1
  unfold maxLen at hm
  by_cases hi : i < len
  · have e : PF.kd K len i = K i % 4 := by simp [PF.kd, hi]
    have ha := and_u8_3 _ (hf i)
    rcases h.2 with ⟨h0, _⟩ | ⟨hp, b, off, rfl, hcell⟩
    · omega
    · have hc := hcell i hi
      have hlt : K i % 4 < 4 := Nat.mod_lt _ (by decide)
      have hi' : (i : Int) < (len : Int) := by omega
      rw [e]
      generalize K i % 4 = q at *
      clear hcell h hf e
      go_enter Trym.func17, Trym.ntmps17
      go_wp2
      go_ret
      exact ⟨rfl, rfl⟩
  · have e : PF.kd K len i = 2 := by simp [PF.kd, hi]
    have hi' : decide ((i : Int) < (len : Int)) = false := decide_eq_false (by omega)
    rw [e]
    clear h hf e
    go_enter Trym.func17, Trym.ntmps17
    go_wp2
    go_ret
    exact ⟨rfl, rfl⟩

set_option maxHeartbeats 400000 in
theorem clen_any (a : Option Addr) (len cap : Nat) (S : Nat → Nat) (a2 : Option Addr) (len2 cap2 : Nat) (K : Nat → Nat) (i : Nat) (w : World) (h : IsN .u32 w a len cap S) (h2 : IsN .u8 w a2 len2 cap2 K) (hS : ∀ i, S i < 4294967296) (hK : ∀ i, K i < 256) (hi : i < len) :
    Calls Trym.prog 14 #[.slice a len cap, .slice a2 len2 cap2, .int .i64 (i : Int)] w fun e w' => e = .returned (.int .i64 ((PF.cl S K len2 i : Nat) : Int)) ∧ w' = w := by
  have HK : Hid _ := kind_any a2 len2 cap2 K i w h2 hK
  have hm := h.1
  unfold maxLen at hm
  by_cases hk : PF.kd K len2 i = 1
  · have e : PF.cl S K len2 i = 1 := by simp [PF.cl, hk]
    rw [hk] at HK
    rw [e]
    clear h h2 hS hK e hk
    go_enter Trym.func14, Trym.ntmps14
    go_wp2_with (go_at_call 17; refine Calls.mono HK.out ?_; rintro e w1 ⟨rfl, rfl⟩)
    go_ret
    exact ⟨rfl, rfl⟩
  · have e : PF.cl S K len2 i = S i % 2097152 := by simp [PF.cl, hk]
    have ha := and_u32_21 _ (hS i)
    rcases h.2 with ⟨h0, _⟩ | ⟨hp, b, off, rfl, hcell⟩
    · omega
    · have hc := hcell i hi
      have hlt : S i % 2097152 < 2097152 := Nat.mod_lt _ (by decide)
      have hi' : (i : Int) < (len : Int) := by omega
      have hb : (((PF.kd K len2 i : Nat) : Int) == 1) = false := beq_eq_false_iff_ne.2 (by omega)
      rw [e]
      generalize S i % 2097152 = q at *
      generalize PF.kd K len2 i = kk at *
      clear hcell h hS hK h2 e hk
      go_enter Trym.func14, Trym.ntmps14
      go_wp2_with (go_at_call 17; refine Calls.mono HK.out ?_; rintro e w1 ⟨rfl, rfl⟩)
      go_ret
      exact ⟨rfl, rfl⟩

/-- an answer, true or false -/
def SaysB (e : Ending) : Prop := ∃ b, e = .returned (.bool b)
set_option maxHeartbeats 400000 in
theorem zzF_any (a0 : Option Addr) (len0 cap0 : Nat) (a1 : Option Addr) (len1 cap1 : Nat) (a2 : Option Addr) (len2 cap2 : Nat) (w : World) (m0 : len0 ≤ maxLen) (m1 : len1 ≤ maxLen) (m2 : len2 ≤ maxLen) :
    Calls Trym.prog 13 #[.slice a0 len0 cap0, .slice a1 len1 cap1, .slice a2 len2 cap2] w fun e w' => SaysB e ∧ w = w' := by
  unfold maxLen at m0 m1 m2
  go_enter Trym.func13, Trym.ntmps13
  go_wp2
  all_goals
    go_ret
    exact ⟨⟨_, rfl⟩, rfl⟩
end Go.Proofs.Qxb6001089aMods
