import Derived.Test.Qxb6000698aModsDec
import Derived.BigQuiet
import Derived.Deep.QuietTactic
namespace Go.Proofs.Qxb6000698aMods
open Go.RowKit

theorem bc_byts (A t : Nat) (h : t < 32) : (bc (B62.byts A))[t]? = some (.int .u8 ((B62.byt A t : Nat) : Int)) := by
  rw [bc_get _ _ (by rw [B62.byts_length]; exact h)]
  simp [B62.byts, List.getD, h]

theorem below2 (w : World) (a b : Obj) (n : Nat) : Below w.heap.size w (((w.alloc a).alloc b).drewN n) := by
  have h : Below w.heap.size w ((w.alloc a).alloc b) := ((Below.refl _ _).alloc (Nat.le_refl _) _).alloc (by simp) _
  exact ⟨h.os, h.tape, h.output, h.size, h.block⟩
theorem below_dN {B : Nat} {a w : World} (h : Below B a w) (n : Nat) : Below B a (w.drewN n) := ⟨h.os, h.tape, h.output, h.size, h.block⟩

set_option maxHeartbeats 400000 in
theorem cmpB_any (A B : Nat) (w : World) (hA : A < 256 ^ 32) (hB : B < 256 ^ 32) :
    Calls Trym.prog 25 #[.agg (bc (B62.byts A)), .agg (bc (B62.byts B))] w fun e w' => e = .returned (.int .i64 (B62.cmpN A B)) ∧ Below w.heap.size w w' := by
  have HS : Hid (A / 256 ^ (32 - 0) = B / 256 ^ (32 - 0)) := by
    show A / 256 ^ 32 = B / 256 ^ 32
    rw [Nat.div_eq_of_lt hA, Nat.div_eq_of_lt hB]
  clear hA hB
  go_enter Trym.func25, Trym.ntmps25
  go_wp2_with fail
  go_loopw [5] (fun i wr => ∃ k n : Nat, k ≤ 32 ∧ i = .int .i64 (k : Int) ∧ Hid (A / 256 ^ (32 - k) = B / 256 ^ (32 - k)) ∧ wr = ((w.alloc (.cells (bc (B62.byts A)) 52)).alloc (.cells (bc (B62.byts B)) 52)).drewN n) (fun i _ => (32 - intOf i).toNat)
  case atStart => exact ⟨0, 0, by omega, rfl, HS, rfl⟩
  case round =>
    obtain ⟨k, n, hk, rfl, HE, rfl⟩ := hrel
    by_cases hlt : k < 32
    · have ha := bc_byts A k hlt
      have hb := bc_byts B k hlt
      have h1 : (k : Int) < 32 := by omega
      rcases Nat.lt_trichotomy (B62.byt A k) (B62.byt B k) with h | h | h
      · have HR : Hid _ := B62.cmp_lt A B (B62.byt_order A B k hlt HE.out h)
        go_wp2
        go_quiet (fail)
        go_wp2
        go_ret
        exact ⟨ret_int HR.out.symm, below_dN (below2 _ _ _ _) _⟩
      · have HR : Hid _ := B62.byt_next A B k hlt HE.out h
        have hl : ¬ ((B62.byt A k : Nat) : Int) < ((B62.byt B k : Nat) : Int) := by omega
        have hg : ¬ ((B62.byt B k : Nat) : Int) < ((B62.byt A k : Nat) : Int) := by omega
        clear h
        go_wp2
        go_quiet (fail)
        go_wp2
        go_quiet (fail)
        go_wp2
        go_roundw
        case rel => exact ⟨k + 1, _, by omega, by go_num, HR, rfl⟩
        case measure => simp [intOf]; omega
      · have HR : Hid _ := B62.cmp_gt A B (B62.byt_order B A k hlt HE.out.symm h)
        go_wp2
        go_quiet (fail)
        go_wp2
        go_quiet (fail)
        go_wp2
        go_ret
        exact ⟨ret_int HR.out.symm, below_dN (below_dN (below2 _ _ _ _) _) _⟩
    · obtain rfl : k = 32 := by omega
      have HR : Hid (A = B) := by have := HE.out; simp at this; exact this
      go_wp2
      go_ret
      exact ⟨ret_int (by rw [← HR.out, B62.cmp_eq]), below2 _ _ _ _⟩

set_option maxHeartbeats 400000 in
theorem cmpS_any (A B : Nat) (w : World) (s r : ByteArray) (hA : A < 256 ^ 32) (hB : B < 256 ^ 32) (hs : s.size = 43) (hg : ∀ p (h : p < s.size), (s[p]'h).toNat = B62.chr (B62.dgt A p)) (hr : r.size = 43) (hq : ∀ p (h : p < r.size), (r[p]'h).toNat = B62.chr (B62.dgt B p)) :
    Calls Trym.prog 26 #[.string s, .string r] w fun e w' => e = .returned (.int .i64 (B62.cmpN A B)) ∧ ∃ n, w' = w.drewN n := by
  have HS : Hid (B62.hd A 0 = B62.hd B 0) := by
    show B62.hd A 0 = B62.hd B 0
    rw [B62.hd_zero A hA, B62.hd_zero B hB]
  have HG : Hid _ := hg
  have HQ : Hid _ := hq
  clear hA hB hg hq
  go_enter Trym.func26, Trym.ntmps26
  go_wp2_with fail
  go_loopw [6] (fun i wr => ∃ k n : Nat, k ≤ 43 ∧ i = .int .i64 (k : Int) ∧ Hid (B62.hd A k = B62.hd B k) ∧ wr = w.drewN n) (fun i _ => (43 - intOf i).toNat)
  case atStart => exact ⟨0, 0, by omega, rfl, HS, rfl⟩
  case round =>
    obtain ⟨k, n, hk, rfl, HE, rfl⟩ := hrel
    by_cases hlt : k < 43
    · have hks : k < s.size := by rw [hs]; exact hlt
      have hkr : k < r.size := by rw [hr]; exact hlt
      have ha := HG.out k hks
      have hb := HQ.out k hkr
      have hm := B62.chr_mono (B62.dgt A k) (B62.dgt B k) (B62.dgt_lt _ _) (B62.dgt_lt _ _)
      have hm' := B62.chr_mono (B62.dgt B k) (B62.dgt A k) (B62.dgt_lt _ _) (B62.dgt_lt _ _)
      have h1 : (k : Int) < 43 := by omega
      rcases Nat.lt_trichotomy (B62.dgt A k) (B62.dgt B k) with h | h | h
      · have HR : Hid _ := B62.cmp_lt A B (B62.dgt_order A B k hlt HE.out h)
        have hc := hm.2 h
        generalize B62.chr (B62.dgt A k) = x at *
        generalize B62.chr (B62.dgt B k) = y at *
        clear hm hm' h
        go_wp2
        go_quiet (fail)
        go_wp2
        go_ret
        exact ⟨ret_int HR.out.symm, n + nq, by rw [World.drewN_drewN]⟩
      · have HR : Hid _ := B62.dgt_next A B k hlt HE.out h
        rw [← h] at hb
        generalize B62.chr (B62.dgt A k) = x at *
        clear h hm hm'
        go_wp2
        go_quiet (fail)
        go_wp2
        go_quiet (fail)
        go_wp2
        go_roundw
        case rel => exact ⟨k + 1, _, by omega, by go_num, HR, rfl⟩
        case measure => simp [intOf]; omega
      · have HR : Hid _ := B62.cmp_gt A B (B62.dgt_order B A k hlt HE.out.symm h)
        have hc := hm'.2 h
        generalize B62.chr (B62.dgt A k) = x at *
        generalize B62.chr (B62.dgt B k) = y at *
        clear hm hm' h
        go_wp2
        go_quiet (fail)
        go_wp2
        go_quiet (fail)
        go_wp2
        go_ret
        exact ⟨ret_int HR.out.symm, _, by rw [World.drewN_drewN, World.drewN_drewN]⟩
    · obtain rfl : k = 43 := by omega
      have HR : Hid (A = B) := by have := HE.out; rw [B62.hd_last, B62.hd_last] at this; exact this
      go_wp2
      go_ret
      exact ⟨ret_int (by rw [← HR.out, B62.cmp_eq]), _, rfl⟩
end Go.Proofs.Qxb6000698aMods
