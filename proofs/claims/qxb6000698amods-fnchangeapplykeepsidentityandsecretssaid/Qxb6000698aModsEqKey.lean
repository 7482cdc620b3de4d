import Derived.Test.Qxb6000698aModsKey
namespace Go.Proofs.Qxb6000698aMods
open Go.RowKit

theorem below_dN {B : Nat} {a w : World} (h : Below B a w) (n : Nat) : Below B a (w.drewN n) := ⟨h.os, h.tape, h.output, h.size, h.block⟩

set_option maxRecDepth 100000 in
set_option maxHeartbeats 1000000 in
theorem eqKey_same (s0 s1 s2 s7 s9 s12 s13 : ByteArray) (i4 i5 i6 i8 i10 i11 : Int) (ka : Option Addr) (kl kc : Nat) (f : Nat → ByteArray) (w : World) (h : IsS w ka kl kc f) :
    Calls Trym.prog 19 #[.agg #[.string s0, .string s1, .string s2, .slice ka kl kc, .int .i64 i4, .int .i64 i5, .int .i64 i6, .string s7, .int .i64 i8, .string s9, .int .i64 i10, .int .i64 i11, .string s12, .string s13], .agg #[.string s0, .string s1, .string s2, .slice ka kl kc, .int .i64 i4, .int .i64 i5, .int .i64 i6, .string s7, .int .i64 i8, .string s9, .int .i64 i10, .int .i64 i11, .string s12, .string s13]] w fun e w' => e = .returned (.bool true) ∧ Below w.heap.size w w' := by
  have HH : Hid (∀ o1 o2, IsS ((w.alloc o1).alloc o2) ka kl kc f) := fun o1 o2 => h.below (((Below.refl _ _).alloc (Nat.le_refl _) o1).alloc (by simp) o2) (Nat.le_refl _)
  clear h
  go_enter Trym.func19, Trym.ntmps19
  go_wp2_with (go_at_call 34; refine (eqS_same _ _ _ f _ (HH.out _ _)).mono ?_; rintro e w' ⟨rfl, n, rfl⟩)
  go_ret
  exact ⟨rfl, below_dN (((Below.refl _ _).alloc (Nat.le_refl _) _).alloc (by simp) _) _⟩
end Go.Proofs.Qxb6000698aMods
