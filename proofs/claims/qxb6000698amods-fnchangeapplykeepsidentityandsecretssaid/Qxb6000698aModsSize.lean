import Derived.Test.Qxb6000698aModsKey
namespace Go.Proofs.Qxb6000698aMods
open Go.RowKit

set_option maxHeartbeats 400000 in
theorem sizeKey_any (t : Int) (s0 s1 s2 s7 s9 s12 s13 : ByteArray) (i4 i5 i6 i8 i10 i11 : Int) (ka : Option Addr) (kl kc : Nat) (f : Nat → ByteArray) (w : World) (h : IsS w ka kl kc f) :
    Calls Trym.prog 13 #[.int .i64 t, .agg #[.string s0, .string s1, .string s2, .slice ka kl kc, .int .i64 i4, .int .i64 i5, .int .i64 i6, .string s7, .int .i64 i8, .string s9, .int .i64 i10, .int .i64 i11, .string s12, .string s13]] w fun e w' => (∃ m, e = .returned (.int .i64 m)) ∧ Below w.heap.size w w' := by
  have HH : Hid (∀ o, IsS (w.alloc o) ka kl kc f) := fun o => h.below ((Below.refl _ _).alloc (Nat.le_refl _) o) (Nat.le_refl _)
  clear h
  go_enter Trym.func13, Trym.ntmps13
  go_wp2_with (first
    | (go_at_call 31; refine (addCap_any _ _ _).mono ?_; rintro e w' ⟨⟨m, rfl⟩, rfl⟩)
    | (go_at_call 32; refine (sizeStrings_any _ _ _ _ f _ (HH.out _)).mono ?_; rintro e w' ⟨⟨m, rfl⟩, rfl⟩))
  all_goals
    go_ret
    exact ⟨⟨_, rfl⟩, (Below.refl _ _).alloc (Nat.le_refl _) _⟩

set_option maxHeartbeats 400000 in
theorem sizeChange_any (t : Int) (h0 h2 h4 h6 h8 h10 : Bool) (c1 c3 c11 : ByteArray) (c7 c9 : Int) (ca : Option Addr) (cl cc : Nat) (f : Nat → ByteArray) (w : World) (h : IsS w ca cl cc f) :
    Calls Trym.prog 12 #[.int .i64 t, .agg #[.bool h0, .string c1, .bool h2, .string c3, .bool h4, .slice ca cl cc, .bool h6, .int .i64 c7, .bool h8, .int .i64 c9, .bool h10, .string c11]] w fun e w' => (∃ m, e = .returned (.int .i64 m)) ∧ Below w.heap.size w w' := by
  have HH : Hid (∀ o, IsS (w.alloc o) ca cl cc f) := fun o => h.below ((Below.refl _ _).alloc (Nat.le_refl _) o) (Nat.le_refl _)
  clear h
  go_enter Trym.func12, Trym.ntmps12
  go_wp2_with (first
    | (go_at_call 31; refine (addCap_any _ _ _).mono ?_; rintro e w' ⟨⟨m, rfl⟩, rfl⟩)
    | (go_at_call 32; refine (sizeStrings_any _ _ _ _ f _ (HH.out _)).mono ?_; rintro e w' ⟨⟨m, rfl⟩, rfl⟩))
  all_goals
    go_ret
    exact ⟨⟨_, rfl⟩, (Below.refl _ _).alloc (Nat.le_refl _) _⟩
end Go.Proofs.Qxb6000698aMods
