import Derived.Test.Qxb6001089aModsCode
namespace Go.Proofs.Qxb6001089aMods
open Go.RowKit

/-- what ZZArithCode answers -/
def Arith (base : Nat) (w w' : World) (e : Ending) (n : Nat) (f : Nat → Nat) (L0 H0 : Nat) : Prop :=
  ∃ k v', k ≤ 4 ∧ PA.Top L0 H0 k ∧ PA.sL L0 k / 16777216 ≠ PA.sH H0 k / 16777216 ∧ e = .returned (.tuple #[.int .u32 ((PA.sL L0 k : Nat) : Int), .int .u32 ((PA.sH H0 k : Nat) : Int), v']) ∧
    w'.ownsRow base 5 1 v' (n + k) (bl (n + k) (ext n f H0)) ∧ Below base w w'
theorem EC.new {base : Nat} {w : World} {L H : Nat} {v : Value} {n : Nat} {xs : List Value} (ho : w.ownsRow base 5 1 v n xs) (hb : base ≤ w.heap.size) :
    EC base w (w.alloc (.cells #[.int .u32 (L : Int), .int .u32 (H : Int), v] 52)) w.heap.size L H v n xs := by
  have hlt : ∀ g, v.ownBlock = some g → g < w.heap.size := by
    intro g hg
    rcases ho.2 with ⟨h0, _⟩ | ⟨g', cap, cur, rfl, _, hh, _⟩
    · rw [h0] at hg; cases hg
    · cases hg; exact (Array.getElem?_eq_some_iff.1 hh).1
  exact ⟨heap_alloc_new _ _, owns_of_heap ho (fun g hg => Below.heap_alloc _ _ _ (hlt g hg)), fun e => Nat.lt_irrefl _ (hlt _ e), (Below.refl _ _).alloc hb _⟩

set_option maxHeartbeats 1000000 in
theorem zza1 (base : Nat) (w : World) (L H p : Nat) (a : Option Addr) (n c : Nat) (f : Nat → Nat) (ho : w.ownsRow base 5 1 (.slice a n c) n (bl n f)) (hb : base ≤ w.heap.size) (hn : n ≤ 1048576) (hL : L < H) (hH : H < 4294967296) (hp : p ≤ 4095) :
    Calls Trym.prog 24 #[.int .u32 (L : Int), .int .u32 (H : Int), .slice a n c, .int .i64 1, .int .i64 (p : Int)] w fun e w' => Arith base w w' e n f L (L + PA.qq L H p) := by
  have HE : Hid _ := EC.new (L := L) (H := H) ho hb
  clear ho
  go_enter Trym.func24, Trym.ntmps24
  go_wp2_with fail
  refine (code1 base w _ w.heap.size L H p (.slice a n c) n f HE.out hb hn hL hH hp).mono ?_
  rintro e w1 ⟨rfl, k, v', hk, hT, hD, hE⟩
  have c0 : w1.cell? ⟨w.heap.size, 0, none⟩ = some (.int .u32 ((PA.sL L k : Nat) : Int)) := by rw [cell_of_row _ _ _ _ _ _ hE.at_]; rfl
  have c1 : w1.cell? ⟨w.heap.size, 1, none⟩ = some (.int .u32 ((PA.sH (L + PA.qq L H p) k : Nat) : Int)) := by rw [cell_of_row _ _ _ _ _ _ hE.at_]; rfl
  have c2 : w1.cell? ⟨w.heap.size, 2, none⟩ = some v' := by rw [cell_of_row _ _ _ _ _ _ hE.at_]; rfl
  have HX : Hid _ := (⟨hk, hT, hD, hE⟩ : _ ∧ _ ∧ _ ∧ _)
  clear hk hT hD hE HE
  go_wp2
  go_quiet (fail)
  go_wp2
  go_ret3
  exact ⟨k, v', HX.out.1, HX.out.2.1, HX.out.2.2.1, rfl, (EC.drewN HX.out.2.2.2 _).owns, (EC.drewN HX.out.2.2.2 _).below⟩

set_option maxHeartbeats 1000000 in
theorem zza0 (base : Nat) (w : World) (L H p : Nat) (a : Option Addr) (n c : Nat) (f : Nat → Nat) (ho : w.ownsRow base 5 1 (.slice a n c) n (bl n f)) (hb : base ≤ w.heap.size) (hn : n ≤ 1048576) (hL : L < H) (hH : H < 4294967296) (hp : p ≤ 4095) :
    Calls Trym.prog 24 #[.int .u32 (L : Int), .int .u32 (H : Int), .slice a n c, .int .i64 0, .int .i64 (p : Int)] w fun e w' => Arith base w w' e n f (L + PA.qq L H p + 1) H := by
  have HE : Hid _ := EC.new (L := L) (H := H) ho hb
  clear ho
  go_enter Trym.func24, Trym.ntmps24
  go_wp2_with fail
  refine (code0 base w _ w.heap.size L H p (.slice a n c) n f HE.out hb hn hL hH hp).mono ?_
  rintro e w1 ⟨rfl, k, v', hk, hT, hD, hE⟩
  have c0 : w1.cell? ⟨w.heap.size, 0, none⟩ = some (.int .u32 ((PA.sL (L + PA.qq L H p + 1) k : Nat) : Int)) := by rw [cell_of_row _ _ _ _ _ _ hE.at_]; rfl
  have c1 : w1.cell? ⟨w.heap.size, 1, none⟩ = some (.int .u32 ((PA.sH H k : Nat) : Int)) := by rw [cell_of_row _ _ _ _ _ _ hE.at_]; rfl
  have c2 : w1.cell? ⟨w.heap.size, 2, none⟩ = some v' := by rw [cell_of_row _ _ _ _ _ _ hE.at_]; rfl
  have HX : Hid _ := (⟨hk, hT, hD, hE⟩ : _ ∧ _ ∧ _ ∧ _)
  clear hk hT hD hE HE
  go_wp2
  go_quiet (fail)
  go_wp2
  go_ret3
  exact ⟨k, v', HX.out.1, HX.out.2.1, HX.out.2.2.1, rfl, (EC.drewN HX.out.2.2.2 _).owns, (EC.drewN HX.out.2.2.2 _).below⟩
end Go.Proofs.Qxb6001089aMods
