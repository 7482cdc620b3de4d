import Derived.Test.Qxb6001089aModsByt
import Derived.ProofKit
import Derived.OpenShut
namespace Go.Proofs.Qxb6001089aMods
open Go.RowKit

/-- WHAT THE WALK IS TOLD OF A SLICE OF INTEGERS THAT CAME IN: it is nil; or it leads to a row of 'cap' cells, the numbers 'zs' (the first 'len' are its elements, the rest its spare room), each fitting its kind. -/
def IsRow (k : IntKind) (w : World) (a : Option Addr) (len cap : Nat) (zs : List Int) : Prop :=
  (a = none ∧ len = 0 ∧ cap = 0 ∧ zs = []) ∨
  ∃ x, a = some x ∧ len ≤ cap ∧ cap ≤ maxLen ∧ zs.length = cap ∧ (∀ i, i < zs.length → w.cell? (x.add i) = some (.int k (zs.getD i 0))) ∧ ∀ n ∈ zs, (Lit.int k n).wf = true

theorem IsRow.nums {k : IntKind} {M : Nat} (hk : ∀ n : Int, (Lit.int k n).wf = true → 0 ≤ n ∧ n < M) (hM : 0 < M) {w : World} {a : Option Addr} {len cap : Nat} {zs : List Int} (h : IsRow k w a len cap zs) : ∃ f : Nat → Nat, IsN k w a len cap f ∧ ∀ i, f i < M := by
  rcases h with ⟨rfl, rfl, rfl, rfl⟩ | ⟨x, rfl, hl, hm, hz, hc, hw⟩
  · exact ⟨fun _ => 0, ⟨by unfold maxLen; omega, .inl ⟨rfl, fun _ => rfl⟩⟩, fun _ => hM⟩
  · have hb : ∀ i, 0 ≤ zs.getD i 0 ∧ zs.getD i 0 < M := by
      intro i
      by_cases hi : i < zs.length
      · have := hk _ (hw zs[i] (List.getElem_mem hi))
        simpa [List.getD, hi] using this
      · simp [List.getD, List.getElem?_eq_none (by omega : zs.length ≤ i)]; omega
    refine ⟨fun i => (zs.getD i 0).toNat, ⟨by omega, ?_⟩, fun i => by have := hb i; show (zs.getD i 0).toNat < M; omega⟩
    by_cases h0 : len = 0
    · exact .inl ⟨h0, fun h => by cases h⟩
    · obtain ⟨b, off, spot⟩ := x
      have hc0 := hc 0 (by omega)
      have hspot : spot = none := by simpa [Addr.add] using World.cell?_spot hc0
      subst hspot
      refine .inr ⟨by omega, b, off, rfl, fun i hi => ?_⟩
      have hadd : (⟨b, off, none⟩ : Addr).add i = ⟨b, off + i, none⟩ := by unfold Addr.add; split <;> simp_all
      rw [← hadd, hc i (by omega)]
      have := hb i
      show _ = some (Value.int k ((zs.getD i 0).toNat : Int))
      rw [Int.toNat_of_nonneg this.1]
theorem IsRow.bytes {w : World} {a : Option Addr} {len cap : Nat} {zs : List Int} (h : IsRow .u8 w a len cap zs) : ∃ f : Nat → Nat, IsN .u8 w a len cap f ∧ ∀ i, f i < 256 :=
  h.nums (fun n hn => by have := bounds_u8 hn; omega) (by omega)
theorem IsRow.words {w : World} {a : Option Addr} {len cap : Nat} {zs : List Int} (h : IsRow .u32 w a len cap zs) : ∃ f : Nat → Nat, IsN .u32 w a len cap f ∧ ∀ i, f i < 4294967296 :=
  h.nums (fun n hn => by have := bounds_u32 hn; omega) (by omega)
end Go.Proofs.Qxb6001089aMods
