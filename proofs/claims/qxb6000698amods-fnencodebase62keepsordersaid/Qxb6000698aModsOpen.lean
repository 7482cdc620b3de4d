import Derived.Test.Qxb6000698aModsEnc
import Derived.ProofKit
import Derived.OpenShut
import Derived.ChangeOld
import Derived.Below
namespace Go.Proofs.Qxb6000698aMods
open Go.ChangeShapes Go.WideShapes Go.ChangeAt Go.RowKit

theorem own : ownKnob Trym.prog.godebug = none := by kernel_rfl
theorem laidOut : laidOutB Trym.prog = true := by kernel_rfl
theorem cells52 : Trym.prog.cellsOf 52 = 32 := by kernel_rfl
theorem cells5 : Trym.prog.cellsOf 5 = 1 := by kernel_rfl

/-- a list of 32 byte cells is the 32 bytes of a number -/
theorem bytes_of_cells (cs : Array Value) (hs : cs.size = 32) (h : ∀ i, i < 32 → ∃ n : Int, 0 ≤ n ∧ n ≤ 255 ∧ cs[i]? = some (.int .u8 n)) : ∃ A, A < 256 ^ 32 ∧ cs = bc (B62.byts A) := by
  have hl : (cs.toList.map fun v => (intOf v).toNat).length = 32 := by simp [hs]
  have hb : ∀ x ∈ cs.toList.map (fun v => (intOf v).toNat), x < 256 := by
    intro x hx
    simp only [List.mem_map, Array.mem_toList_iff] at hx
    obtain ⟨v, hv, rfl⟩ := hx
    obtain ⟨i, hi, rfl⟩ := Array.mem_iff_getElem.1 hv
    obtain ⟨n, h0, h1, he⟩ := h i (by omega)
    rw [Array.getElem?_eq_getElem hi] at he
    rw [Option.some.inj he]
    simp [intOf]; omega
  refine ⟨B62.val (cs.toList.map fun v => (intOf v).toNat), B62.val_lt32 _ hb hl, ?_⟩
  rw [B62.byts_val _ hb hl]
  apply Array.ext_getElem?
  intro i
  by_cases hi : i < 32
  · obtain ⟨n, h0, h1, he⟩ := h i hi
    rw [bc_get _ _ (by rw [hl]; exact hi), he]
    have hi' : i < cs.size := by omega
    rw [Array.getElem?_eq_getElem hi'] at he
    simp only [List.getD, List.getElem?_map, Array.getElem?_toList, Array.getElem?_eq_getElem hi', Option.some.inj he, Option.map_some, Option.getD_some, intOf]
    congr 2; omega
  · rw [Array.getElem?_eq_none (by omega), Array.getElem?_eq_none (by rw [bc_size, hl]; omega)]

theorem open52 {H : Type} {enc : TypeId × Value → H} {W : World} {base b0 : Nat} {spare : Nat → Bool} {held : Bool} {v : Value} {d : DataW H} {p : List MemPlace} (hv : Value.okWide Trym.prog W .any base 52 v)
    (h : DataW.Trod enc Trym.prog W b0 spare held 52 v d p) : ∃ A, A < 256 ^ 32 ∧ v = .agg (bc (B62.byts A)) := by
  obtain ⟨cs, rfl, hsz, _⟩ : ∃ cs, v = .agg cs ∧ cs.size = Trym.prog.cellsOf 52 ∧ Row.okWide Trym.prog W .any base 52 cs := by
    simpa [Value.okWide, Trym.underlying52] using hv
  rw [cells52] at hsz
  obtain ⟨fuel, hf⟩ := h
  obtain ⟨xs, m, _, _, _, hl, hel⟩ := DataW.trod_array Trym.underlying52 hf
  obtain ⟨A, hA, rfl⟩ := bytes_of_cells cs hsz (fun i hi => by
    have he := hel i hi
    rw [cells5, List.getElem?_eq_getElem (by omega)] at he
    obtain ⟨n, e, _, wn⟩ := DataW.trod_int Trym.underlying5 he
    have hb := bounds_u8 wn
    refine ⟨n, hb.1, hb.2, ?_⟩
    have hi' : i < cs.size := by omega
    have e2 : List.take 1 (List.drop (i * 1) cs.toList) = [cs[i]] := by
      rw [Nat.mul_one, List.drop_eq_getElem_cons (by simpa using hi')]; simp
    simp only [Value.cells] at e
    rw [e2] at e
    rw [Array.getElem?_eq_getElem hi', (List.cons.inj e).1])
  exact ⟨A, hA, rfl⟩
end Go.Proofs.Qxb6000698aMods
