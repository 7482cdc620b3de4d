import Derived.Test.Qxb6000698aModsStr
import Derived.ProofKit
import Derived.OpenShut
import Derived.SliceStrings
import Derived.ChangeOld
import Derived.Below
namespace Go.Proofs.Qxb6000698aMods
open Go.ChangeShapes Go.WideShapes Go.ChangeAt Go.RowKit

theorem own : ownKnob Trym.prog.godebug = none := by kernel_rfl
theorem laidOut : laidOutB Trym.prog = true := by kernel_rfl
theorem cells24 : Trym.prog.cellsOf 24 = 12 := by kernel_rfl
theorem cells26 : Trym.prog.cellsOf 26 = 14 := by kernel_rfl
theorem cells4 : Trym.prog.cellsOf 4 = 1 := by kernel_rfl
theorem cells9 : Trym.prog.cellsOf 9 = 1 := by kernel_rfl
theorem cells22 : Trym.prog.cellsOf 22 = 1 := by kernel_rfl
theorem cells3 : Trym.prog.cellsOf 3 = 1 := by kernel_rfl
theorem cells2 : Trym.prog.cellsOf 2 = 1 := by kernel_rfl

theorem open_S {H : Type} {enc : TypeId × Value → H} {W : World} {b0 m : Nat} {spare : Nat → Bool} {held : Bool} {k : Value} {x : DataW H × List MemPlace}
    (h : DataW.trod enc Trym.prog W b0 spare held m 22 [k] = some x) : ∃ a len cap f, [k] = [Value.slice a len cap] ∧ IsS W a len cap f := by
  rcases open_strings Trym.underlying22 Trym.underlying9 cells9 h with ⟨hcs, _⟩ | ⟨a, len, cap, ss, hcs, _, hl, hm, hz, _, hcell, hws⟩
  · exact ⟨none, 0, 0, fun _ => ByteArray.empty, hcs, by simp [maxLen], .inl ⟨rfl, fun _ => rfl⟩⟩
  · refine ⟨some a, len, cap, fun i => ss.getD i ByteArray.empty, hcs, by omega, ?_⟩
    have hle : len ≤ ss.length := by rw [hz]; split <;> omega
    by_cases h0 : len = 0
    · exact .inl ⟨h0, fun h => by cases h⟩
    · obtain ⟨b, off, spot⟩ := a
      have hc0 := hcell 0 (by omega)
      have hspot : spot = none := by simpa [Addr.add] using World.cell?_spot hc0
      subst hspot
      refine .inr ⟨by omega, b, off, rfl, fun i hi => ⟨?_, ?_⟩⟩
      · have hadd : (⟨b, off, none⟩ : Addr).add i = ⟨b, off + i, none⟩ := by unfold Addr.add; split <;> simp_all
        rw [← hadd]; exact hcell i (by omega)
      · have hi' : i < ss.length := by omega
        have : ss.getD i ByteArray.empty = ss[i] := by simp [List.getD, hi']
        show (ss.getD i ByteArray.empty).size ≤ maxLen
        rw [this]; exact hws _ (List.getElem_mem hi')

theorem open24 {H : Type} {enc : TypeId × Value → H} {W : World} {base b0 : Nat} {spare : Nat → Bool} {held : Bool} {v : Value} {d : DataW H} {p : List MemPlace} (hv : Value.okWide Trym.prog W .any base 24 v)
    (h : DataW.Trod enc Trym.prog W b0 spare held 24 v d p) : ∃ (h0 h2 h4 h6 h8 h10 : Bool) (c1 c3 c11 : ByteArray) (c7 c9 : Int) (ca : Option Addr) (cl cc : Nat) (f : Nat → ByteArray), v = .agg #[.bool h0, .string c1, .bool h2, .string c3, .bool h4, .slice ca cl cc, .bool h6, .int .i64 c7, .bool h8, .int .i64 c9, .bool h10, .string c11] ∧ IsS W ca cl cc f := by
  obtain ⟨cs, rfl, hsz⟩ := okWide_struct Trym.underlying24 hv
  rw [cells24] at hsz
  obtain ⟨fuel, hf⟩ := h
  obtain ⟨xs, m, _, _, _, hl, hel⟩ := DataW.trod_struct Trym.underlying24 hf
  have hl' : xs.length = 12 := hl
  obtain ⟨l⟩ := cs
  match l, hsz with
  | [k0, k1, k2, k3, k4, k5, k6, k7, k8, k9, k10, k11], _ =>
    have t0 : DataW.trod enc Trym.prog W b0 spare held m 4 [k0] = some xs[0] := by
      rw [← List.getElem?_eq_getElem (by omega), ← hel 0 _ rfl]
      show _ = DataW.trod enc Trym.prog W b0 spare held m 4 (List.take (Trym.prog.cellsOf 4) _)
      rw [cells4]; rfl
    have t1 : DataW.trod enc Trym.prog W b0 spare held m 9 [k1] = some xs[1] := by
      rw [← List.getElem?_eq_getElem (by omega), ← hel 1 _ rfl]
      show _ = DataW.trod enc Trym.prog W b0 spare held m 9 (List.take (Trym.prog.cellsOf 9) _)
      rw [cells9]; rfl
    have t2 : DataW.trod enc Trym.prog W b0 spare held m 4 [k2] = some xs[2] := by
      rw [← List.getElem?_eq_getElem (by omega), ← hel 2 _ rfl]
      show _ = DataW.trod enc Trym.prog W b0 spare held m 4 (List.take (Trym.prog.cellsOf 4) _)
      rw [cells4]; rfl
    have t3 : DataW.trod enc Trym.prog W b0 spare held m 9 [k3] = some xs[3] := by
      rw [← List.getElem?_eq_getElem (by omega), ← hel 3 _ rfl]
      show _ = DataW.trod enc Trym.prog W b0 spare held m 9 (List.take (Trym.prog.cellsOf 9) _)
      rw [cells9]; rfl
    have t4 : DataW.trod enc Trym.prog W b0 spare held m 4 [k4] = some xs[4] := by
      rw [← List.getElem?_eq_getElem (by omega), ← hel 4 _ rfl]
      show _ = DataW.trod enc Trym.prog W b0 spare held m 4 (List.take (Trym.prog.cellsOf 4) _)
      rw [cells4]; rfl
    have t5 : DataW.trod enc Trym.prog W b0 spare held m 22 [k5] = some xs[5] := by
      rw [← List.getElem?_eq_getElem (by omega), ← hel 5 _ rfl]
      show _ = DataW.trod enc Trym.prog W b0 spare held m 22 (List.take (Trym.prog.cellsOf 22) _)
      rw [cells22]; rfl
    have t6 : DataW.trod enc Trym.prog W b0 spare held m 4 [k6] = some xs[6] := by
      rw [← List.getElem?_eq_getElem (by omega), ← hel 6 _ rfl]
      show _ = DataW.trod enc Trym.prog W b0 spare held m 4 (List.take (Trym.prog.cellsOf 4) _)
      rw [cells4]; rfl
    have t7 : DataW.trod enc Trym.prog W b0 spare held m 3 [k7] = some xs[7] := by
      rw [← List.getElem?_eq_getElem (by omega), ← hel 7 _ rfl]
      show _ = DataW.trod enc Trym.prog W b0 spare held m 3 (List.take (Trym.prog.cellsOf 3) _)
      rw [cells3]; rfl
    have t8 : DataW.trod enc Trym.prog W b0 spare held m 4 [k8] = some xs[8] := by
      rw [← List.getElem?_eq_getElem (by omega), ← hel 8 _ rfl]
      show _ = DataW.trod enc Trym.prog W b0 spare held m 4 (List.take (Trym.prog.cellsOf 4) _)
      rw [cells4]; rfl
    have t9 : DataW.trod enc Trym.prog W b0 spare held m 2 [k9] = some xs[9] := by
      rw [← List.getElem?_eq_getElem (by omega), ← hel 9 _ rfl]
      show _ = DataW.trod enc Trym.prog W b0 spare held m 2 (List.take (Trym.prog.cellsOf 2) _)
      rw [cells2]; rfl
    have t10 : DataW.trod enc Trym.prog W b0 spare held m 4 [k10] = some xs[10] := by
      rw [← List.getElem?_eq_getElem (by omega), ← hel 10 _ rfl]
      show _ = DataW.trod enc Trym.prog W b0 spare held m 4 (List.take (Trym.prog.cellsOf 4) _)
      rw [cells4]; rfl
    have t11 : DataW.trod enc Trym.prog W b0 spare held m 9 [k11] = some xs[11] := by
      rw [← List.getElem?_eq_getElem (by omega), ← hel 11 _ rfl]
      show _ = DataW.trod enc Trym.prog W b0 spare held m 9 (List.take (Trym.prog.cellsOf 9) _)
      rw [cells9]; rfl
    obtain ⟨h0, e0, _⟩ := DataW.trod_bool Trym.underlying4 t0
    obtain ⟨c1, e1, _, _⟩ := DataW.trod_string Trym.underlying9 t1
    obtain ⟨h2, e2, _⟩ := DataW.trod_bool Trym.underlying4 t2
    obtain ⟨c3, e3, _, _⟩ := DataW.trod_string Trym.underlying9 t3
    obtain ⟨h4, e4, _⟩ := DataW.trod_bool Trym.underlying4 t4
    obtain ⟨h6, e6, _⟩ := DataW.trod_bool Trym.underlying4 t6
    obtain ⟨c7, e7, _, _⟩ := DataW.trod_int Trym.underlying3 t7
    obtain ⟨h8, e8, _⟩ := DataW.trod_bool Trym.underlying4 t8
    obtain ⟨c9, e9, _, _⟩ := DataW.trod_int Trym.underlying2 t9
    obtain ⟨h10, e10, _⟩ := DataW.trod_bool Trym.underlying4 t10
    obtain ⟨c11, e11, _, _⟩ := DataW.trod_string Trym.underlying9 t11
    obtain ⟨ca, cl, cc, f, e5, hS⟩ := open_S t5
    simp only [List.cons.injEq, and_true] at e0 e1 e2 e3 e4 e5 e6 e7 e8 e9 e10 e11
    subst e0 e1 e2 e3 e4 e5 e6 e7 e8 e9 e10 e11
    exact ⟨h0, h2, h4, h6, h8, h10, c1, c3, c11, c7, c9, ca, cl, cc, f, rfl, hS⟩

theorem open26 {H : Type} {enc : TypeId × Value → H} {W : World} {base b0 : Nat} {spare : Nat → Bool} {held : Bool} {v : Value} {d : DataW H} {p : List MemPlace} (hv : Value.okWide Trym.prog W .any base 26 v)
    (h : DataW.Trod enc Trym.prog W b0 spare held 26 v d p) : ∃ (s0 s1 s2 s7 s9 s12 s13 : ByteArray) (i4 i5 i6 i8 i10 i11 : Int) (ka : Option Addr) (kl kc : Nat) (f : Nat → ByteArray), v = .agg #[.string s0, .string s1, .string s2, .slice ka kl kc, .int .i64 i4, .int .i64 i5, .int .i64 i6, .string s7, .int .i64 i8, .string s9, .int .i64 i10, .int .i64 i11, .string s12, .string s13] ∧ IsS W ka kl kc f := by
  obtain ⟨cs, rfl, hsz⟩ := okWide_struct Trym.underlying26 hv
  rw [cells26] at hsz
  obtain ⟨fuel, hf⟩ := h
  obtain ⟨xs, m, _, _, _, hl, hel⟩ := DataW.trod_struct Trym.underlying26 hf
  have hl' : xs.length = 14 := hl
  obtain ⟨l⟩ := cs
  match l, hsz with
  | [k0, k1, k2, k3, k4, k5, k6, k7, k8, k9, k10, k11, k12, k13], _ =>
    have t0 : DataW.trod enc Trym.prog W b0 spare held m 9 [k0] = some xs[0] := by
      rw [← List.getElem?_eq_getElem (by omega), ← hel 0 _ rfl]
      show _ = DataW.trod enc Trym.prog W b0 spare held m 9 (List.take (Trym.prog.cellsOf 9) _)
      rw [cells9]; rfl
    have t1 : DataW.trod enc Trym.prog W b0 spare held m 9 [k1] = some xs[1] := by
      rw [← List.getElem?_eq_getElem (by omega), ← hel 1 _ rfl]
      show _ = DataW.trod enc Trym.prog W b0 spare held m 9 (List.take (Trym.prog.cellsOf 9) _)
      rw [cells9]; rfl
    have t2 : DataW.trod enc Trym.prog W b0 spare held m 9 [k2] = some xs[2] := by
      rw [← List.getElem?_eq_getElem (by omega), ← hel 2 _ rfl]
      show _ = DataW.trod enc Trym.prog W b0 spare held m 9 (List.take (Trym.prog.cellsOf 9) _)
      rw [cells9]; rfl
    have t3 : DataW.trod enc Trym.prog W b0 spare held m 22 [k3] = some xs[3] := by
      rw [← List.getElem?_eq_getElem (by omega), ← hel 3 _ rfl]
      show _ = DataW.trod enc Trym.prog W b0 spare held m 22 (List.take (Trym.prog.cellsOf 22) _)
      rw [cells22]; rfl
    have t4 : DataW.trod enc Trym.prog W b0 spare held m 3 [k4] = some xs[4] := by
      rw [← List.getElem?_eq_getElem (by omega), ← hel 4 _ rfl]
      show _ = DataW.trod enc Trym.prog W b0 spare held m 3 (List.take (Trym.prog.cellsOf 3) _)
      rw [cells3]; rfl
    have t5 : DataW.trod enc Trym.prog W b0 spare held m 2 [k5] = some xs[5] := by
      rw [← List.getElem?_eq_getElem (by omega), ← hel 5 _ rfl]
      show _ = DataW.trod enc Trym.prog W b0 spare held m 2 (List.take (Trym.prog.cellsOf 2) _)
      rw [cells2]; rfl
    have t6 : DataW.trod enc Trym.prog W b0 spare held m 2 [k6] = some xs[6] := by
      rw [← List.getElem?_eq_getElem (by omega), ← hel 6 _ rfl]
      show _ = DataW.trod enc Trym.prog W b0 spare held m 2 (List.take (Trym.prog.cellsOf 2) _)
      rw [cells2]; rfl
    have t7 : DataW.trod enc Trym.prog W b0 spare held m 9 [k7] = some xs[7] := by
      rw [← List.getElem?_eq_getElem (by omega), ← hel 7 _ rfl]
      show _ = DataW.trod enc Trym.prog W b0 spare held m 9 (List.take (Trym.prog.cellsOf 9) _)
      rw [cells9]; rfl
    have t8 : DataW.trod enc Trym.prog W b0 spare held m 2 [k8] = some xs[8] := by
      rw [← List.getElem?_eq_getElem (by omega), ← hel 8 _ rfl]
      show _ = DataW.trod enc Trym.prog W b0 spare held m 2 (List.take (Trym.prog.cellsOf 2) _)
      rw [cells2]; rfl
    have t9 : DataW.trod enc Trym.prog W b0 spare held m 9 [k9] = some xs[9] := by
      rw [← List.getElem?_eq_getElem (by omega), ← hel 9 _ rfl]
      show _ = DataW.trod enc Trym.prog W b0 spare held m 9 (List.take (Trym.prog.cellsOf 9) _)
      rw [cells9]; rfl
    have t10 : DataW.trod enc Trym.prog W b0 spare held m 2 [k10] = some xs[10] := by
      rw [← List.getElem?_eq_getElem (by omega), ← hel 10 _ rfl]
      show _ = DataW.trod enc Trym.prog W b0 spare held m 2 (List.take (Trym.prog.cellsOf 2) _)
      rw [cells2]; rfl
    have t11 : DataW.trod enc Trym.prog W b0 spare held m 2 [k11] = some xs[11] := by
      rw [← List.getElem?_eq_getElem (by omega), ← hel 11 _ rfl]
      show _ = DataW.trod enc Trym.prog W b0 spare held m 2 (List.take (Trym.prog.cellsOf 2) _)
      rw [cells2]; rfl
    have t12 : DataW.trod enc Trym.prog W b0 spare held m 9 [k12] = some xs[12] := by
      rw [← List.getElem?_eq_getElem (by omega), ← hel 12 _ rfl]
      show _ = DataW.trod enc Trym.prog W b0 spare held m 9 (List.take (Trym.prog.cellsOf 9) _)
      rw [cells9]; rfl
    have t13 : DataW.trod enc Trym.prog W b0 spare held m 9 [k13] = some xs[13] := by
      rw [← List.getElem?_eq_getElem (by omega), ← hel 13 _ rfl]
      show _ = DataW.trod enc Trym.prog W b0 spare held m 9 (List.take (Trym.prog.cellsOf 9) _)
      rw [cells9]; rfl
    obtain ⟨s0, e0, _, _⟩ := DataW.trod_string Trym.underlying9 t0
    obtain ⟨s1, e1, _, _⟩ := DataW.trod_string Trym.underlying9 t1
    obtain ⟨s2, e2, _, _⟩ := DataW.trod_string Trym.underlying9 t2
    obtain ⟨i4, e4, _, _⟩ := DataW.trod_int Trym.underlying3 t4
    obtain ⟨i5, e5, _, _⟩ := DataW.trod_int Trym.underlying2 t5
    obtain ⟨i6, e6, _, _⟩ := DataW.trod_int Trym.underlying2 t6
    obtain ⟨s7, e7, _, _⟩ := DataW.trod_string Trym.underlying9 t7
    obtain ⟨i8, e8, _, _⟩ := DataW.trod_int Trym.underlying2 t8
    obtain ⟨s9, e9, _, _⟩ := DataW.trod_string Trym.underlying9 t9
    obtain ⟨i10, e10, _, _⟩ := DataW.trod_int Trym.underlying2 t10
    obtain ⟨i11, e11, _, _⟩ := DataW.trod_int Trym.underlying2 t11
    obtain ⟨s12, e12, _, _⟩ := DataW.trod_string Trym.underlying9 t12
    obtain ⟨s13, e13, _, _⟩ := DataW.trod_string Trym.underlying9 t13
    obtain ⟨ka, kl, kc, f, e3, hS⟩ := open_S t3
    simp only [List.cons.injEq, and_true] at e0 e1 e2 e3 e4 e5 e6 e7 e8 e9 e10 e11 e12 e13
    subst e0 e1 e2 e3 e4 e5 e6 e7 e8 e9 e10 e11 e12 e13
    exact ⟨s0, s1, s2, s7, s9, s12, s13, i4, i5, i6, i8, i10, i11, ka, kl, kc, f, rfl, hS⟩
end Go.Proofs.Qxb6000698aMods
