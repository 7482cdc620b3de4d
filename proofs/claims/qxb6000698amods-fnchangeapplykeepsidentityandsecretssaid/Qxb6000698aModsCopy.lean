import Derived.Test.Qxb6000698aModsKey
namespace Go.Proofs.Qxb6000698aMods
open Go.RowKit

/-- a slice of strings whose cells lie in block n or later -/
def FrS (n : Nat) (w : World) (a : Option Addr) (len cap : Nat) (f : Nat → ByteArray) : Prop :=
  IsS w a len cap f ∧ (0 < len → ∃ b off, a = some ⟨b, off, none⟩ ∧ n ≤ b)
theorem cell_of_heap {w w' : World} {b : Nat} (h : w'.heap[b]? = w.heap[b]?) (i : Nat) : w'.cell? ⟨b, i, none⟩ = w.cell? ⟨b, i, none⟩ := by
  simp [World.cell?, h]
theorem FrS.step {n m : Nat} {w w' : World} {a : Option Addr} {len cap : Nat} {f : Nat → ByteArray} (h : FrS n w a len cap f) (hm : m ≤ n) (hc : ∀ b, n ≤ b → b < w.heap.size → w'.heap[b]? = w.heap[b]?) : FrS m w' a len cap f := by
  refine ⟨⟨h.1.1, ?_⟩, fun hp => ?_⟩
  · rcases h.1.2 with h0 | ⟨hp, b, off, rfl, hcc⟩
    · exact .inl h0
    · obtain ⟨b', off', he, hn⟩ := h.2 hp
      cases he
      refine .inr ⟨hp, b, off, rfl, fun i hi => ⟨?_, (hcc i hi).2⟩⟩
      have := World.block_lt_of_cell? w _ (hcc i hi).1
      rw [cell_of_heap (hc b hn this), (hcc i hi).1]
  · obtain ⟨b', off', he, hn⟩ := h.2 hp
    exact ⟨b', off', he, by omega⟩

set_option maxHeartbeats 400000 in
theorem copyKey_any (s0 s1 s2 s7 s9 s12 s13 : ByteArray) (i4 i5 i6 i8 i10 i11 : Int) (ka : Option Addr) (kl kc : Nat) (f : Nat → ByteArray) (w : World) (h : IsS w ka kl kc f) (hl : kl ≤ 1048576) :
    Calls Trym.prog 15 #[.agg #[.string s0, .string s1, .string s2, .slice ka kl kc, .int .i64 i4, .int .i64 i5, .int .i64 i6, .string s7, .int .i64 i8, .string s9, .int .i64 i10, .int .i64 i11, .string s12, .string s13]] w fun e w' => (∃ a' c', e = .returned (.agg #[.string s0, .string s1, .string s2, .slice a' kl c', .int .i64 i4, .int .i64 i5, .int .i64 i6, .string s7, .int .i64 i8, .string s9, .int .i64 i10, .int .i64 i11, .string s12, .string s13]) ∧ FrS w.heap.size w' a' kl c' f) ∧ Below w.heap.size w w' := by
  have HH : Hid (∀ o1 o2, IsS ((w.alloc o1).alloc o2) ka kl kc f) := fun o1 o2 => h.below (((Below.refl _ _).alloc (Nat.le_refl _) o1).alloc (by simp) o2) (Nat.le_refl _)
  have HL : Hid _ := hl
  clear h hl
  go_enter Trym.func15, Trym.ntmps15
  go_wp2_with fail
  refine (clone_any _ _ _ f _ (HH.out _ _) HL.out).mono ?_
  rintro e w1 ⟨⟨a', c', rfl, hs, hnew⟩, hb⟩
  have HS : Hid _ := hs
  have HN : Hid _ := hnew
  clear hs hnew
  have g0 : w1.heap[w.heap.size]? = some (.cells #[.string s0, .string s1, .string s2, .slice ka kl kc, .int .i64 i4, .int .i64 i5, .int .i64 i6, .string s7, .int .i64 i8, .string s9, .int .i64 i10, .int .i64 i11, .string s12, .string s13] 26) := (hb.block _ (by simp; omega)).trans (heap_alloc2_old _ _ _)
  have g1 := (hb.block (w.heap.size + 1) (by simp)).trans (heap_alloc2_new _ _ _)
  have hz : w.heap.size + 1 < w1.heap.size := by have := hb.size; simp at this; omega
  have HB : Below w.heap.size w w1 := (((Below.refl _ _).alloc (Nat.le_refl _) _).alloc (by simp) _).trans (hb.mono (by simp; omega))
  have hc : w1.cell? ⟨w.heap.size, 3, none⟩ = some (.slice ka kl kc) := by rw [cell_of_row _ _ _ _ _ _ g0]; rfl
  have hf : w1.frozen? ⟨w.heap.size, 3, none⟩ = false := frozen_of_row _ _ _ _ _ g0
  have g2 := heap_setCell_same w1 w.heap.size 3 _ 26 (.slice a' kl c') g0
  have g3 := (heap_setCell_other w1 ⟨w.heap.size, 3, none⟩ (w.heap.size + 1) (.slice a' kl c') (by simp)).trans g1
  have G0 : Hid _ := g0
  have G1 : Hid _ := g1
  have G2 : Hid _ := g2
  have G3 : Hid _ := g3
  have H1 : Hid ((#[.string s0, .string s1, .string s2, .slice a' kl c', .int .i64 i4, .int .i64 i5, .int .i64 i6, .string s7, .int .i64 i8, .string s9, .int .i64 i10, .int .i64 i11, .string s12, .string s13] : Array Value).all (·.oneCell') = true) := by show _ = _; simp [Value.oneCell']
  clear hb g0 g1 g2 g3
  go_wp2_with (first
    | (refine wpList_load_row rfl 26 _ rfl _ rfl 26 #[.string s0, .string s1, .string s2, .slice a' kl c', .int .i64 i4, .int .i64 i5, .int .i64 i6, .string s7, .int .i64 i8, .string s9, .int .i64 i10, .int .i64 i11, .string s12, .string s13] (0, 0) _ G2.out Trym.underlying26 rfl size26 ?_)
    | (refine wpList_store_row rfl 26 _ _ rfl (w.heap.size + 1) _ rfl rfl 26 _ G3.out size26 rfl H1.out ?_))
  have G4 := setRow_heap (w1.setCell ⟨w.heap.size, 3, none⟩ (.slice a' kl c')) (w.heap.size + 1) _ #[.string s0, .string s1, .string s2, .slice a' kl c', .int .i64 i4, .int .i64 i5, .int .i64 i6, .string s7, .int .i64 i8, .string s9, .int .i64 i10, .int .i64 i11, .string s12, .string s13] 26 _ G3.out
  refine bodyPost_ret (results_cell_row (p := 2) (ty := 26) rfl _ _ (w.heap.size + 1) 26 #[.string s0, .string s1, .string s2, .slice a' kl c', .int .i64 i4, .int .i64 i5, .int .i64 i6, .string s7, .int .i64 i8, .string s9, .int .i64 i10, .int .i64 i11, .string s12, .string s13] (0, 0) _ rfl G4 Trym.underlying26 rfl size26) rfl ⟨⟨a', c', rfl, ?_⟩, below_setRow (HB.setCell (by simp) _) (by omega) _⟩
  refine ⟨?_, fun hp => (by obtain ⟨b, off, ho, hn⟩ := HN.out hp; exact ⟨b, off, ho, by simp at hn; omega⟩)⟩
  refine IsS.cells (w := w1) (a := a') (len := kl) (cap := c') (f := f) HS.out fun b off hp ha i => ?_
  obtain ⟨b', off', hb', hle⟩ := HN.out hp
  have hbb : b' = b := by rw [ha] at hb'; cases hb'; rfl
  subst hbb
  have hle2 : w.heap.size + 1 + 1 ≤ b' := by simpa using hle
  refine cell_of_heap ?_ i
  rw [setRow_other _ _ _ _ (by omega), heap_setCell_other _ _ _ _ (by simp; omega)]

set_option maxHeartbeats 400000 in
theorem copyChange_any (h0 h2 h4 h6 h8 h10 : Bool) (c1 c3 c11 : ByteArray) (c7 c9 : Int) (ca : Option Addr) (cl cc : Nat) (f : Nat → ByteArray) (w : World) (h : IsS w ca cl cc f) (hl : cl ≤ 1048576) :
    Calls Trym.prog 14 #[.agg #[.bool h0, .string c1, .bool h2, .string c3, .bool h4, .slice ca cl cc, .bool h6, .int .i64 c7, .bool h8, .int .i64 c9, .bool h10, .string c11]] w fun e w' => (∃ a' c', e = .returned (.agg #[.bool h0, .string c1, .bool h2, .string c3, .bool h4, .slice a' cl c', .bool h6, .int .i64 c7, .bool h8, .int .i64 c9, .bool h10, .string c11]) ∧ FrS w.heap.size w' a' cl c' f) ∧ Below w.heap.size w w' := by
  have HH : Hid (∀ o1 o2, IsS ((w.alloc o1).alloc o2) ca cl cc f) := fun o1 o2 => h.below (((Below.refl _ _).alloc (Nat.le_refl _) o1).alloc (by simp) o2) (Nat.le_refl _)
  have HL : Hid _ := hl
  clear h hl
  go_enter Trym.func14, Trym.ntmps14
  go_wp2_with fail
  refine (clone_any _ _ _ f _ (HH.out _ _) HL.out).mono ?_
  rintro e w1 ⟨⟨a', c', rfl, hs, hnew⟩, hb⟩
  have HS : Hid _ := hs
  have HN : Hid _ := hnew
  clear hs hnew
  have g0 : w1.heap[w.heap.size]? = some (.cells #[.bool h0, .string c1, .bool h2, .string c3, .bool h4, .slice ca cl cc, .bool h6, .int .i64 c7, .bool h8, .int .i64 c9, .bool h10, .string c11] 24) := (hb.block _ (by simp; omega)).trans (heap_alloc2_old _ _ _)
  have g1 := (hb.block (w.heap.size + 1) (by simp)).trans (heap_alloc2_new _ _ _)
  have hz : w.heap.size + 1 < w1.heap.size := by have := hb.size; simp at this; omega
  have HB : Below w.heap.size w w1 := (((Below.refl _ _).alloc (Nat.le_refl _) _).alloc (by simp) _).trans (hb.mono (by simp; omega))
  have hc : w1.cell? ⟨w.heap.size, 5, none⟩ = some (.slice ca cl cc) := by rw [cell_of_row _ _ _ _ _ _ g0]; rfl
  have hf : w1.frozen? ⟨w.heap.size, 5, none⟩ = false := frozen_of_row _ _ _ _ _ g0
  have g2 := heap_setCell_same w1 w.heap.size 5 _ 24 (.slice a' cl c') g0
  have g3 := (heap_setCell_other w1 ⟨w.heap.size, 5, none⟩ (w.heap.size + 1) (.slice a' cl c') (by simp)).trans g1
  have G0 : Hid _ := g0
  have G1 : Hid _ := g1
  have G2 : Hid _ := g2
  have G3 : Hid _ := g3
  have H1 : Hid ((#[.bool h0, .string c1, .bool h2, .string c3, .bool h4, .slice a' cl c', .bool h6, .int .i64 c7, .bool h8, .int .i64 c9, .bool h10, .string c11] : Array Value).all (·.oneCell') = true) := by show _ = _; simp [Value.oneCell']
  clear hb g0 g1 g2 g3
  go_wp2_with (first
    | (refine wpList_load_row rfl 24 _ rfl _ rfl 24 #[.bool h0, .string c1, .bool h2, .string c3, .bool h4, .slice a' cl c', .bool h6, .int .i64 c7, .bool h8, .int .i64 c9, .bool h10, .string c11] (0, 0) _ G2.out Trym.underlying24 rfl size24 ?_)
    | (refine wpList_store_row rfl 24 _ _ rfl (w.heap.size + 1) _ rfl rfl 24 _ G3.out size24 rfl H1.out ?_))
  have G4 := setRow_heap (w1.setCell ⟨w.heap.size, 5, none⟩ (.slice a' cl c')) (w.heap.size + 1) _ #[.bool h0, .string c1, .bool h2, .string c3, .bool h4, .slice a' cl c', .bool h6, .int .i64 c7, .bool h8, .int .i64 c9, .bool h10, .string c11] 24 _ G3.out
  refine bodyPost_ret (results_cell_row (p := 2) (ty := 24) rfl _ _ (w.heap.size + 1) 24 #[.bool h0, .string c1, .bool h2, .string c3, .bool h4, .slice a' cl c', .bool h6, .int .i64 c7, .bool h8, .int .i64 c9, .bool h10, .string c11] (0, 0) _ rfl G4 Trym.underlying24 rfl size24) rfl ⟨⟨a', c', rfl, ?_⟩, below_setRow (HB.setCell (by simp) _) (by omega) _⟩
  refine ⟨?_, fun hp => (by obtain ⟨b, off, ho, hn⟩ := HN.out hp; exact ⟨b, off, ho, by simp at hn; omega⟩)⟩
  refine IsS.cells (w := w1) (a := a') (len := cl) (cap := c') (f := f) HS.out fun b off hp ha i => ?_
  obtain ⟨b', off', hb', hle⟩ := HN.out hp
  have hbb : b' = b := by rw [ha] at hb'; cases hb'; rfl
  subst hbb
  have hle2 : w.heap.size + 1 + 1 ≤ b' := by simpa using hle
  refine cell_of_heap ?_ i
  rw [setRow_other _ _ _ _ (by omega), heap_setCell_other _ _ _ _ (by simp; omega)]

end Go.Proofs.Qxb6000698aMods
