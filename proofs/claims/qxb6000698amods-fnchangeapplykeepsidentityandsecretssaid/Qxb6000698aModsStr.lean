import Derived.Test.Qxb6000698aModsRows
import Derived.WalkKit
import Derived.WalkSpells
import Derived.WalkLawsBesides
import Derived.Laws.CopyOwn
import Derived.BigQuiet
import Derived.Deep.QuietTactic
namespace Go.Proofs.Qxb6000698aMods
open Go.RowKit

/-- WHAT THE WALKS ARE TOLD OF A SLICE OF STRINGS: it has no element; or its cells hold the strings f 0, f 1, .. -/
def IsS (w : World) (a : Option Addr) (len cap : Nat) (f : Nat → ByteArray) : Prop :=
  len ≤ maxLen ∧ ((len = 0 ∧ (a = none → cap = 0)) ∨ (0 < len ∧ ∃ b off, a = some ⟨b, off, none⟩ ∧ ∀ i, i < len → w.cell? ⟨b, off + i, none⟩ = some (.string (f i)) ∧ (f i).size ≤ maxLen))

theorem IsS.below {w w' : World} {a : Option Addr} {len cap B : Nat} {f : Nat → ByteArray} (h : IsS w a len cap f) (hb : Below B w w') (hB : w.heap.size ≤ B) : IsS w' a len cap f := by
  refine ⟨h.1, ?_⟩
  rcases h.2 with h0 | ⟨hp, b, off, rfl, hc⟩
  · exact .inl h0
  · refine .inr ⟨hp, b, off, rfl, fun i hi => ⟨?_, (hc i hi).2⟩⟩
    have hl := World.block_lt_of_cell? w _ (hc i hi).1
    rw [← (hc i hi).1]
    exact hb.cell (p := ⟨b, off + i, none⟩) (Nat.lt_of_lt_of_le hl hB)
theorem IsS.cells {w w' : World} {a : Option Addr} {len cap : Nat} {f : Nat → ByteArray} (h : IsS w a len cap f) (hc : ∀ b off, 0 < len → a = some ⟨b, off, none⟩ → ∀ i, w'.cell? ⟨b, i, none⟩ = w.cell? ⟨b, i, none⟩) : IsS w' a len cap f := by
  refine ⟨h.1, ?_⟩
  rcases h.2 with h0 | ⟨hp, b, off, rfl, hcc⟩
  · exact .inl h0
  · exact .inr ⟨hp, b, off, rfl, fun i hi => ⟨by rw [hc b off hp rfl, (hcc i hi).1], (hcc i hi).2⟩⟩
theorem IsS.nil {w : World} {len cap : Nat} {f : Nat → ByteArray} (h : IsS w none len cap f) : len = 0 ∧ cap = 0 := by
  rcases h.2 with ⟨h0, h1⟩ | ⟨_, b, off, he, _⟩
  · exact ⟨h0, h1 rfl⟩
  · cases he

set_option maxHeartbeats 400000 in
theorem addCap_any (t n : Int) (w : World) : Calls Trym.prog 31 #[.int .i64 t, .int .i64 n] w fun e w' => (∃ m, e = .returned (.int .i64 m)) ∧ w' = w := by
  go_enter Trym.func31, Trym.ntmps31
  go_wp2
  all_goals
    go_ret
    exact ⟨⟨_, rfl⟩, rfl⟩

set_option maxHeartbeats 400000 in
theorem sizeStrings_any (t : Int) (a : Option Addr) (len cap : Nat) (f : Nat → ByteArray) (w : World) (h : IsS w a len cap f) :
    Calls Trym.prog 32 #[.int .i64 t, .slice a len cap] w fun e w' => (∃ m, e = .returned (.int .i64 m)) ∧ w' = w := by
  obtain ⟨hm, hc⟩ := h
  unfold maxLen at hm
  have HC : Hid _ := hc
  clear hc
  by_cases hbig : 65536 < len
  · go_enter Trym.func32, Trym.ntmps32
    go_wp2
    go_ret
    exact ⟨⟨_, rfl⟩, rfl⟩
  · go_enter Trym.func32, Trym.ntmps32
    go_wp2_with (go_at_call 31; refine (addCap_any _ _ _).mono ?_; rintro e w' ⟨⟨m, rfl⟩, rfl⟩)
    go_loop [0, 5] (fun t i => ∃ (m : Int) (k : Nat), k ≤ len ∧ t = .int .i64 m ∧ i = .int .i64 (k : Int)) (fun _ i => (len - intOf i).toNat)
    case atStart => exact ⟨_, 0, by omega, rfl, rfl⟩
    case round =>
      obtain ⟨m, k, hk, rfl, rfl⟩ := hrel
      by_cases hlt : k < len
      · rcases HC.out with ⟨h0, _⟩ | ⟨hp, b, off, rfl, hcell⟩
        · omega
        · have hck := (hcell k hlt).1
          clear hcell
          go_wp2_with (go_at_call 31; refine (addCap_any _ _ _).mono ?_; rintro e w' ⟨⟨m, rfl⟩, rfl⟩)
          · go_ret
            exact ⟨⟨_, rfl⟩, rfl⟩
          · go_round
            case rel => exact ⟨_, k + 1, by omega, rfl, by go_num⟩
            case measure => simp [intOf]; omega
      · go_wp2
        go_ret
        exact ⟨⟨_, rfl⟩, rfl⟩

theorem eqnil (w : World) (a : Option Addr) (n c : Nat) : (binOp .eql 22 (.slice a n c) (.slice none 0 0)).run Trym.prog w = .ok (.bool a.isNone) w := by
  have := Lib.run_eql_slice_nil (P := Trym.prog) w 22 9 a n c 0 0 Trym.underlying22
  simpa using this
theorem info9 : (Trym.prog.info? 9).map (fun i => (i.zero, i.size, i.bytes)) = some (some (.string ByteArray.empty), 1, 16) := by kernel_rfl
theorem size9 : (Trym.prog.info? 9).map (·.size) = some 1 := by kernel_rfl

def sc (len : Nat) (f : Nat → ByteArray) : List Value := (List.range len).map fun i => .string (f i)
theorem sc_length (len : Nat) (f : Nat → ByteArray) : (sc len f).length = len := by simp [sc]
theorem sc_one (len : Nat) (f : Nat → ByteArray) : ∀ v ∈ sc len f, v.oneCell' = true := by
  intro v hv
  simp only [sc, List.mem_map] at hv
  obtain ⟨n, _, rfl⟩ := hv
  rfl
theorem sc_get (len : Nat) (f : Nat → ByteArray) (j : Nat) (v : Value) (h : (sc len f)[j]? = some v) : j < len ∧ v = .string (f j) := by
  have hj : j < len := by have := (List.getElem?_eq_some_iff.1 h).1; rwa [sc_length] at this
  simp [sc, hj] at h
  exact ⟨hj, h.symm⟩

theorem make_S (len : Nat) (h : len ≤ 1048576) : ∃ Z : List Value, Z.length = len ∧ ∀ w : World,
    (Instr.makeSlice 22 (.int .i64 (len : Int)) (.int .i64 (len : Int))).run Trym.prog w = .ok (.slice (some ⟨w.heap.size, 0, none⟩) len len) (w.alloc (.cells Z.toArray 9)) := by
  obtain ⟨i0, hi, hz0, hz1, hz2⟩ := info_parts info9
  refine ⟨(madeCells (Value.string ByteArray.empty).cells (len * 1)).toList, by simp [size_madeCells], fun w => ?_⟩
  have := run_make (P := Trym.prog) w 22 9 i0 _ Trym.underlying22 hi hz0 .i64 .i64 (len : Int) (len : Int) (by omega) (by omega) (by rw [hz2]; omega) (by omega)
  rw [hz1] at this
  simpa using this

theorem splice_all (Z cs : List Value) (h : Z.length = cs.length) : splice Z 0 cs = cs := by
  simp [splice, ← h]

set_option maxHeartbeats 400000 in
theorem clone_any (a : Option Addr) (len cap : Nat) (f : Nat → ByteArray) (w : World) (h : IsS w a len cap f) (hl : len ≤ 1048576) :
    Calls Trym.prog 33 #[.slice a len cap] w fun e w' => (∃ a' cap', e = .returned (.slice a' len cap') ∧ IsS w' a' len cap' f ∧ (0 < len → ∃ b off, a' = some ⟨b, off, none⟩ ∧ w.heap.size ≤ b)) ∧ Below w.heap.size w w' := by
  have hnil := eqnil
  cases a with
  | none =>
    obtain ⟨rfl, rfl⟩ := h.nil
    go_enter Trym.func33, Trym.ntmps33
    go_wp2
    go_ret
    exact ⟨⟨none, 0, rfl, h, fun h => absurd h (by omega)⟩, Below.refl _ _⟩
  | some x =>
    have HH : Hid _ := h
    have hm : len ≤ maxLen := HH.out.1
    clear h
    unfold maxLen at hm
    obtain ⟨Z, hZ, hmk⟩ := make_S len hl
    have HZ : Hid _ := hZ
    clear hZ
    have hpos : 0 < (sc len f).length → (some (⟨w.heap.size, 0, none⟩ : Addr)) = some ⟨w.heap.size, 0, none⟩ ∧ ∃ ad, some x = some ad ∧ ∀ j v, (sc len f)[j]? = some v → (w.alloc (.cells Z.toArray 9)).cell? (ad.add j) = some v := by
      intro hp
      rw [sc_length] at hp
      refine ⟨rfl, x, rfl, fun j v hv => ?_⟩
      obtain ⟨hj, rfl⟩ := sc_get _ _ _ _ hv
      rcases HH.out.2 with ⟨h0, _⟩ | ⟨_, b, off, he, hc⟩
      · omega
      · cases he
        have := (hc j hj).1
        have hadd : (⟨b, off, none⟩ : Addr).add j = ⟨b, off + j, none⟩ := by unfold Addr.add; split <;> simp_all
        rw [hadd, World.cell?_alloc_past _ _ _ (World.block_lt_of_cell? w _ this)]
        exact this
    have HP : Hid _ := hpos
    clear hpos
    go_enter Trym.func33, Trym.ntmps33
    go_wp2_with (refine wpList_copy_splice rfl _ _ 22 22 rfl 9 Trym.underlying22 size9 _ _ _ _ _ _ rfl rfl w.heap.size 0 Z 9 (heap_alloc_new _ _) (sc len f) (by rw [sc_length]; simp) HP.out (by rw [sc_length, HZ.out]; omega) (sc_one _ _) w.heap.size w ((Below.refl _ _).alloc (Nat.le_refl _) _) (Nat.le_refl _) ?_; intro w1 hg1 hb1)
    go_ret
    rw [splice_all _ _ (by rw [sc_length, HZ.out])] at hg1
    refine ⟨⟨_, _, rfl, ?_, fun _ => ⟨w.heap.size, ⟨0, rfl⟩, Nat.le_refl _⟩⟩, hb1⟩
    refine ⟨HH.out.1, ?_⟩
    by_cases h0 : len = 0
    · exact .inl ⟨h0, fun h => by cases h⟩
    · refine .inr ⟨by omega, w.heap.size, 0, rfl, fun i hi => ⟨?_, ?_⟩⟩
      · rw [cell_of_row _ _ _ _ _ _ hg1.out]
        simp [sc, hi]
      · rcases HH.out.2 with ⟨h0, _⟩ | ⟨_, b, off, he, hc⟩
        · omega
        · exact (hc i hi).2
end Go.Proofs.Qxb6000698aMods
