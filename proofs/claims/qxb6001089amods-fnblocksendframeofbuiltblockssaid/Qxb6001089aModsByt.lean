import Derived.Test.Qxb6001089aModsRows
import Derived.Test.Qxb6001089aModsPlainB
import Derived.WalkKit
import Derived.WalkSpells
import Derived.WalkLawsBesides
import Derived.BigQuiet
import Derived.Deep.QuietTactic
import Derived.Lib.EndianBits
namespace Go.Proofs.Qxb6001089aMods
open Go.RowKit

/-- WHAT THE WALKS ARE TOLD OF A SLICE OF UNSIGNED NUMBERS: it has no element; or its cells hold the numbers f 0, f 1, .. -/
def IsN (k : IntKind) (w : World) (a : Option Addr) (len cap : Nat) (f : Nat → Nat) : Prop :=
  len ≤ maxLen ∧ ((len = 0 ∧ (a = none → cap = 0)) ∨ (0 < len ∧ ∃ b off, a = some ⟨b, off, none⟩ ∧ ∀ i, i < len → w.cell? ⟨b, off + i, none⟩ = some (.int k (f i : Int))))
theorem IsN.below {k : IntKind} {w w' : World} {a : Option Addr} {len cap B : Nat} {f : Nat → Nat} (h : IsN k w a len cap f) (hb : Below B w w') (hB : w.heap.size ≤ B) : IsN k w' a len cap f := by
  refine ⟨h.1, ?_⟩
  rcases h.2 with h0 | ⟨hp, b, off, rfl, hc⟩
  · exact .inl h0
  · refine .inr ⟨hp, b, off, rfl, fun i hi => ?_⟩
    have hl := World.block_lt_of_cell? w _ (hc i hi)
    rw [← hc i hi]
    exact hb.cell (p := ⟨b, off + i, none⟩) (Nat.lt_of_lt_of_le hl hB)
theorem IsN.nil {k : IntKind} {w : World} {len cap : Nat} {f : Nat → Nat} (h : IsN k w none len cap f) : len = 0 ∧ cap = 0 := by
  rcases h.2 with ⟨h0, h1⟩ | ⟨_, b, off, he, _⟩
  · exact ⟨h0, h1 rfl⟩
  · cases he

/-- a row of numbers, as cells -/
def nc (k : IntKind) (len : Nat) (f : Nat → Nat) : Array Value := ((List.range len).map fun p => Value.int k (f p : Int)).toArray
theorem nc_get (k : IntKind) (len : Nat) (f : Nat → Nat) (j : Nat) (h : j < len) : (nc k len f)[j]? = some (.int k (f j : Int)) := by simp [nc, h]
theorem nc_size (k : IntKind) (len : Nat) (f : Nat → Nat) : (nc k len f).size = len := by simp [nc]
theorem nc_set (k : IntKind) (len : Nat) (f g : Nat → Nat) (j x : Nat) (h : ∀ p, p < len → p ≠ j → f p = g p) (hx : x = g j) : (nc k len f).setIfInBounds j (.int k (x : Int)) = nc k len g := by
  apply Array.ext_getElem?
  intro p
  rw [Array.getElem?_setIfInBounds, nc_size]
  by_cases hp : p < len
  · rw [nc_get _ _ g p hp]
    by_cases hj : j = p
    · subst hj; simp [hp, hx]
    · rw [if_neg hj, nc_get _ _ f p hp, h p hp (by omega)]
  · rw [Array.getElem?_eq_none (by rw [nc_size]; omega), Array.getElem?_eq_none (by rw [nc_size]; omega)]
    by_cases hj : j = p
    · subst hj; simp [hp]
    · simp [hj]
/-- the first t copied -/
def cpy (f : Nat → Nat) (t p : Nat) : Nat := if p < t then f p else 0
theorem nc_cpy (k : IntKind) (len : Nat) (f : Nat → Nat) (t : Nat) : (nc k len (cpy f t)).setIfInBounds t (.int k (f t : Int)) = nc k len (cpy f (t + 1)) := by
  refine nc_set k len _ _ t _ (fun p _ hp => ?_) (by simp [cpy])
  unfold cpy
  by_cases h : p < t
  · rw [if_pos h, if_pos (by omega)]
  · rw [if_neg h, if_neg (by omega)]
theorem nc_cpy_all (k : IntKind) (len : Nat) (f : Nat → Nat) : nc k len (cpy f len) = nc k len f := by
  unfold nc
  congr 1
  apply List.map_congr_left
  intro p hp
  simp only [List.mem_range] at hp
  simp [cpy, hp]
theorem made_zeros (k : IntKind) (len : Nat) (f : Nat → Nat) : madeCells (Value.int k 0).cells (len * 1) = nc k len (cpy f 0) := by
  apply Array.ext_getElem?
  intro p
  by_cases hp : p < len
  · rw [nc_get _ _ _ p hp, Array.getElem?_eq_getElem (by rw [size_madeCells]; omega)]
    simp [madeCells, cpy, Value.cells, Nat.mod_one]
  · rw [Array.getElem?_eq_none (by rw [size_madeCells]; omega), Array.getElem?_eq_none (by rw [nc_size]; omega)]

theorem info5 : (Trym.prog.info? 5).map (fun i => (i.zero, i.size, i.bytes)) = some (some (.int .u8 0), 1, 1) := by kernel_rfl
theorem info30 : (Trym.prog.info? 30).map (fun i => (i.zero, i.size, i.bytes)) = some (some (.int .u32 0), 1, 4) := by kernel_rfl
theorem eqnil24 (w : World) (a : Option Addr) (n c : Nat) : (binOp .eql 24 (.slice a n c) (.slice none 0 0)).run Trym.prog w = .ok (.bool a.isNone) w := by
  have := Lib.run_eql_slice_nil (P := Trym.prog) w 24 5 a n c 0 0 Trym.underlying24
  simpa using this
theorem eqnil25 (w : World) (a : Option Addr) (n c : Nat) : (binOp .eql 25 (.slice a n c) (.slice none 0 0)).run Trym.prog w = .ok (.bool a.isNone) w := by
  have := Lib.run_eql_slice_nil (P := Trym.prog) w 25 30 a n c 0 0 Trym.underlying25
  simpa using this
theorem make24 (len : Nat) (f : Nat → Nat) (h : len ≤ 1048576) (w : World) :
    (Instr.makeSlice 24 (.int .i64 (len : Int)) (.int .i64 (len : Int))).run Trym.prog w = .ok (.slice (some ⟨w.heap.size, 0, none⟩) len len) (w.alloc (.cells (nc .u8 len (cpy f 0)) 5)) := by
  obtain ⟨i0, hi, hz0, hz1, hz2⟩ := info_parts info5
  have := run_make (P := Trym.prog) w 24 5 i0 _ Trym.underlying24 hi hz0 .i64 .i64 (len : Int) (len : Int) (by omega) (by omega) (by rw [hz2]; omega) (by omega)
  rw [hz1, Int.toNat_natCast, made_zeros .u8 len f] at this
  exact this
theorem make25 (len : Nat) (f : Nat → Nat) (h : len ≤ 1048576) (w : World) :
    (Instr.makeSlice 25 (.int .i64 (len : Int)) (.int .i64 (len : Int))).run Trym.prog w = .ok (.slice (some ⟨w.heap.size, 0, none⟩) len len) (w.alloc (.cells (nc .u32 len (cpy f 0)) 30)) := by
  obtain ⟨i0, hi, hz0, hz1, hz2⟩ := info_parts info30
  have := run_make (P := Trym.prog) w 25 30 i0 _ Trym.underlying25 hi hz0 .i64 .i64 (len : Int) (len : Int) (by omega) (by omega) (by rw [hz2]; omega) (by omega)
  rw [hz1, Int.toNat_natCast, made_zeros .u32 len f] at this
  exact this

theorem IsN.own {k : IntKind} {w : World} {len : Nat} {t : TypeId} {f : Nat → Nat} (hl : len ≤ 1048576) : IsN k (w.alloc (.cells (nc k len f) t)) (some ⟨w.heap.size, 0, none⟩) len len f := by
  refine ⟨by unfold maxLen; omega, ?_⟩
  by_cases h0 : len = 0
  · exact .inl ⟨h0, fun h => by cases h⟩
  · refine .inr ⟨by omega, w.heap.size, 0, rfl, fun i hi => ?_⟩
    rw [World.cell?_alloc_at _ _ _ _ rfl, Nat.zero_add, nc_get _ _ _ _ hi]

/-- what a clone leaves: a slice of the same numbers; nil, or in a new block -/
def Cloned (k : IntKind) (t : TypeId) (w w' : World) (e : Ending) (len : Nat) (f : Nat → Nat) : Prop :=
  (len = 0 ∧ e = .returned (.slice none 0 0) ∧ w' = w) ∨ (e = .returned (.slice (some ⟨w.heap.size, 0, none⟩) len len) ∧ w' = w.alloc (.cells (nc k len f) t))
theorem Cloned.out {k : IntKind} {t : TypeId} {w w' : World} {e : Ending} {len : Nat} {f : Nat → Nat} (hl : len ≤ 1048576) (h : Cloned k t w w' e len f) :
    (∃ a' c', e = .returned (.slice a' len c') ∧ IsN k w' a' len c' f) ∧ Below w.heap.size w w' := by
  rcases h with ⟨rfl, rfl, rfl⟩ | ⟨rfl, rfl⟩
  · exact ⟨⟨none, 0, rfl, ⟨by unfold maxLen; omega, .inl ⟨rfl, fun _ => rfl⟩⟩⟩, Below.refl _ _⟩
  · exact ⟨⟨_, _, rfl, IsN.own hl⟩, (Below.refl _ _).alloc (Nat.le_refl _) _⟩

set_option maxHeartbeats 400000 in
theorem cloneB_any (a : Option Addr) (len cap : Nat) (f : Nat → Nat) (w : World) (h : IsN .u8 w a len cap f) (hl : len ≤ 1048576) :
    Calls Trym.prog 15 #[.slice a len cap] w fun e w' => Cloned .u8 5 w w' e len f := by
  have hnil := eqnil24
  cases a with
  | none =>
    obtain ⟨rfl, rfl⟩ := h.nil
    go_enter Trym.func15, Trym.ntmps15
    go_wp2
    go_ret
    exact .inl ⟨rfl, rfl, rfl⟩
  | some x =>
    have HC : Hid _ := h.2
    clear h
    have hmk := make24 len f hl
    go_enter Trym.func15, Trym.ntmps15
    go_wp2_with fail
    go_loopw [4] (fun i wr => ∃ t : Nat, t ≤ len ∧ i = .int .i64 (t : Int) ∧ wr = w.alloc (.cells (nc .u8 len (cpy f t)) 5)) (fun i _ => (len - intOf i).toNat)
    case atStart => exact ⟨0, by omega, rfl, rfl⟩
    case round =>
      obtain ⟨t, ht, rfl, rfl⟩ := hrel
      by_cases hlt : t < len
      · rcases HC.out with ⟨h0, _⟩ | ⟨hp, b, off, he, hcell⟩
        · omega
        · cases he
          have hck := hcell t hlt
          have hbl : b < w.heap.size := World.block_lt_of_cell? w _ hck
          have hget := nc_get .u8 len (cpy f t) t hlt
          clear hcell
          go_wp2
          go_roundw
          case rel => exact ⟨t + 1, by omega, by go_num, by rw [nc_cpy]⟩
          case measure => simp [intOf]; omega
      · obtain rfl : t = len := by omega
        go_wp2
        go_ret
        exact .inr ⟨rfl, by rw [nc_cpy_all]⟩
end Go.Proofs.Qxb6001089aMods
