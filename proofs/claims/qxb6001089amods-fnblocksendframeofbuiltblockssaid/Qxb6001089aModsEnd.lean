import Derived.Test.Qxb6001089aModsByt
namespace Go.Proofs.Qxb6001089aMods
open Go.RowKit

/-- what the walk over blocks answers -/
def Walked (bt : Nat → Nat) (n at_ : Nat) (e : Ending) : Prop := ∃ E L, e = .returned (.tuple #[.int .i64 ((E : Nat) : Int), .bool L]) ∧ PB.Comes bt n at_ (E, L) ∧ (L = true ∨ n < E + 3)

theorem below_dN {B : Nat} {a w : World} (h : Below B a w) (n : Nat) : Below B a (w.drewN n) := ⟨h.os, h.tape, h.output, h.size, h.block⟩
theorem or_h1 (x y : Nat) (hx : x < 256) (hy : y < 256) : bits BinOp.or IntKind.u32 (x : Int) ((y : Int) * 256) = (x : Int) + (y : Int) * 256 :=
  u32_or8 _ _ (by omega) (by omega) (by omega) (by omega) (by omega)
theorem or_h2 (x y z : Nat) (hx : x < 256) (hy : y < 256) (hz : z < 256) : bits BinOp.or IntKind.u32 ((x : Int) + (y : Int) * 256) ((z : Int) * 65536) = ((x + y * 256 + z * 65536 : Nat) : Int) := by
  rw [u32_or16 _ _ (by omega) (by omega) (by omega) (by omega) (by omega)]; omega
theorem and_1 (H : Nat) (h : H < 16777216) : bits BinOp.and IntKind.u32 (H : Int) 1 = ((H % 2 : Nat) : Int) := by
  have := bits_mask .u32 32 (by decide) wraps_u32 1 (by decide) (H : Int) (by omega) (by omega)
  simp at this
  rw [this]; omega
theorem and_3 (H : Nat) (h : H < 16777216) : bits BinOp.and IntKind.u32 ((H : Int) / 2) 3 = ((H / 2 % 4 : Nat) : Int) := by
  have := bits_mask .u32 32 (by decide) wraps_u32 2 (by decide) ((H : Int) / 2) (by omega) (by omega)
  simp at this
  rw [this]; omega

set_option maxHeartbeats 400000 in
theorem end_any (a : Option Addr) (len cap : Nat) (f : Nat → Nat) (at_ : Nat) (w : World) (h : IsN .u8 w a len cap f) (hf : ∀ i, f i < 256) (hl : len ≤ 1048576) (ha : at_ ≤ 1073741824) :
    Calls Trym.prog 29 #[.slice a len cap, .int .i64 (at_ : Int)] w fun e w' => Walked f len at_ e ∧ Below w.heap.size w w' := by
  have HC : Hid _ := h.2
  have HFB : Hid _ := hf
  clear h hf
  go_enter Trym.func29, Trym.ntmps29
  go_wp2_with fail
  go_loopw [4, 5] (fun e l wr => ∃ (E : Nat) (L : Bool) (m : Nat), e = .int .i64 (E : Int) ∧ l = .bool L ∧ E ≤ 1073741824 ∧ Hid (PB.Comes f len at_ (E, L)) ∧ wr = w.drewN m) (fun e _ _ => (len - intOf e).toNat)
  case atStart => exact ⟨at_, false, 0, rfl, rfl, ha, PB.comes_start _ _ _, rfl⟩
  case round =>
    obtain ⟨E, L, m, rfl, rfl, hE, HR, rfl⟩ := hrel
    cases L
    · by_cases hlt : E + 3 ≤ len
      · rcases HC.out with ⟨h0, _⟩ | ⟨hp, b, off, rfl, hcell⟩
        · omega
        · have c0 := hcell E (by omega)
          have c1 := hcell (E + 1) (by omega)
          have c2 := hcell (E + 2) (by omega)
          have b0 := HFB.out E
          have b1 := HFB.out (E + 1)
          have b2 := HFB.out (E + 2)
          have i0 : (E : Int) < (len : Int) := by omega
          have i1 : (E : Int) + 1 < (len : Int) := by omega
          have i2 : (E : Int) + 2 < (len : Int) := by omega
          have HN : Hid _ := PB.comes_step HR.out hlt
          have HL : Hid (PB.lst f E = decide (PB.hdr f E % 2 = 1)) := rfl
          have HCn : Hid (PB.con f E = if PB.hdr f E / 2 % 4 = 1 then 1 else PB.hdr f E / 8) := rfl
          have HH : Hid (PB.hdr f E = f E + f (E + 1) * 256 + f (E + 2) * 65536) := rfl
          have o1 := or_h1 _ _ b0 b1
          have o2 := or_h2 _ _ _ b0 b1 b2
          have hHl : PB.hdr f E < 16777216 := by rw [HH.out]; omega
          rw [← HH.out] at o2
          have a1 := and_1 _ hHl
          have a3 := and_3 _ hHl
          generalize PB.hdr f E = H at *
          clear hcell HR HH
          go_wp2
          go_quiet (fail)
          by_cases hb1 : H % 2 = 1 <;> by_cases hb3 : H / 2 % 4 = 1
          · have q1 : (((H % 2 : Nat) : Int) == 1) = true := by simp; omega
            have q3 : (((H / 2 % 4 : Nat) : Int) == 1) = true := by simp; omega
            go_wp2
            go_roundw
            case rel =>
              rw [HCn.out, if_pos hb3, HL.out] at HN
              exact ⟨_, _, _, by go_num, by rw [decide_eq_true hb1], by omega, HN, rfl⟩
            case measure => simp [intOf]; omega
          · have q1 : (((H % 2 : Nat) : Int) == 1) = true := by simp; omega
            have q3 : (((H / 2 % 4 : Nat) : Int) == 1) = false := by simp; omega
            go_wp2
            go_roundw
            case rel =>
              rw [HCn.out, if_neg hb3, HL.out] at HN
              exact ⟨_, _, _, by go_num, by rw [decide_eq_true hb1], by omega, HN, rfl⟩
            case measure => simp [intOf]; omega
          · have q1 : (((H % 2 : Nat) : Int) == 1) = false := by simp; omega
            have q3 : (((H / 2 % 4 : Nat) : Int) == 1) = true := by simp; omega
            go_wp2
            go_roundw
            case rel =>
              rw [HCn.out, if_pos hb3, HL.out] at HN
              exact ⟨_, _, _, by go_num, by rw [decide_eq_false hb1, show ((H : Int) % 2 == 1) = false from beq_eq_false_iff_ne.2 (by omega)], by omega, HN, rfl⟩
            case measure => simp [intOf]; omega
          · have q1 : (((H % 2 : Nat) : Int) == 1) = false := by simp; omega
            have q3 : (((H / 2 % 4 : Nat) : Int) == 1) = false := by simp; omega
            go_wp2
            go_roundw
            case rel =>
              rw [HCn.out, if_neg hb3, HL.out] at HN
              exact ⟨_, _, _, by go_num, by rw [decide_eq_false hb1, show ((H : Int) % 2 == 1) = false from beq_eq_false_iff_ne.2 (by omega)], by omega, HN, rfl⟩
            case measure => simp [intOf]; omega
      · go_wp2
        go_ret2
        exact ⟨⟨E, false, rfl, HR.out, .inr (by omega)⟩, below_dN (Below.refl _ _) _⟩
    · go_wp2
      go_ret2
      exact ⟨⟨E, true, rfl, HR.out, .inl rfl⟩, below_dN (Below.refl _ _) _⟩
end Go.Proofs.Qxb6001089aMods
