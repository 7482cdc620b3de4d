import Derived.Test.Qxb6001089aModsZza
namespace Go.Proofs.Qxb6001089aMods
open Go.RowKit

def Wide (e : Ending) (lo hi : Nat) : Prop := e = .returned (.tuple #[.int .u64 (lo : Int), .int .u64 (hi : Int), .bool true])
theorem ext_old (n : Nat) (f : Nat → Nat) (H t : Nat) (h : t < n) : ext n f H t = f t := by simp [ext, h]
theorem ext_new (n : Nat) (f : Nat → Nat) (H j : Nat) : ext n f H (n + j) = PA.eb H j := by unfold ext; rw [if_neg (by omega), Nat.add_sub_cancel_left]
theorem or_byte (v b : Nat) (hv : v < 4294967296) (hb : b < 256) : bits BinOp.or IntKind.u64 ((v : Int) * 256) (b : Int) = ((v * 256 + b : Nat) : Int) := by
  rw [bits_join .u64 64 (by decide) wraps_u64 8 _ _ (by omega) (by omega) (by omega) (by omega) (by omega) (by omega)]; omega
theorem or_low (v l : Nat) (hv : v < 4294967296) (hl : l < 4294967296) : bits BinOp.or IntKind.u64 ((v : Int) * 4294967296) (l : Int) = (v : Int) * 4294967296 + (l : Int) :=
  bits_join .u64 64 (by decide) wraps_u64 32 _ _ (by omega) (by omega) (by omega) (by omega) (by omega) (by omega)
theorem wide_fin {X Y : Int} {lo hi : Nat} (hx : X = (lo : Int)) (hy : Y = (hi : Int)) : Wide (.returned (.tuple #[.int .u64 X, .int .u64 Y, .bool true])) lo hi := by rw [hx, hy]; rfl
theorem below_dN {B : Nat} {a w : World} (h : Below B a w) (n : Nat) : Below B a (w.drewN n) := ⟨h.os, h.tape, h.output, h.size, h.block⟩
theorem or_fin0 (V h : Nat) (hV : V < 1) (hh : h < 4294967296) : bits BinOp.or IntKind.u64 (((V : Int) * 4294967296 + (h : Int)) * 4294967296) 4294967295 = ((V : Int) * 4294967296 + (h : Int)) * 4294967296 + 4294967295 :=
  bits_join .u64 64 (by decide) wraps_u64 32 _ _ (by omega) (by omega) (by omega) (by omega) (by omega) (by omega)
theorem or_fin1 (V h : Nat) (hV : V < 256) (hh : h < 4294967296) : bits BinOp.or IntKind.u64 (((V : Int) * 4294967296 + (h : Int)) * 16777216) 16777215 = ((V : Int) * 4294967296 + (h : Int)) * 16777216 + 16777215 :=
  bits_join .u64 64 (by decide) wraps_u64 24 _ _ (by omega) (by omega) (by omega) (by omega) (by omega) (by omega)
theorem or_fin2 (V h : Nat) (hV : V < 65536) (hh : h < 4294967296) : bits BinOp.or IntKind.u64 (((V : Int) * 4294967296 + (h : Int)) * 65536) 65535 = ((V : Int) * 4294967296 + (h : Int)) * 65536 + 65535 :=
  bits_join .u64 64 (by decide) wraps_u64 16 _ _ (by omega) (by omega) (by omega) (by omega) (by omega) (by omega)
theorem or_fin3 (V h : Nat) (hV : V < 16777216) (hh : h < 4294967296) : bits BinOp.or IntKind.u64 (((V : Int) * 4294967296 + (h : Int)) * 256) 255 = ((V : Int) * 4294967296 + (h : Int)) * 256 + 255 :=
  bits_join .u64 64 (by decide) wraps_u64 8 _ _ (by omega) (by omega) (by omega) (by omega) (by omega) (by omega)
theorem or_fin4 (V h : Nat) (hV : V < 4294967296) (hh : h < 4294967296) : bits BinOp.or IntKind.u64 ((V : Int) * 4294967296 + (h : Int)) 0 = (V : Int) * 4294967296 + (h : Int) :=
  by
  rw [bits_join .u64 64 (by decide) wraps_u64 0 _ _ (by omega) (by omega) (by omega) (by omega) (by omega) (by omega)]; omega
theorem vv_bound0 (H : Nat) (hH : H < 4294967296) : PA.vv H 0 < 1 := by unfold PA.vv; show H / 4294967296 < 1; omega
theorem vv_bound1 (H : Nat) (hH : H < 4294967296) : PA.vv H 1 < 256 := by unfold PA.vv; show H / 16777216 < 256; omega
theorem vv_bound2 (H : Nat) (hH : H < 4294967296) : PA.vv H 2 < 65536 := by unfold PA.vv; show H / 65536 < 65536; omega
theorem vv_bound3 (H : Nat) (hH : H < 4294967296) : PA.vv H 3 < 16777216 := by unfold PA.vv; show H / 256 < 16777216; omega
theorem vv_bound4 (H : Nat) (hH : H < 4294967296) : PA.vv H 4 < 4294967296 := by unfold PA.vv; show H / 1 < 4294967296; omega

set_option maxHeartbeats 1000000 in
theorem widen0 (a0 a1 : Option Addr) (n c0 c1 : Nat) (f : Nat → Nat) (H l h : Nat) (w : World) (hB : IsN .u8 w a0 n c0 f) (hA : IsN .u8 w a1 (n + 0) c1 (ext n f H)) (hn : n ≤ 1048576) (hH : H < 4294967296) (hl : l < 4294967296) (hh : h < 4294967296) :
    Calls Trym.prog 27 #[.slice a0 n c0, .slice a1 (n + 0 : Nat) c1, .int .u32 (l : Int), .int .u32 (h : Int)] w fun e w' => Wide e ((PA.vv H 0 * 4294967296 + l) * 4294967296) ((PA.vv H 0 * 4294967296 + h) * 4294967296 + 4294967295) ∧ Below w.heap.size w w' := by
  have HB : Hid _ := hB.2
  have HA : Hid _ := hA.2
  clear hB hA
  have HV0 : Hid (PA.vv H 0 = 0) := PA.vv_zero H hH
  have hd0 : decide ((n : Int) < (n : Int)) = false := by simp
  go_enter Trym.func27, Trym.ntmps27
  go_wp2_with fail
  go_loopw [12] (fun i wr => ∃ t m : Nat, t ≤ n ∧ i = .int .i64 (t : Int) ∧ wr = w.drewN m) (fun i _ => (n - intOf i).toNat)
  case atStart => exact ⟨0, 0, by omega, rfl, rfl⟩
  case round =>
    obtain ⟨t, m, ht, rfl, rfl⟩ := hrel
    by_cases hlt : t < n
    · rcases HB.out with ⟨h0, _⟩ | ⟨hp, b0, off0, rfl, hc0⟩
      · omega
      · rcases HA.out with ⟨h0, _⟩ | ⟨hp1, b1, off1, rfl, hc1⟩
        · omega
        · have x0 := hc0 t hlt
          have x1 := hc1 t (by omega)
          rw [ext_old n f H t hlt] at x1
          have i0 : (t : Int) < (n : Int) := by omega
          have i1 : (t : Int) < (n : Int) := by omega
          clear hc0 hc1
          go_wp2
          go_quiet (fail)
          go_wp2
          go_roundw
          case rel => exact ⟨t + 1, _, by omega, by go_num, rfl⟩
          case measure => simp [intOf]; omega
    · go_wp2_with fail
      go_loop [14, 15] (fun v i => ∃ j : Nat, j ≤ 0 ∧ v = .int .u64 ((PA.vv H j : Nat) : Int) ∧ i = .int .i64 ((n : Int) + (j : Int))) (fun _ i => (n + 0 - intOf i).toNat)
      case atStart => exact ⟨0, by omega, by rw [HV0.out]; rfl, by simp⟩
      case round =>
        obtain ⟨j, hj, rfl, rfl⟩ := hrel
        have hv := PA.vv_lt H j hH
        by_cases hj2 : j < 0
        · rcases HA.out with ⟨h0, _⟩ | ⟨hp1, b1, off1, rfl, hc1⟩
          · omega
          · have x1 := hc1 (n + j) (by omega)
            rw [ext_new n f H j] at x1
            have i1 : (n : Int) + (j : Int) < (n : Int) := by omega
            have hb := PA.eb_lt H j
            have ho := or_byte (PA.vv H j) (PA.eb H j) hv hb
            have HN : Hid _ := PA.vv_next H j (by omega)
            clear hc1
            go_wp2
            go_round
            case rel => exact ⟨j + 1, by omega, by rw [← HN.out, Int.natCast_add, Int.natCast_mul]; rfl, by go_num⟩
            case measure => simp [intOf]; omega
        · obtain rfl : j = 0 := by omega
          have hv2 := vv_bound0 H hH
          have o1 := or_low (PA.vv H 0) l hv hl
          have o2 := or_low (PA.vv H 0) h hv hh
          generalize hVe : PA.vv H 0 = V at *
          have HVE : Hid _ := hVe
          have o3 := or_fin0 V h hv2 hh
          have o4 : IntKind.u64.wrap (((V : Int) * 4294967296 + (l : Int)) * 4294967296) = ((V : Int) * 4294967296 + (l : Int)) * 4294967296 := by rw [IntKind.wrap_u64]; omega
          have o5 : IntKind.u64.wrap (((V : Int) * 4294967296 + (h : Int)) * 4294967296) = ((V : Int) * 4294967296 + (h : Int)) * 4294967296 := by rw [IntKind.wrap_u64]; omega
          clear hVe HV0
          go_wp2
          go_ret3
          rw [HVE.out]
          exact ⟨wide_fin (by omega) (by omega), below_dN (Below.refl _ _) _⟩

set_option maxHeartbeats 1000000 in
theorem widen1 (a0 a1 : Option Addr) (n c0 c1 : Nat) (f : Nat → Nat) (H l h : Nat) (w : World) (hB : IsN .u8 w a0 n c0 f) (hA : IsN .u8 w a1 (n + 1) c1 (ext n f H)) (hn : n ≤ 1048576) (hH : H < 4294967296) (hl : l < 4294967296) (hh : h < 4294967296) :
    Calls Trym.prog 27 #[.slice a0 n c0, .slice a1 (n + 1 : Nat) c1, .int .u32 (l : Int), .int .u32 (h : Int)] w fun e w' => Wide e ((PA.vv H 1 * 4294967296 + l) * 16777216) ((PA.vv H 1 * 4294967296 + h) * 16777216 + 16777215) ∧ Below w.heap.size w w' := by
  have HB : Hid _ := hB.2
  have HA : Hid _ := hA.2
  clear hB hA
  have HV0 : Hid (PA.vv H 0 = 0) := PA.vv_zero H hH
  have hd0 : decide ((n : Int) + 1 < (n : Int)) = false := by simp; omega
  go_enter Trym.func27, Trym.ntmps27
  go_wp2_with fail
  go_loopw [12] (fun i wr => ∃ t m : Nat, t ≤ n ∧ i = .int .i64 (t : Int) ∧ wr = w.drewN m) (fun i _ => (n - intOf i).toNat)
  case atStart => exact ⟨0, 0, by omega, rfl, rfl⟩
  case round =>
    obtain ⟨t, m, ht, rfl, rfl⟩ := hrel
    by_cases hlt : t < n
    · rcases HB.out with ⟨h0, _⟩ | ⟨hp, b0, off0, rfl, hc0⟩
      · omega
      · rcases HA.out with ⟨h0, _⟩ | ⟨hp1, b1, off1, rfl, hc1⟩
        · omega
        · have x0 := hc0 t hlt
          have x1 := hc1 t (by omega)
          rw [ext_old n f H t hlt] at x1
          have i0 : (t : Int) < (n : Int) := by omega
          have i1 : (t : Int) < (n : Int) + 1 := by omega
          clear hc0 hc1
          go_wp2
          go_quiet (fail)
          go_wp2
          go_roundw
          case rel => exact ⟨t + 1, _, by omega, by go_num, rfl⟩
          case measure => simp [intOf]; omega
    · go_wp2_with fail
      go_loop [14, 15] (fun v i => ∃ j : Nat, j ≤ 1 ∧ v = .int .u64 ((PA.vv H j : Nat) : Int) ∧ i = .int .i64 ((n : Int) + (j : Int))) (fun _ i => (n + 1 - intOf i).toNat)
      case atStart => exact ⟨0, by omega, by rw [HV0.out]; rfl, by simp⟩
      case round =>
        obtain ⟨j, hj, rfl, rfl⟩ := hrel
        have hv := PA.vv_lt H j hH
        by_cases hj2 : j < 1
        · rcases HA.out with ⟨h0, _⟩ | ⟨hp1, b1, off1, rfl, hc1⟩
          · omega
          · have x1 := hc1 (n + j) (by omega)
            rw [ext_new n f H j] at x1
            have i1 : (n : Int) + (j : Int) < (n : Int) + 1 := by omega
            have hb := PA.eb_lt H j
            have ho := or_byte (PA.vv H j) (PA.eb H j) hv hb
            have HN : Hid _ := PA.vv_next H j (by omega)
            clear hc1
            go_wp2
            go_round
            case rel => exact ⟨j + 1, by omega, by rw [← HN.out, Int.natCast_add, Int.natCast_mul]; rfl, by go_num⟩
            case measure => simp [intOf]; omega
        · obtain rfl : j = 1 := by omega
          have hv2 := vv_bound1 H hH
          have o1 := or_low (PA.vv H 1) l hv hl
          have o2 := or_low (PA.vv H 1) h hv hh
          generalize hVe : PA.vv H 1 = V at *
          have HVE : Hid _ := hVe
          have o3 := or_fin1 V h hv2 hh
          have o4 : IntKind.u64.wrap (((V : Int) * 4294967296 + (l : Int)) * 16777216) = ((V : Int) * 4294967296 + (l : Int)) * 16777216 := by rw [IntKind.wrap_u64]; omega
          have o5 : IntKind.u64.wrap (((V : Int) * 4294967296 + (h : Int)) * 16777216) = ((V : Int) * 4294967296 + (h : Int)) * 16777216 := by rw [IntKind.wrap_u64]; omega
          clear hVe HV0
          go_wp2
          go_ret3
          rw [HVE.out]
          exact ⟨wide_fin (by omega) (by omega), below_dN (Below.refl _ _) _⟩

set_option maxHeartbeats 1000000 in
theorem widen2 (a0 a1 : Option Addr) (n c0 c1 : Nat) (f : Nat → Nat) (H l h : Nat) (w : World) (hB : IsN .u8 w a0 n c0 f) (hA : IsN .u8 w a1 (n + 2) c1 (ext n f H)) (hn : n ≤ 1048576) (hH : H < 4294967296) (hl : l < 4294967296) (hh : h < 4294967296) :
    Calls Trym.prog 27 #[.slice a0 n c0, .slice a1 (n + 2 : Nat) c1, .int .u32 (l : Int), .int .u32 (h : Int)] w fun e w' => Wide e ((PA.vv H 2 * 4294967296 + l) * 65536) ((PA.vv H 2 * 4294967296 + h) * 65536 + 65535) ∧ Below w.heap.size w w' := by
  have HB : Hid _ := hB.2
  have HA : Hid _ := hA.2
  clear hB hA
  have HV0 : Hid (PA.vv H 0 = 0) := PA.vv_zero H hH
  have hd0 : decide ((n : Int) + 2 < (n : Int)) = false := by simp; omega
  go_enter Trym.func27, Trym.ntmps27
  go_wp2_with fail
  go_loopw [12] (fun i wr => ∃ t m : Nat, t ≤ n ∧ i = .int .i64 (t : Int) ∧ wr = w.drewN m) (fun i _ => (n - intOf i).toNat)
  case atStart => exact ⟨0, 0, by omega, rfl, rfl⟩
  case round =>
    obtain ⟨t, m, ht, rfl, rfl⟩ := hrel
    by_cases hlt : t < n
    · rcases HB.out with ⟨h0, _⟩ | ⟨hp, b0, off0, rfl, hc0⟩
      · omega
      · rcases HA.out with ⟨h0, _⟩ | ⟨hp1, b1, off1, rfl, hc1⟩
        · omega
        · have x0 := hc0 t hlt
          have x1 := hc1 t (by omega)
          rw [ext_old n f H t hlt] at x1
          have i0 : (t : Int) < (n : Int) := by omega
          have i1 : (t : Int) < (n : Int) + 2 := by omega
          clear hc0 hc1
          go_wp2
          go_quiet (fail)
          go_wp2
          go_roundw
          case rel => exact ⟨t + 1, _, by omega, by go_num, rfl⟩
          case measure => simp [intOf]; omega
    · go_wp2_with fail
      go_loop [14, 15] (fun v i => ∃ j : Nat, j ≤ 2 ∧ v = .int .u64 ((PA.vv H j : Nat) : Int) ∧ i = .int .i64 ((n : Int) + (j : Int))) (fun _ i => (n + 2 - intOf i).toNat)
      case atStart => exact ⟨0, by omega, by rw [HV0.out]; rfl, by simp⟩
      case round =>
        obtain ⟨j, hj, rfl, rfl⟩ := hrel
        have hv := PA.vv_lt H j hH
        by_cases hj2 : j < 2
        · rcases HA.out with ⟨h0, _⟩ | ⟨hp1, b1, off1, rfl, hc1⟩
          · omega
          · have x1 := hc1 (n + j) (by omega)
            rw [ext_new n f H j] at x1
            have i1 : (n : Int) + (j : Int) < (n : Int) + 2 := by omega
            have hb := PA.eb_lt H j
            have ho := or_byte (PA.vv H j) (PA.eb H j) hv hb
            have HN : Hid _ := PA.vv_next H j (by omega)
            clear hc1
            go_wp2
            go_round
            case rel => exact ⟨j + 1, by omega, by rw [← HN.out, Int.natCast_add, Int.natCast_mul]; rfl, by go_num⟩
            case measure => simp [intOf]; omega
        · obtain rfl : j = 2 := by omega
          have hv2 := vv_bound2 H hH
          have o1 := or_low (PA.vv H 2) l hv hl
          have o2 := or_low (PA.vv H 2) h hv hh
          generalize hVe : PA.vv H 2 = V at *
          have HVE : Hid _ := hVe
          have o3 := or_fin2 V h hv2 hh
          have o4 : IntKind.u64.wrap (((V : Int) * 4294967296 + (l : Int)) * 65536) = ((V : Int) * 4294967296 + (l : Int)) * 65536 := by rw [IntKind.wrap_u64]; omega
          have o5 : IntKind.u64.wrap (((V : Int) * 4294967296 + (h : Int)) * 65536) = ((V : Int) * 4294967296 + (h : Int)) * 65536 := by rw [IntKind.wrap_u64]; omega
          clear hVe HV0
          go_wp2
          go_ret3
          rw [HVE.out]
          exact ⟨wide_fin (by omega) (by omega), below_dN (Below.refl _ _) _⟩

set_option maxHeartbeats 1000000 in
theorem widen3 (a0 a1 : Option Addr) (n c0 c1 : Nat) (f : Nat → Nat) (H l h : Nat) (w : World) (hB : IsN .u8 w a0 n c0 f) (hA : IsN .u8 w a1 (n + 3) c1 (ext n f H)) (hn : n ≤ 1048576) (hH : H < 4294967296) (hl : l < 4294967296) (hh : h < 4294967296) :
    Calls Trym.prog 27 #[.slice a0 n c0, .slice a1 (n + 3 : Nat) c1, .int .u32 (l : Int), .int .u32 (h : Int)] w fun e w' => Wide e ((PA.vv H 3 * 4294967296 + l) * 256) ((PA.vv H 3 * 4294967296 + h) * 256 + 255) ∧ Below w.heap.size w w' := by
  have HB : Hid _ := hB.2
  have HA : Hid _ := hA.2
  clear hB hA
  have HV0 : Hid (PA.vv H 0 = 0) := PA.vv_zero H hH
  have hd0 : decide ((n : Int) + 3 < (n : Int)) = false := by simp; omega
  go_enter Trym.func27, Trym.ntmps27
  go_wp2_with fail
  go_loopw [12] (fun i wr => ∃ t m : Nat, t ≤ n ∧ i = .int .i64 (t : Int) ∧ wr = w.drewN m) (fun i _ => (n - intOf i).toNat)
  case atStart => exact ⟨0, 0, by omega, rfl, rfl⟩
  case round =>
    obtain ⟨t, m, ht, rfl, rfl⟩ := hrel
    by_cases hlt : t < n
    · rcases HB.out with ⟨h0, _⟩ | ⟨hp, b0, off0, rfl, hc0⟩
      · omega
      · rcases HA.out with ⟨h0, _⟩ | ⟨hp1, b1, off1, rfl, hc1⟩
        · omega
        · have x0 := hc0 t hlt
          have x1 := hc1 t (by omega)
          rw [ext_old n f H t hlt] at x1
          have i0 : (t : Int) < (n : Int) := by omega
          have i1 : (t : Int) < (n : Int) + 3 := by omega
          clear hc0 hc1
          go_wp2
          go_quiet (fail)
          go_wp2
          go_roundw
          case rel => exact ⟨t + 1, _, by omega, by go_num, rfl⟩
          case measure => simp [intOf]; omega
    · go_wp2_with fail
      go_loop [14, 15] (fun v i => ∃ j : Nat, j ≤ 3 ∧ v = .int .u64 ((PA.vv H j : Nat) : Int) ∧ i = .int .i64 ((n : Int) + (j : Int))) (fun _ i => (n + 3 - intOf i).toNat)
      case atStart => exact ⟨0, by omega, by rw [HV0.out]; rfl, by simp⟩
      case round =>
        obtain ⟨j, hj, rfl, rfl⟩ := hrel
        have hv := PA.vv_lt H j hH
        by_cases hj2 : j < 3
        · rcases HA.out with ⟨h0, _⟩ | ⟨hp1, b1, off1, rfl, hc1⟩
          · omega
          · have x1 := hc1 (n + j) (by omega)
            rw [ext_new n f H j] at x1
            have i1 : (n : Int) + (j : Int) < (n : Int) + 3 := by omega
            have hb := PA.eb_lt H j
            have ho := or_byte (PA.vv H j) (PA.eb H j) hv hb
            have HN : Hid _ := PA.vv_next H j (by omega)
            clear hc1
            go_wp2
            go_round
            case rel => exact ⟨j + 1, by omega, by rw [← HN.out, Int.natCast_add, Int.natCast_mul]; rfl, by go_num⟩
            case measure => simp [intOf]; omega
        · obtain rfl : j = 3 := by omega
          have hv2 := vv_bound3 H hH
          have o1 := or_low (PA.vv H 3) l hv hl
          have o2 := or_low (PA.vv H 3) h hv hh
          generalize hVe : PA.vv H 3 = V at *
          have HVE : Hid _ := hVe
          have o3 := or_fin3 V h hv2 hh
          have o4 : IntKind.u64.wrap (((V : Int) * 4294967296 + (l : Int)) * 256) = ((V : Int) * 4294967296 + (l : Int)) * 256 := by rw [IntKind.wrap_u64]; omega
          have o5 : IntKind.u64.wrap (((V : Int) * 4294967296 + (h : Int)) * 256) = ((V : Int) * 4294967296 + (h : Int)) * 256 := by rw [IntKind.wrap_u64]; omega
          clear hVe HV0
          go_wp2
          go_ret3
          rw [HVE.out]
          exact ⟨wide_fin (by omega) (by omega), below_dN (Below.refl _ _) _⟩

set_option maxHeartbeats 1000000 in
theorem widen4 (a0 a1 : Option Addr) (n c0 c1 : Nat) (f : Nat → Nat) (H l h : Nat) (w : World) (hB : IsN .u8 w a0 n c0 f) (hA : IsN .u8 w a1 (n + 4) c1 (ext n f H)) (hn : n ≤ 1048576) (hH : H < 4294967296) (hl : l < 4294967296) (hh : h < 4294967296) :
    Calls Trym.prog 27 #[.slice a0 n c0, .slice a1 (n + 4 : Nat) c1, .int .u32 (l : Int), .int .u32 (h : Int)] w fun e w' => Wide e ((PA.vv H 4 * 4294967296 + l) * 1) ((PA.vv H 4 * 4294967296 + h) * 1 + 0) ∧ Below w.heap.size w w' := by
  have HB : Hid _ := hB.2
  have HA : Hid _ := hA.2
  clear hB hA
  have HV0 : Hid (PA.vv H 0 = 0) := PA.vv_zero H hH
  have hd0 : decide ((n : Int) + 4 < (n : Int)) = false := by simp; omega
  go_enter Trym.func27, Trym.ntmps27
  go_wp2_with fail
  go_loopw [12] (fun i wr => ∃ t m : Nat, t ≤ n ∧ i = .int .i64 (t : Int) ∧ wr = w.drewN m) (fun i _ => (n - intOf i).toNat)
  case atStart => exact ⟨0, 0, by omega, rfl, rfl⟩
  case round =>
    obtain ⟨t, m, ht, rfl, rfl⟩ := hrel
    by_cases hlt : t < n
    · rcases HB.out with ⟨h0, _⟩ | ⟨hp, b0, off0, rfl, hc0⟩
      · omega
      · rcases HA.out with ⟨h0, _⟩ | ⟨hp1, b1, off1, rfl, hc1⟩
        · omega
        · have x0 := hc0 t hlt
          have x1 := hc1 t (by omega)
          rw [ext_old n f H t hlt] at x1
          have i0 : (t : Int) < (n : Int) := by omega
          have i1 : (t : Int) < (n : Int) + 4 := by omega
          clear hc0 hc1
          go_wp2
          go_quiet (fail)
          go_wp2
          go_roundw
          case rel => exact ⟨t + 1, _, by omega, by go_num, rfl⟩
          case measure => simp [intOf]; omega
    · go_wp2_with fail
      go_loop [14, 15] (fun v i => ∃ j : Nat, j ≤ 4 ∧ v = .int .u64 ((PA.vv H j : Nat) : Int) ∧ i = .int .i64 ((n : Int) + (j : Int))) (fun _ i => (n + 4 - intOf i).toNat)
      case atStart => exact ⟨0, by omega, by rw [HV0.out]; rfl, by simp⟩
      case round =>
        obtain ⟨j, hj, rfl, rfl⟩ := hrel
        have hv := PA.vv_lt H j hH
        by_cases hj2 : j < 4
        · rcases HA.out with ⟨h0, _⟩ | ⟨hp1, b1, off1, rfl, hc1⟩
          · omega
          · have x1 := hc1 (n + j) (by omega)
            rw [ext_new n f H j] at x1
            have i1 : (n : Int) + (j : Int) < (n : Int) + 4 := by omega
            have hb := PA.eb_lt H j
            have ho := or_byte (PA.vv H j) (PA.eb H j) hv hb
            have HN : Hid _ := PA.vv_next H j (by omega)
            clear hc1
            go_wp2
            go_round
            case rel => exact ⟨j + 1, by omega, by rw [← HN.out, Int.natCast_add, Int.natCast_mul]; rfl, by go_num⟩
            case measure => simp [intOf]; omega
        · obtain rfl : j = 4 := by omega
          have hv2 := vv_bound4 H hH
          have o1 := or_low (PA.vv H 4) l hv hl
          have o2 := or_low (PA.vv H 4) h hv hh
          generalize hVe : PA.vv H 4 = V at *
          have HVE : Hid _ := hVe
          have o3 := or_fin4 V h hv2 hh
          have o4 : IntKind.u64.wrap ((V : Int) * 4294967296 + (l : Int)) = (V : Int) * 4294967296 + (l : Int) := by rw [IntKind.wrap_u64]; omega
          have o5 : IntKind.u64.wrap ((V : Int) * 4294967296 + (h : Int)) = (V : Int) * 4294967296 + (h : Int) := by rw [IntKind.wrap_u64]; omega
          clear hVe HV0
          go_wp2
          go_ret3
          rw [HVE.out]
          exact ⟨wide_fin (by omega) (by omega), below_dN (Below.refl _ _) _⟩

/-- what widen answers of a coded bit -/
theorem widen_any (a0 a1 : Option Addr) (n c0 c1 k : Nat) (f : Nat → Nat) (L H : Nat) (w : World) (hB : IsN .u8 w a0 n c0 f) (hA : IsN .u8 w a1 (n + k) c1 (ext n f H)) (hn : n ≤ 1048576) (hH : H < 4294967296) (hk : k ≤ 4) (hT : PA.Top L H k) :
    Calls Trym.prog 27 #[.slice a0 n c0, .slice a1 (n + k) c1, .int .u32 ((PA.sL L k : Nat) : Int), .int .u32 ((PA.sH H k : Nat) : Int)] w fun e w' => Wide e (L * 4294967296) (H * 4294967296 + 4294967295) ∧ Below w.heap.size w w' := by
  have e1 := PA.sL_lt L k
  have e2 := PA.sH_lt H k
  rcases (show k = 0 ∨ k = 1 ∨ k = 2 ∨ k = 3 ∨ k = 4 from by omega) with rfl | rfl | rfl | rfl | rfl
  · have hl := PA.lo_is L H 0 hk hT
    have hh := PA.hi_is H 0 hH hk
    simp only [Nat.reduceSub, Nat.reducePow] at hl hh
    refine (widen0 a0 a1 n c0 c1 f H _ _ w hB hA hn hH e1 e2).mono ?_
    rintro e w' ⟨hw, hb⟩
    rw [hl, hh] at hw
    exact ⟨hw, hb⟩
  · have hl := PA.lo_is L H 1 hk hT
    have hh := PA.hi_is H 1 hH hk
    simp only [Nat.reduceSub, Nat.reducePow] at hl hh
    refine (widen1 a0 a1 n c0 c1 f H _ _ w hB hA hn hH e1 e2).mono ?_
    rintro e w' ⟨hw, hb⟩
    rw [hl, hh] at hw
    exact ⟨hw, hb⟩
  · have hl := PA.lo_is L H 2 hk hT
    have hh := PA.hi_is H 2 hH hk
    simp only [Nat.reduceSub, Nat.reducePow] at hl hh
    refine (widen2 a0 a1 n c0 c1 f H _ _ w hB hA hn hH e1 e2).mono ?_
    rintro e w' ⟨hw, hb⟩
    rw [hl, hh] at hw
    exact ⟨hw, hb⟩
  · have hl := PA.lo_is L H 3 hk hT
    have hh := PA.hi_is H 3 hH hk
    simp only [Nat.reduceSub, Nat.reducePow] at hl hh
    refine (widen3 a0 a1 n c0 c1 f H _ _ w hB hA hn hH e1 e2).mono ?_
    rintro e w' ⟨hw, hb⟩
    rw [hl, hh] at hw
    exact ⟨hw, hb⟩
  · have hl := PA.lo_is L H 4 hk hT
    have hh := PA.hi_is H 4 hH hk
    simp only [Nat.reduceSub, Nat.reducePow] at hl hh
    refine (widen4 a0 a1 n c0 c1 f H _ _ w hB hA hn hH e1 e2).mono ?_
    rintro e w' ⟨hw, hb⟩
    rw [hl, hh] at hw
    exact ⟨hw, hb⟩
end Go.Proofs.Qxb6001089aMods
