import Derived.Test.Qxb6000698aModsRows
import Derived.Test.Qxb6000698aModsPlain62
import Derived.WalkKit
import Derived.WalkSpells
import Derived.WalkLawsBesides
import Derived.Deep.WholeRow
import Derived.Deep.MidRow
import Derived.Lib.EndianBits
namespace Go.Proofs.Qxb6000698aMods
open Go.RowKit

def bc (l : List Nat) : Array Value := (l.map fun n : Nat => Value.int .u8 (n : Int)).toArray
theorem bc_size (l : List Nat) : (bc l).size = l.length := by simp [bc]
theorem bc_get (l : List Nat) (j : Nat) (h : j < l.length) : (bc l)[j]? = some (.int .u8 ((l.getD j 0 : Nat) : Int)) := by
  simp [bc, h, List.getD]
theorem bc_set (l : List Nat) (j x : Nat) : (bc l).setIfInBounds j (.int .u8 (x : Int)) = bc (l.set j x) := by
  simp [bc, List.map_set]
theorem bc_zeros43 (A : Nat) : (Array.mk (List.replicate 43 (Value.int .u8 0))) = bc (B62.dgs A 0) := by
  rw [B62.dgs_zero]; simp only [bc, List.map_replicate]; rfl
theorem bc_dvm (A t : Nat) (h : t < 32) : (bc (B62.dvm A t))[t]? = some (.int .u8 ((B62.byt A t : Nat) : Int)) := by
  rw [bc_get _ _ (by rw [B62.dvm_length]; exact h), B62.dvm_get A t h]
theorem or_cur (A t : Nat) : bits BinOp.or IntKind.u64 (((B62.rm A t : Nat) : Int) * 256) ((B62.byt A t : Nat) : Int) = ((B62.rm A t * 256 + B62.byt A t : Nat) : Int) := by
  have hr := B62.rm_lt A t
  have hb := B62.byt_lt A t
  rw [bits_join .u64 64 (by decide) wraps_u64 8 _ _ (by omega) (by omega) (by omega) (by omega) (by omega) (by omega)]
  omega

/-- the encoding, as bytes -/
def encB (A : Nat) : List UInt8 := (B62.enc A).map UInt8.ofNat
theorem encB_length (A : Nat) : (encB A).length = 43 := by simp [encB, B62.enc_length]
theorem encB_get (A p : Nat) (h : p < (encB A).length) : (encB A)[p].toNat = B62.chr (B62.dgt A p) := by
  have hp : p < 43 := by rwa [encB_length] at h
  have := B62.chr_lt _ (B62.dgt_lt A p)
  simp only [encB, List.getElem_map, B62.enc, List.getElem_range, UInt8.toNat_ofNat']
  omega
theorem bc_enc (A p : Nat) (h : p < (encB A).length) : (bc (B62.enc A))[p]? = some (.int .u8 ((encB A)[p].toNat : Int)) := by
  have hp : p < 43 := by rwa [encB_length] at h
  rw [bc_get _ _ (by rw [B62.enc_length]; exact hp), encB_get]
  simp [B62.enc, List.getD, hp]
theorem conv_enc (A : Nat) (w : World) (n : Nat) (hn : n = w.heap.size) :
    (convert 68 9 (.slice (some ⟨n, 0, none⟩) 43 43)).run Trym.prog (w.alloc (.cells (bc (B62.enc A)) 67)) = .ok (.string ⟨(encB A).toArray⟩) (w.alloc (.cells (bc (B62.enc A)) 67)) := by
  subst hn
  have := run_convert_bytes_back (P := Trym.prog) (w.alloc (.cells (bc (B62.enc A)) 67)) 68 9 5 ⟨w.heap.size, 0, none⟩ 43 (encB A) Trym.underlying68 Trym.underlying5 Trym.underlying9
    (fun j hj => by rw [Addr.add_mid, Nat.zero_add, ← bc_enc A j hj]; exact World.cell?_alloc_at _ _ _ _ rfl)
  rwa [encB_length] at this

def b62s : ByteArray := ⟨#[48, 49, 50, 51, 52, 53, 54, 55, 56, 57, 65, 66, 67, 68, 69, 70, 71, 72, 73, 74, 75, 76, 77, 78, 79, 80, 81, 82, 83, 84, 85, 86, 87, 88, 89, 90, 97, 98, 99, 100, 101, 102, 103, 104, 105, 106, 107, 108, 109, 110, 111, 112, 113, 114, 115, 116, 117, 118, 119, 120, 121, 122]⟩
theorem b62_size : b62s.size = 62 := rfl
theorem b62_all : ∀ r : Fin 62, (b62s[r.val]'(by rw [b62_size]; exact r.2)).toNat = B62.chr r.val := by decide +kernel
theorem b62_get (r : Nat) (h : r < b62s.size) : (b62s[r]'h).toNat = B62.chr r := b62_all ⟨r, by rwa [b62_size] at h⟩

set_option maxHeartbeats 400000 in
theorem enc_any (A : Nat) (w : World) (hA : A < 256 ^ 32) :
    Calls Trym.prog 35 #[.agg (bc (B62.byts A))] w fun e w' => e = .returned (.string ⟨(encB A).toArray⟩) ∧ Below w.heap.size w w' := by
  have HZ : Hid _ := bc_zeros43 A
  have HA : Hid _ := hA
  clear hA
  go_enter Trym.func35, Trym.ntmps35
  go_wp2_with fail
  go_loopw [4] (fun i wr => ∃ k : Nat, k ≤ 43 ∧ i = .int .i64 (42 - (k : Int)) ∧ wr = (w.alloc (.cells (bc (B62.byts (A / 62 ^ k))) 52)).alloc (.cells (bc (B62.dgs A k)) 67)) (fun i _ => (intOf i + 1).toNat)
  case atStart => exact ⟨0, by omega, rfl, by rw [← HZ.out]; simp⟩
  case round =>
    obtain ⟨k, hk, rfl, rfl⟩ := hrel
    by_cases hlt : k < 43
    · obtain ⟨N, hN⟩ : ∃ N, N = A / 62 ^ k := ⟨_, rfl⟩
      have HN : Hid (N = A / 62 ^ k) := hN
      have HN0 : Hid (B62.rm N 0 = 0) := B62.rm_zero N (by rw [hN]; exact Nat.lt_of_le_of_lt (Nat.div_le_self _ _) HA.out)
      have hd : (bc (B62.dgs A k))[42 - k]? = some (.int .u8 (((B62.dgs A k).getD (42 - k) 0 : Nat) : Int)) := bc_get _ _ (by rw [B62.dgs_length]; omega)
      rw [← hN]
      clear hN
      go_wp2_with fail
      go_loopw [5, 12] (fun r j wr => ∃ t : Nat, t ≤ 32 ∧ j = .int .i64 t ∧ r = .int .u64 ((B62.rm N t : Nat) : Int) ∧ wr = (w.alloc (.cells (bc (B62.dvm N t)) 52)).alloc (.cells (bc (B62.dgs A k)) 67)) (fun _ j _ => (32 - intOf j).toNat)
      case atStart => exact ⟨0, by omega, rfl, by rw [HN0.out]; rfl, by rw [B62.dvm_zero]⟩
      case round =>
        obtain ⟨t, ht, rfl, rfl, rfl⟩ := hrel
        have hr := B62.rm_lt N t
        have hb := B62.byt_lt N t
        by_cases hlt2 : t < 32
        · have hget := bc_dvm N t hlt2
          have hor := or_cur N t
          have hc := B62.cur_lt N t
          have HQ : Hid _ := B62.quo_step N t hlt2
          have HR : Hid _ := B62.rm_step N t hlt2
          generalize hcu : B62.rm N t * 256 + B62.byt N t = c at *
          clear hcu
          go_wp2
          go_roundw
          case rel => exact ⟨t + 1, by omega, by go_num, by rw [← HR.out]; go_num, by rw [show ((c : Int) / 62) = ((c / 62 : Nat) : Int) from by omega, bc_set, HQ.out, B62.dvm_set]⟩
          case measure => simp [intOf]; omega
        · obtain rfl : t = 32 := by omega
          go_wp2
          go_roundw
          case rel =>
            refine ⟨k + 1, by omega, by go_num, ?_⟩
            refine (congrArg (fun x : Nat => (w.alloc (.cells (bc (B62.dvm N 32)) 52)).alloc (.cells ((bc (B62.dgs A k)).setIfInBounds (42 - k) (.int .u8 (x : Int))) 67)) (b62_get (B62.rm N 32) (by rw [b62_size]; exact hr))).trans ?_
            rw [bc_set, B62.rm_last, B62.dvm_last, HN.out, B62.dgs_set A k hlt, B62.div_next]
          case measure => simp [intOf]; omega
    · obtain rfl : k = 43 := by omega
      rw [B62.dgs_last]
      generalize bc (B62.byts (A / 62 ^ 43)) = X
      have hcv := conv_enc A (w.alloc (.cells X 52)) (w.heap.size + 1) (by simp)
      go_wp2
      go_ret
      exact ⟨rfl, ((Below.refl _ _).alloc (Nat.le_refl _) _).alloc (by simp) _⟩
end Go.Proofs.Qxb6000698aMods
