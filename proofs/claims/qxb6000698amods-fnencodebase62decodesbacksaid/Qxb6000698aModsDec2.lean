import Derived.Test.Qxb6000698aModsDec
namespace Go.Proofs.Qxb6000698aMods
open Go.RowKit

theorem bc_zeros32 : (Array.mk (List.replicate 32 (Value.int .u8 0))) = bc (B62.byts 0) := by
  have : B62.byts 0 = List.replicate 32 0 := by decide +kernel
  rw [this]; simp only [bc, List.map_replicate]; rfl
theorem bc_mlm (A v t : Nat) (h : t < 32) : (bc (B62.mlm A v t))[31 - t]? = some (.int .u8 ((B62.byt A (31 - t) : Nat) : Int)) := by
  rw [bc_get _ _ (by rw [B62.mlm_length]; omega), B62.mlm_get A v t h]
theorem and_cur (b c : Nat) (hb : b < 256) (hc : c < 62) : bits BinOp.and IntKind.u64 ((b : Int) * 62 + (c : Int)) 255 % 256 = (((b * 62 + c) % 256 : Nat) : Int) := by
  have := bits_mask .u64 64 (by decide) wraps_u64 8 (by decide) ((b : Int) * 62 + (c : Int)) (by omega) (by omega)
  simp at this
  rw [this]; omega
theorem setRow_past (w : World) (o : Obj) (n : Nat) (c : Array Value) (h : n < w.heap.size) : (w.alloc o).setRow n c = (w.setRow n c).alloc o := by
  simp only [World.setRow, World.alloc]
  congr 1
  apply Array.ext_getElem?
  intro i
  rw [Array.getElem?_modify]
  by_cases hi : n = i
  · subst hi
    simp [Array.getElem?_push, Array.getElem?_modify, show ¬ n = w.heap.size from by omega]
  · simp [hi, Array.getElem?_push, Array.getElem?_modify]
theorem setRow_two (w : World) (c c' : Array Value) (t : TypeId) (o : Obj) : ((w.alloc (.cells c t)).alloc o).setRow w.heap.size c' = (w.alloc (.cells c' t)).alloc o := by
  rw [setRow_past _ _ _ _ (by simp), World.setRow_alloc_new]
theorem one_bc (l : List Nat) : (bc l).all (·.oneCell') = true := by
  simp [bc, Value.oneCell']
theorem ret_arr {tmps : Array Value} {w : World} (A : Nat) (b : Bool) (n : Nat) (h2 : tmps.getD 2 undef = .pointer (some ⟨n, 0, none⟩)) (h3 : tmps.getD 3 undef = .bool b) (hg : w.heap[n]? = some (.cells (bc (B62.byts A)) 52)) :
    (results Trym.f24 tmps).run Trym.prog w = .ok (.tuple #[.agg (bc (B62.byts A)), .bool b]) w := by
  rw [results_cell_tmp (p := 2) (u := 3) (ty := 52) rfl, h2, h3]
  simp [asAddr, run_loadVar_row w n 52 52 _ (0, 0) _ hg Trym.underlying52 rfl (hsz A)]

set_option maxHeartbeats 400000 in
theorem dec_any (A : Nat) (w : World) (s : ByteArray) (hA : A < 256 ^ 32) (hs : s.size = 43) (hg : ∀ p (h : p < s.size), (s[p]'h).toNat = B62.chr (B62.dgt A p)) :
    Calls Trym.prog 24 #[.string s] w fun e w' => e = .returned (.tuple #[.agg (bc (B62.byts A)), .bool true]) ∧ Below w.heap.size w w' := by
  have HZ : Hid _ := bc_zeros32
  have HA : Hid _ := hA
  have HG : Hid _ := hg
  clear hA hg
  go_enter Trym.func24, Trym.ntmps24
  go_wp2_with fail
  go_loopw [5] (fun i wr => ∃ k : Nat, k ≤ 43 ∧ i = .int .i64 (k : Int) ∧ wr = (w.alloc (.cells (bc (B62.byts 0)) 52)).alloc (.cells (bc (B62.byts (B62.hd A k))) 52)) (fun i _ => (43 - intOf i).toNat)
  case atStart => exact ⟨0, by omega, rfl, by rw [B62.hd_zero A HA.out, ← HZ.out]; simp⟩
  case round =>
    obtain ⟨k, hk, rfl, rfl⟩ := hrel
    by_cases hlt : k < 43
    · have hsk : k < s.size := by rw [hs]; exact hlt
      have hgk := HG.out k hsk
      have hv := B62.dgt_lt A k
      have HL : Hid (B62.hd A k * 62 + B62.dgt A k < 256 ^ 32) := by
        rw [B62.hd_step A k hlt]; exact Nat.lt_of_le_of_lt (B62.hd_le _ _) HA.out
      have HS : Hid _ := B62.hd_step A k hlt
      generalize B62.hd A k = N at *
      generalize B62.dgt A k = v at *
      go_wp2_with (go_at_call 36; refine (digit_any _ _ hv).mono ?_; rintro e w' ⟨rfl, rfl⟩)
      go_loopw [7, 8] (fun c j wr => ∃ t : Nat, t ≤ 32 ∧ j = .int .i64 (31 - (t : Int)) ∧ c = .int .u64 ((B62.cy N v t : Nat) : Int) ∧ wr = (w.alloc (.cells (bc (B62.byts 0)) 52)).alloc (.cells (bc (B62.mlm N v t)) 52)) (fun _ j _ => (intOf j + 1).toNat)
      case atStart => exact ⟨0, by omega, rfl, by rw [B62.cy_zero], by rw [B62.mlm_zero]⟩
      case round =>
        obtain ⟨t, ht, rfl, rfl, rfl⟩ := hrel
        have hc := B62.cy_lt N v t hv
        by_cases hlt2 : t < 32
        · have hget := bc_mlm N v t hlt2
          have hb := B62.byt_lt N (31 - t)
          have HQ : Hid _ := B62.mul_step N v t hlt2
          have HR : Hid _ := B62.cy_step N v t hlt2
          go_wp2
          go_roundw
          case rel => exact ⟨t + 1, by omega, by go_num, by rw [← HR.out]; go_num, by rw [and_cur _ _ hb hc, bc_set, HQ.out, B62.mlm_set N v t hlt2]⟩
          case measure => simp [intOf]; omega
        · obtain rfl : t = 32 := by omega
          have hc0 := B62.cy_last N v HL.out
          rw [hc0]
          go_wp2
          go_roundw
          case rel => exact ⟨k + 1, by omega, by go_num, by rw [B62.mlm_last, HS.out]⟩
          case measure => simp [intOf]; omega
    · obtain rfl : k = 43 := by omega
      rw [B62.hd_last]
      go_wp2_with (first
        | (refine wpList_load_row rfl 52 _ rfl _ rfl 52 (bc (B62.byts A)) (0, 0) _ (heap_alloc2_new _ _ _) Trym.underlying52 rfl (hsz A) ?_)
        | (refine wpList_store_row rfl 52 _ _ rfl _ _ rfl rfl 52 _ (heap_alloc2_old _ _ _) (hsz A) (by rw [size_byts, size_byts]) (one_bc _) ?_; rw [setRow_two]))
      exact bodyPost_ret (v := .tuple #[.agg (bc (B62.byts A)), .bool true]) (ret_arr A true w.heap.size rfl rfl (heap_alloc2_old _ _ _)) rfl ⟨rfl, ((Below.refl _ _).alloc (Nat.le_refl _) _).alloc (by simp) _⟩
end Go.Proofs.Qxb6000698aMods
