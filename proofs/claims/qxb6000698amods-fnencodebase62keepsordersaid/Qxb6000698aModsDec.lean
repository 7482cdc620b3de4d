import Derived.Test.Qxb6000698aModsEnc
namespace Go.Proofs.Qxb6000698aMods
open Go.RowKit

theorem ret_int {k : IntKind} {a b : Int} (h : a = b) : Ending.returned (.int k a) = .returned (.int k b) := by rw [h]
theorem size52 : (Trym.prog.info? 52).map (·.size) = some 32 := by kernel_rfl
theorem size_byts (A : Nat) : (bc (B62.byts A)).size = 32 := by rw [bc_size, B62.byts_length]
theorem hsz (A : Nat) : (Trym.prog.info? 52).map (·.size) = some (bc (B62.byts A)).size := by rw [size52, size_byts]

/-- the whole array out of block n -/
theorem ld_of (W : World) (A n : Nat) (h : W.heap[n]? = some (.cells (bc (B62.byts A)) 52)) :
    (Instr.loadAt 52 (.pointer (some ⟨n, 0, none⟩))).run Trym.prog W = .ok (.agg (bc (B62.byts A))) W := by
  simp only [Instr.loadAt, Instr.sureAddr, Sem.run_bind, Sem.run_pure, Result.andThen_ok]
  exact run_loadVar_row W n 52 52 _ (0, 0) _ h Trym.underlying52 rfl (by rw [size52, size_byts])
theorem ld_last (w : World) (A n : Nat) (hn : n = w.heap.size) :
    (Instr.loadAt 52 (.pointer (some ⟨n, 0, none⟩))).run Trym.prog (w.alloc (.cells (bc (B62.byts A)) 52)) = .ok (.agg (bc (B62.byts A))) (w.alloc (.cells (bc (B62.byts A)) 52)) := by
  subst hn; exact ld_of _ A _ (heap_alloc_new _ _)

section
set_option maxHeartbeats 400000 in
theorem zz_any (A : Nat) (w : World) (hA : A < 256 ^ 32) :
    Calls Trym.prog 23 #[.agg (bc (B62.byts A))] w fun e w' => e = .returned (.string ⟨(encB A).toArray⟩) ∧ Below w.heap.size w w' := by
  have HA : Hid _ := hA
  clear hA
  go_enter Trym.func23, Trym.ntmps23
  go_wp2_with (first
    | (go_at_call 35; refine (enc_any A _ HA.out).mono ?_; rintro e w' ⟨rfl, hb⟩)
    | (refine wpList_load_row rfl 52 _ rfl _ rfl 52 (bc (B62.byts A)) (0, 0) _ (heap_alloc_new _ _) Trym.underlying52 rfl (hsz A) ?_))
  go_ret
  exact ⟨rfl, ((Below.refl _ _).alloc (Nat.le_refl _) _).trans (hb.mono (by simp))⟩
end

theorem digit_any (d : Nat) (w : World) (h : d < 62) :
    Calls Trym.prog 36 #[.int .u8 ((B62.chr d : Nat) : Int)] w fun e w' => e = .returned (.int .i64 (d : Int)) ∧ w' = w := by
  by_cases h1 : d < 10
  · have e : B62.chr d = 48 + d := by simp [B62.chr, h1]
    rw [e]
    go_enter Trym.func36, Trym.ntmps36
    go_wp2
    go_ret
    exact ⟨ret_int (by omega), rfl⟩
  · by_cases h2 : d < 36
    · have e : B62.chr d = 55 + d := by simp [B62.chr, h1, h2]
      rw [e]
      go_enter Trym.func36, Trym.ntmps36
      go_wp2
      go_ret
      exact ⟨ret_int (by omega), rfl⟩
    · have e : B62.chr d = 61 + d := by simp [B62.chr, h1, h2]
      rw [e]
      go_enter Trym.func36, Trym.ntmps36
      go_wp2
      go_ret
      exact ⟨ret_int (by omega), rfl⟩
end Go.Proofs.Qxb6000698aMods
