import Derived.Test.Qxb6000698aModsDec2
import Derived.Stop.BytesEq
namespace Go.Proofs.Qxb6000698aMods
open Go.RowKit

theorem wpList_load_want {P : Program} {ops : Array Oper} {rest : List Oper} {o : Oper} {a : Act} {w : World} {Q : Exit → Act → World → Prop} (hgd : Region.wanted o (yielded ops a.tmps) = true) (ty : TypeId) (x : Operand) (ho : o.op = .load ty x)
    (g : Nat) (hx : a.eval x = .pointer (some ⟨g, 0, none⟩)) (t : TypeId) (cs : Array Value) (fr : Nat × Nat) (d : TypeDesc) (hg : w.heap[g]? = some (.cells cs t fr))
    (hu : P.underlying ty = some d) (hd : (match d with | .struct _ | .array _ _ => true | _ => false) = true) (hi : (P.info? ty).map (·.size) = some cs.size)
    (h : wpList P ops Q rest (a.put o.dst (.agg cs)) w) : wpList P ops Q (o :: rest) a w :=
  wpList_step fun K hK => by rw [if_pos hgd]; exact wp_load_row ty x ho g hx t cs fr d hg hu hd hi (hK _ _ h)

theorem size5 (w : World) : (sizeOf 5).run Trym.prog w = .ok 1 w := by
  have h : (Trym.prog.info? 5).map (·.size) = some 1 := by kernel_rfl
  cases hq : Trym.prog.info? 5 with
  | none => simp [hq] at h
  | some i => simp [hq] at h; simp [sizeOf, typeInfo, hq, h]
theorem bc_cells (A : Nat) : bc (B62.byts A) = (((B62.byts A).map UInt8.ofNat).map Extern.Stop.cell).toArray := by
  unfold bc
  rw [List.map_map]
  congr 1
  apply List.map_congr_left
  intro n hn
  have h : n < 256 := by
    simp only [B62.byts, List.mem_map] at hn
    obtain ⟨p, _, rfl⟩ := hn
    exact B62.byt_lt A p
  simp [Extern.Stop.cell, Nat.mod_eq_of_lt h]
theorem eq_same (A : Nat) (w : World) : (Op.equalIn 10000 52 (.agg (bc (B62.byts A))) (.agg (bc (B62.byts A)))).run Trym.prog w = .ok true w := by
  rw [bc_cells, run_equalIn_bytes w 9998 52 5 32 Trym.underlying52 Trym.underlying5 size5 _ _ (by simp [B62.byts_length]) (by simp [B62.byts_length])]
  simp
theorem guard52 : Trym.prog.eqGuardType Trym.prog.depth 52 = false := by kernel_rfl

theorem encS_get (A p : Nat) (h : p < (⟨(encB A).toArray⟩ : ByteArray).size) : ((⟨(encB A).toArray⟩ : ByteArray)[p]'h).toNat = B62.chr (B62.dgt A p) := by
  have h' : p < (encB A).length := by simpa [ByteArray.size] using h
  rw [← encB_get A p h']
  rfl

set_option maxHeartbeats 400000 in
theorem back_any (A : Nat) (w : World) (hA : A < 256 ^ 32) :
    Calls Trym.prog 6 #[.agg (bc (B62.byts A))] w fun e w' => e = .returned (.bool true) ∧ Below w.heap.size w w' := by
  have HA : Hid _ := hA
  clear hA
  have heq := eq_same A
  have hgu := guard52
  have hsz43 : (⟨(encB A).toArray⟩ : ByteArray).size = 43 := by simp [ByteArray.size, encB_length]
  go_enter Trym.func6, Trym.ntmps6
  go_wp2_with (first
    | (go_at_call 23; refine (zz_any A _ HA.out).mono ?_; rintro e w1 ⟨rfl, hb1⟩)
    | fail
    | (refine wpList_load_row rfl 52 _ rfl _ rfl 52 (bc (B62.byts A)) (0, 0) _ (heap_alloc_new _ _) Trym.underlying52 rfl (hsz A) ?_))
  have hw1 : w1.heap[w.heap.size]? = some (.cells (bc (B62.byts A)) 52) := (hb1.block _ (by simp)).trans (heap_alloc_new _ _)
  have hl1 : w.heap.size < w1.heap.size := by have := hb1.size; simp at this; omega
  have HB1 : Below w.heap.size w w1 := ((Below.refl _ _).alloc (Nat.le_refl _) _).trans (hb1.mono (by simp))
  clear hb1
  refine (dec_any A _ _ HA.out hsz43 (encS_get A)).mono ?_
  rintro e w2 ⟨rfl, hb2⟩
  have hw2 : w2.heap[w.heap.size]? = some (.cells (bc (B62.byts A)) 52) := (hb2.block _ hl1).trans hw1
  have hl2 : w.heap.size < w2.heap.size := by have := hb2.size; omega
  have HB2 : Below w.heap.size w w2 := HB1.trans (hb2.mono (by omega))
  have hld : ∀ o, (w2.alloc o).heap[w.heap.size]? = some (.cells (bc (B62.byts A)) 52) := fun o => (Below.heap_alloc w2 o _ hl2).trans hw2
  clear hb2 hw1 HB1
  go_wp2_with (first
    | (refine wpList_store_row rfl 52 _ _ rfl _ _ rfl rfl 52 _ (heap_alloc_new _ _) (hsz A) (by rw [size_byts]; rfl) (one_bc _) ?_; rw [World.setRow_alloc_new])
    | (refine wpList_load_want rfl 52 _ rfl _ rfl 52 (bc (B62.byts A)) (0, 0) _ (heap_alloc_new _ _) Trym.underlying52 rfl (hsz A) ?_)
    | (refine wpList_load_want rfl 52 _ rfl _ rfl 52 (bc (B62.byts A)) (0, 0) _ (hld _) Trym.underlying52 rfl (hsz A) ?_))
  go_ret
  exact ⟨rfl, HB2.alloc (by omega) _⟩
end Go.Proofs.Qxb6000698aMods
