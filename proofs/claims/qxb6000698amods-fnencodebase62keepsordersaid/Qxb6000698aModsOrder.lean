import Derived.Test.Qxb6000698aModsCmp
import Derived.Deep.RegionHeld
namespace Go.Proofs.Qxb6000698aMods
open Go.RowKit
set_option linter.unusedSimpArgs false

def bl (A : Nat) : List Value := (B62.byts A).map fun n : Nat => Value.int .u8 (n : Int)
theorem bl_length (A : Nat) : (bl A).length = 32 := by simp [bl, B62.byts_length]
theorem bl_one (A : Nat) : ∀ v ∈ bl A, v.oneCell' = true := by
  intro v hv
  simp only [bl, List.mem_map] at hv
  obtain ⟨n, _, rfl⟩ := hv
  rfl
theorem zzL (A : Nat) (w : World) (hA : A < 256 ^ 32) :
    Calls Trym.prog 23 #[.agg (bl A).toArray] w fun e w' => e = .returned (.string ⟨(encB A).toArray⟩) ∧ Below w.heap.size w w' := zz_any A w hA
theorem cmpL (A B : Nat) (w : World) (hA : A < 256 ^ 32) (hB : B < 256 ^ 32) :
    Calls Trym.prog 25 #[.agg (bl A).toArray, .agg (bl B).toArray] w fun e w' => e = .returned (.int .i64 (B62.cmpN A B)) ∧ Below w.heap.size w w' := cmpB_any A B w hA hB
theorem encS_size (A : Nat) : (⟨(encB A).toArray⟩ : ByteArray).size = 43 := by simp [ByteArray.size, encB_length]
theorem encS_get (A p : Nat) (h : p < (⟨(encB A).toArray⟩ : ByteArray).size) : ((⟨(encB A).toArray⟩ : ByteArray)[p]'h).toNat = B62.chr (B62.dgt A p) := by
  have h' : p < (encB A).length := by simpa [ByteArray.size] using h
  rw [← encB_get A p h']
  rfl
theorem strL (A B : Nat) (w : World) (hA : A < 256 ^ 32) (hB : B < 256 ^ 32) :
    Calls Trym.prog 26 #[.string ⟨(encB A).toArray⟩, .string ⟨(encB B).toArray⟩] w fun e w' => e = .returned (.int .i64 (B62.cmpN A B)) ∧ Below w.heap.size w w' :=
  (cmpS_any A B w _ _ hA hB (encS_size A) (encS_get A) (encS_size B) (encS_get B)).mono fun _ _ ⟨he, n, hw⟩ => ⟨he, by rw [hw]; exact below_dN (Below.refl _ _) n⟩

/-- what the region keeps -/
def Keeps (A B : Nat) (w : World) (w' : World) : Prop := Below w.heap.size w w' ∧ w'.rangeAt w.heap.size 0 (bl A) ∧ w'.rangeAt (w.heap.size + 1) 0 (bl B) ∧ w.heap.size + 2 ≤ w'.heap.size

theorem rangeAt_below {W W' : World} {n b o : Nat} {cs : List Value} (h : W.rangeAt b o cs) (hb : Below n W W') (hn : b < n) : W'.rangeAt b o cs := fun j v hv => by
  rw [← h j v hv]; exact hb.cell (p := ⟨b, o + j, none⟩) hn
theorem keeps_step {A B : Nat} {w w1 w2 : World} (h : Keeps A B w w1) (hb : Below w1.heap.size w1 w2) : Keeps A B w w2 :=
  ⟨h.1.trans (hb.mono (by have := h.2.2.2; omega)), rangeAt_below h.2.1 hb (by have := h.2.2.2; omega), rangeAt_below h.2.2.1 hb (by have := h.2.2.2; omega), by have := h.2.2.2; have := hb.size; omega⟩
theorem keeps_drew {A B : Nat} {w w1 : World} (h : Keeps A B w w1) : Keeps A B w w1.drew := ⟨h.1.drew, h.2.1, h.2.2.1, h.2.2.2⟩
theorem keeps_start (A B : Nat) (w : World) : Keeps A B w ((w.alloc (.cells (bc (B62.byts A)) 52)).alloc (.cells (bc (B62.byts B)) 52)) := by
  refine ⟨((Below.refl _ _).alloc (Nat.le_refl _) _).alloc (by simp) _, ?_, ?_, by simp⟩
  · intro j v hv
    rw [World.cell?_alloc_past _ _ _ (by simp), World.cell?_alloc_at _ _ _ _ rfl]
    simpa [bc, bl] using hv
  · intro j v hv
    rw [World.cell?_alloc_at _ _ _ _ (by simp)]
    simpa [bc, bl] using hv

set_option maxHeartbeats 400000 in
theorem order_any (A B : Nat) (w : World) (hA : A < 256 ^ 32) (hB : B < 256 ^ 32) :
    Calls Trym.prog 7 #[.agg (bc (B62.byts A)), .agg (bc (B62.byts B))] w fun e w' => e = .returned (.bool true) ∧ Below w.heap.size w w' := by
  have HA : Hid _ := hA
  have HB : Hid _ := hB
  clear hA hB
  have hu := Trym.underlying52
  have hi : (Trym.prog.info? 52).map (·.size) = some (bl A).length := by rw [bl_length]; exact size52
  have hi' : (Trym.prog.info? 52).map (·.size) = some (bl B).length := by rw [bl_length]; exact size52
  have hl := bl_length A
  have hl' := bl_length B
  have h1 := bl_one A
  have h1' := bl_one B
  have hst : Keeps A B w ((w.alloc (.cells (bc (B62.byts A)) 52)).alloc (.cells (bc (B62.byts B)) 52)) := keeps_start A B w
  go_enter Trym.func7, Trym.ntmps7
  go_wp2_with fail
  generalize (w.alloc (.cells (bc (B62.byts A)) 52)).alloc (.cells (bc (B62.byts B)) 52) = W at *
  refine wp_region_held_drew (S := Keeps A B w) (by kernel_rfl) (keeps_drew hst) (fun hHeld => ?_)
  refine wpAnyH_take (i := 0) (oi := _) (v := .agg (bl A).toArray) rfl (by kernel_rfl) (by kernel_rfl) (by kernel_rfl) (fun _ _ _ h => h) (yieldsIf_load_mid (by rfl) 52 _ rfl w.heap.size 0 rfl (bl A) _ (fun w' h => h.2.1) hu rfl hi) hHeld ?_
  simp only [Act.put, List.setIfInBounds_toArray, List.set_cons_zero, List.set_cons_succ]
  refine wpAnyH_take (i := 1) (oi := _) (v := .agg (bl B).toArray) rfl (by kernel_rfl) (by kernel_rfl) (by kernel_rfl) (fun _ _ _ h => h) (yieldsIf_load_mid (by rfl) 52 _ rfl (w.heap.size + 1) 0 rfl (bl B) _ (fun w' h => h.2.2.1) hu rfl hi') hHeld ?_
  simp only [Act.put, List.setIfInBounds_toArray, List.set_cons_zero, List.set_cons_succ]
  refine wpAnyH_take (i := 3) (oi := _) (v := .agg (bl A).toArray) rfl (by kernel_rfl) (by kernel_rfl) (by kernel_rfl) (fun _ _ _ h => h) (yieldsIf_load_mid (by rfl) 52 _ rfl w.heap.size 0 rfl (bl A) _ (fun w' h => h.2.1) hu rfl hi) hHeld ?_
  simp only [Act.put, List.setIfInBounds_toArray, List.set_cons_zero, List.set_cons_succ]
  refine wpAnyH_take (i := 5) (oi := _) (v := .agg (bl B).toArray) rfl (by kernel_rfl) (by kernel_rfl) (by kernel_rfl) (fun _ _ _ h => h) (yieldsIf_load_mid (by rfl) 52 _ rfl (w.heap.size + 1) 0 rfl (bl B) _ (fun w' h => h.2.2.1) hu rfl hi') hHeld ?_
  simp only [Act.put, List.setIfInBounds_toArray, List.set_cons_zero, List.set_cons_succ]
  refine wpAnyH_ready (rs := [2]) (by kernel_rfl) (by simp) ?_
  refine AllReadyH.cons rfl (fun K hK => ?_) AllReadyH.nil
  go_simp
  go_wp2_with (go_at_call 25; refine (cmpL A B _ HA.out HB.out).mono ?_; rintro e w1 ⟨rfl, hb1⟩)
  refine hK.out _ _ (keeps_step hHeld hb1) (fun hHeld1 => ?_)
  clear hK K hHeld hb1
  rename Keeps A B w w1 => hHeld
  refine wpAnyH_ready (rs := [4]) (by kernel_rfl) (by simp) ?_
  refine AllReadyH.cons rfl (fun K hK => ?_) AllReadyH.nil
  go_simp
  go_wp2_with (go_at_call 23; refine (zzL A _ HA.out).mono ?_; rintro e w2 ⟨rfl, hb2⟩)
  refine hK.out _ _ (keeps_step hHeld hb2) (fun hHeld2 => ?_)
  clear hK K hHeld hb2
  rename Keeps A B w w2 => hHeld
  refine wpAnyH_ready (rs := [6]) (by kernel_rfl) (by simp) ?_
  refine AllReadyH.cons rfl (fun K hK => ?_) AllReadyH.nil
  go_simp
  go_wp2_with (go_at_call 23; refine (zzL B _ HB.out).mono ?_; rintro e w3 ⟨rfl, hb3⟩)
  refine hK.out _ _ (keeps_step hHeld hb3) (fun hHeld3 => ?_)
  clear hK K hHeld hb3
  rename Keeps A B w w3 => hHeld
  refine wpAnyH_ready (rs := [7]) (by kernel_rfl) (by simp) ?_
  refine AllReadyH.cons rfl (fun K hK => ?_) AllReadyH.nil
  go_simp
  go_wp2_with (go_at_call 26; refine (strL A B _ HA.out HB.out).mono ?_; rintro e w4 ⟨rfl, hb4⟩)
  refine hK.out _ _ (keeps_step hHeld hb4) (fun hHeld4 => ?_)
  clear hK K hHeld hb4
  rename Keeps A B w w4 => hHeld
  refine wpAnyH_ready (rs := [8]) (by kernel_rfl) (by simp) ?_
  refine AllReadyH.cons rfl (fun K hK => ?_) AllReadyH.nil
  go_simp
  refine hK.out _ _ hHeld (fun hHeld5 => ?_)
  clear hK K
  refine wpAnyH_ready (rs := [9]) (by kernel_rfl) (by simp) ?_
  refine AllReadyH.cons rfl (fun K hK => ?_) AllReadyH.nil
  go_simp
  refine hK.out _ _ hHeld (fun hHeld5 => ?_)
  clear hK K
  refine wpAnyH_done (by kernel_rfl) ?_ _
  go_wp2
  go_ret
  exact ⟨rfl, hHeld.1⟩
end Go.Proofs.Qxb6000698aMods
