import Derived.Test.Qxb6001089aModsByt
import Derived.Test.Qxb6001089aModsPlainA
import Derived.Deep.AppendLies
import Derived.Deep.RegionLaw
import Derived.Deep.DeepCutAuto
namespace Go.Proofs.Qxb6001089aMods
open Go.RowKit

/-- n bytes, as cells -/
def bl (n : Nat) (f : Nat → Nat) : List Value := (List.range n).map fun i => Value.int .u8 (f i : Int)
theorem bl_length (n : Nat) (f : Nat → Nat) : (bl n f).length = n := by simp [bl]
theorem bl_congr (n : Nat) (f g : Nat → Nat) (h : ∀ i, i < n → f i = g i) : bl n f = bl n g := by
  unfold bl
  apply List.map_congr_left
  intro i hi
  simp only [List.mem_range] at hi
  rw [h i hi]
theorem bl_succ (n : Nat) (f : Nat → Nat) : bl n f ++ [Value.int .u8 (f n : Int)] = bl (n + 1) f := by
  unfold bl
  rw [List.range_succ, List.map_append]
  rfl
/-- the bytes out, those that the shifts hand out behind them -/
def ext (n : Nat) (f : Nat → Nat) (H : Nat) (i : Nat) : Nat := if i < n then f i else PA.eb H (i - n)
theorem bl_ext_zero (n : Nat) (f : Nat → Nat) (H : Nat) : bl n f = bl (n + 0) (ext n f H) := bl_congr n f _ fun i hi => by simp [ext, hi]
theorem bl_ext_next (n : Nat) (f : Nat → Nat) (H k : Nat) : bl (n + k) (ext n f H) ++ [Value.int .u8 (PA.eb H k : Int)] = bl (n + (k + 1)) (ext n f H) := by
  have : ext n f H (n + k) = PA.eb H k := by unfold ext; rw [if_neg (by omega), Nat.add_sub_cancel_left]
  rw [← this, bl_succ]; rfl

theorem owns_of_heap {w w' : World} {base : Nat} {e : TypeId} {size : Nat} {v : Value} {n : Nat} {xs : List Value} (h : w.ownsRow base e size v n xs) (hh : ∀ g, v.ownBlock = some g → w'.heap[g]? = w.heap[g]?) : w'.ownsRow base e size v n xs := by
  refine ⟨h.1, ?_⟩
  rcases h.2 with h0 | ⟨g, cap, cur, rfl, hb, hg, hr⟩
  · exact .inl h0
  · exact .inr ⟨g, cap, cur, rfl, hb, by rw [hh g rfl, hg], hr⟩

theorem xor_td (l h : Nat) (hl : l < 4294967296) (hh : h < 4294967296) : bits BinOp.and IntKind.u32 (bits BinOp.xor IntKind.u32 (l : Int) (h : Int)) 4278190080 = ((PA.td l h : Nat) : Int) := by
  rw [u32_xor_nat l h hl hh]
  exact u32_and_nat _ 4278190080 (PA.xor_lt l h hl hh) (by decide)

/-- the coder in memory: its three fields in block B; its bytes in a row of their own -/
structure EC (base : Nat) (w0 w : World) (B L H : Nat) (v : Value) (n : Nat) (xs : List Value) : Prop where
  at_ : w.heap[B]? = some (.cells #[.int .u32 (L : Int), .int .u32 (H : Int), v] 52)
  owns : w.ownsRow base 5 1 v n xs
  ne : v.ownBlock ≠ some B
  below : Below base w0 w
theorem EC.setL {base : Nat} {w0 w : World} {B L H : Nat} {v : Value} {n : Nat} {xs : List Value} (h : EC base w0 w B L H v n xs) (hB : base ≤ B) (L' : Nat) : EC base w0 (w.setCell ⟨B, 0, none⟩ (.int .u32 (L' : Int))) B L' H v n xs :=
  ⟨heap_setCell_same _ _ _ _ _ _ h.at_, owns_of_heap h.owns (fun g hg => heap_setCell_other _ _ _ _ (fun e => h.ne (by rw [hg, e]))), h.ne, h.below.setCell hB _⟩
theorem EC.setH {base : Nat} {w0 w : World} {B L H : Nat} {v : Value} {n : Nat} {xs : List Value} (h : EC base w0 w B L H v n xs) (hB : base ≤ B) (H' : Nat) : EC base w0 (w.setCell ⟨B, 1, none⟩ (.int .u32 (H' : Int))) B L H' v n xs :=
  ⟨heap_setCell_same _ _ _ _ _ _ h.at_, owns_of_heap h.owns (fun g hg => heap_setCell_other _ _ _ _ (fun e => h.ne (by rw [hg, e]))), h.ne, h.below.setCell hB _⟩
theorem EC.drewN {base : Nat} {w0 w : World} {B L H : Nat} {v : Value} {n : Nat} {xs : List Value} (h : EC base w0 w B L H v n xs) (m : Nat) : EC base w0 (w.drewN m) B L H v n xs :=
  ⟨h.at_, owns_of_heap h.owns (fun _ _ => rfl), h.ne, ⟨h.below.os, h.below.tape, h.below.output, h.below.size, h.below.block⟩⟩

theorem val_L {l X : Nat} (e : l * 256 % 4294967296 = X) : (l : Int) * 256 % 4294967296 = ((X : Nat) : Int) := by omega
theorem val_H {h Y : Nat} (e : h * 256 % 4294967296 + 255 = Y) : bits BinOp.or IntKind.u32 ((h : Int) * 256 % 4294967296) 255 = ((Y : Nat) : Int) := by
  rw [bits_join .u32 32 (by decide) wraps_u32 8 _ _ (by omega) (by omega) (by omega) (by omega) (by omega) (by omega)]
  omega
theorem byte_wrap {h E : Nat} (e : h / 16777216 = E) (hE : E < 256) : IntKind.u8.wrap ((h : Int) / 16777216) = ((E : Nat) : Int) := by
  rw [IntKind.wrap_u8]; omega
theorem news_new (w : World) (x : Value) (t : TypeId) : ∀ j u, [x][j]? = some u → (w.alloc (.cells #[x] t)).cell? ((⟨w.heap.size, 0, none⟩ : Addr).add j) = some u :=
  World.news_of_block (cs := #[x]) (heap_alloc_new _ _)
theorem one_byte (n : Int) : ∀ u ∈ [Value.int .u8 n], u.oneCell' = true := by simp [Value.oneCell']
theorem EC.lt {base : Nat} {w0 w : World} {B L H : Nat} {v : Value} {n : Nat} {xs : List Value} (h : EC base w0 w B L H v n xs) : B < w.heap.size := (Array.getElem?_eq_some_iff.1 h.at_).1
theorem EC.later {base : Nat} {w0 w : World} {B L H : Nat} {v : Value} {n : Nat} {xs : List Value} (h : EC base w0 w B L H v n xs) (m : Nat) (o : Obj) : ((w.drewN m).alloc o).ownsRow base 5 1 v n xs := by
  refine ⟨h.owns.1, ?_⟩
  rcases h.owns.2 with h0 | ⟨g, cap, cur, rfl, hb, hg, hr⟩
  · exact .inl h0
  · exact .inr ⟨g, cap, cur, rfl, hb, (Below.heap_alloc (w.drewN m) o g (Array.getElem?_eq_some_iff.1 hg).1).trans hg, hr⟩
theorem EC.base_le {base : Nat} {w0 w : World} {B L H : Nat} {v : Value} {n : Nat} {xs : List Value} (h : EC base w0 w B L H v n xs) (hB : base ≤ B) (m : Nat) (o : Obj) : base ≤ ((w.drewN m).alloc o).heap.size := by
  have := h.lt
  simp; omega
theorem EC.row {base : Nat} {w0 w w1 : World} {B L H : Nat} {v : Value} {n : Nat} {xs : List Value} {m : Nat} {o : Obj} (h : EC base w0 w B L H v n xs) (hg : ((w.drewN m).alloc o).grownBy w1 v.ownBlock) : w1.heap[B]? = some (.cells #[.int .u32 (L : Int), .int .u32 (H : Int), v] 52) := by
  have hlt := h.lt
  rw [hg.block B (by simp; omega) (fun e => h.ne e.symm), Below.heap_alloc _ _ _ (by simpa using hlt)]
  exact h.at_
theorem EC.cell2 {base : Nat} {w0 w w1 : World} {B L H : Nat} {v : Value} {n : Nat} {xs : List Value} {m : Nat} {o : Obj} (h : EC base w0 w B L H v n xs) (hg : ((w.drewN m).alloc o).grownBy w1 v.ownBlock) : w1.cell? ⟨B, 2, none⟩ = some v := by
  rw [cell_of_row _ _ _ _ _ _ (h.row hg)]; rfl
theorem EC.free2 {base : Nat} {w0 w w1 : World} {B L H : Nat} {v : Value} {n : Nat} {xs : List Value} {m : Nat} {o : Obj} (h : EC base w0 w B L H v n xs) (hg : ((w.drewN m).alloc o).grownBy w1 v.ownBlock) : w1.frozen? ⟨B, 2, none⟩ = false := frozen_of_row _ _ _ _ _ (h.row hg)
theorem own_base {base : Nat} {w : World} {v : Value} {n : Nat} {xs : List Value} (h : w.ownsRow base 5 1 v n xs) : ∀ k, v.ownBlock = some k → base ≤ k := by
  intro k hk
  rcases h.2 with ⟨h0, _⟩ | ⟨g, cap, cur, rfl, hb, _⟩
  · rw [h0] at hk; cases hk
  · cases hk; exact hb
theorem EC.push {base : Nat} {w0 w w1 : World} {B L H : Nat} {v : Value} {n g cap : Nat} {xs news : List Value} {m : Nat} {o : Obj} (h : EC base w0 w B L H v n xs) (hB : base ≤ B) (hown : w1.ownsRow base 5 1 (.slice (some ⟨g, 0, none⟩) (n + 1) cap) (n + 1) (xs ++ news)) (hg : ((w.drewN m).alloc o).grownBy w1 v.ownBlock)
    (hat : v.ownBlock = some g ∨ g = w.heap.size + 1) : EC base w0 (w1.setCell ⟨B, 2, none⟩ (.slice (some ⟨g, 0, none⟩) (n + 1) cap)) B L H (.slice (some ⟨g, 0, none⟩) (n + 1) cap) (n + 1) (xs ++ news) := by
  have hlt := h.lt
  have hgB : g ≠ B := by
    rcases hat with e | e
    · intro hh; exact h.ne (by rw [e, hh])
    · omega
  refine ⟨heap_setCell_same _ _ _ _ _ _ (h.row hg), owns_of_heap hown (fun g' hg' => heap_setCell_other _ _ _ _ (fun e => hgB ?_)), fun e => hgB ?_, ?_⟩
  · cases hg'; exact e
  · cases e; rfl
  · have hb1 : Below base w0 (w.drewN m) := ⟨h.below.os, h.below.tape, h.below.output, h.below.size, h.below.block⟩
    exact ((hb1.alloc (by simp; omega) o).grown hg (by simp; omega) (own_base h.owns)).setCell hB _
/-- what coding one bit leaves -/
def Coded (base : Nat) (w0 w' : World) (B n : Nat) (f : Nat → Nat) (L0 H0 : Nat) : Prop :=
  ∃ k v', k ≤ 4 ∧ PA.Top L0 H0 k ∧ PA.sL L0 k / 16777216 ≠ PA.sH H0 k / 16777216 ∧ EC base w0 w' B (PA.sL L0 k) (PA.sH H0 k) v' (n + k) (bl (n + k) (ext n f H0))

set_option maxHeartbeats 1000000 in
theorem code1 (base : Nat) (w0 w : World) (B L H p : Nat) (v : Value) (n : Nat) (f : Nat → Nat) (hE : EC base w0 w B L H v n (bl n f)) (hB : base ≤ B) (hn : n ≤ 1048576) (hL : L < H) (hH : H < 4294967296) (hp : p ≤ 4095) :
    Calls Trym.prog 30 #[.pointer (some ⟨B, 0, none⟩), .int .i64 1, .int .i64 (p : Int)] w fun e w' => e = .returned (.tuple #[]) ∧
      Coded base w0 w' B n f L (L + PA.qq L H p) := by
  have HE : Hid _ := hE
  have c0 : w.cell? ⟨B, 0, none⟩ = some (.int .u32 (L : Int)) := by rw [cell_of_row _ _ _ _ _ _ hE.at_]; rfl
  have c1 : w.cell? ⟨B, 1, none⟩ = some (.int .u32 (H : Int)) := by rw [cell_of_row _ _ _ _ _ _ hE.at_]; rfl
  have f0 : w.frozen? ⟨B, 0, none⟩ = false := frozen_of_row _ _ _ _ _ hE.at_
  have f1 : w.frozen? ⟨B, 1, none⟩ = false := frozen_of_row _ _ _ _ _ hE.at_
  clear hE
  have hpr := PA.prod_le L H p hH hp
  have hq := PA.qq_lt L H p hL hp
  have hd : ((H : Int) - (L : Int)) * (p : Int) = (((H - L) * p : Nat) : Int) := by rw [Int.natCast_mul, Int.natCast_sub (by omega)]
  have hdq : ((((H - L) * p : Nat) : Int)) / 4096 = ((PA.qq L H p : Nat) : Int) := by unfold PA.qq; omega
  generalize (H - L) * p = D at *
  generalize PA.qq L H p = q at *
  go_enter Trym.func30, Trym.ntmps30
  go_wp2
  go_quiet (fail)
  go_wp2
  have hst := EC.setH (EC.drewN HE.out nq) hB (L + q)
  rw [Int.natCast_add] at hst
  obtain ⟨i0, hi, hz0, hz1, hz2⟩ := info_parts info5
  have HL0 : Hid (L < 4294967296) := by show _ < _; omega
  have HH0 : Hid ((L + q) < 4294967296) := by show _ < _; omega
  go_loopg [] 5 (fun gk wr => ∃ k v', gk = 5 - k ∧ k ≤ 4 ∧ Hid (PA.Top L (L + q) k) ∧ Hid (EC base w0 wr B (PA.sL L k) (PA.sH (L + q) k) v' (n + k) (bl (n + k) (ext n f (L + q)))))
  case atStart => exact ⟨0, v, rfl, by omega, PA.top_zero _ _ HL0.out HH0.out, by rw [PA.sL_zero _ HL0.out, PA.sH_zero _ HH0.out, ← bl_ext_zero]; exact hst⟩
  case round =>
    obtain ⟨k, v', rfl, hk, HT, HR⟩ := hrel
    clear hst c0 c1 f0 f1 hd hdq hpr hq HE
    have e0 : wr.cell? ⟨B, 0, none⟩ = some (.int .u32 ((PA.sL L k : Nat) : Int)) := by rw [cell_of_row _ _ _ _ _ _ (EC.at_ HR.out)]; rfl
    have e1 : wr.cell? ⟨B, 1, none⟩ = some (.int .u32 ((PA.sH (L + q) k : Nat) : Int)) := by rw [cell_of_row _ _ _ _ _ _ (EC.at_ HR.out)]; rfl
    have e2 : wr.cell? ⟨B, 2, none⟩ = some v' := by rw [cell_of_row _ _ _ _ _ _ (EC.at_ HR.out)]; rfl
    have hl := PA.sL_lt L k
    have hh := PA.sH_lt (L + q) k
    have hx := xor_td _ _ hl hh
    have HZ : Hid _ := PA.td_zero _ _ hl hh
    by_cases ht : PA.sL L k / 16777216 = PA.sH (L + q) k / 16777216
    · have hz : PA.td (PA.sL L k) (PA.sH (L + q) k) = 0 := HZ.out.2 ht
      rw [hz] at hx
      obtain ⟨hk4, hT'⟩ := PA.top_next _ _ k HL0.out HH0.out hk HT.out ht
      have HT' : Hid _ := hT'
      have HB : Hid _ := PA.byte_is _ k HH0.out hk4
      have HSL : Hid _ := PA.sL_next L k hk4
      have HSH : Hid _ := PA.sH_next (L + q) k hk4
      have e2a : ∀ m o, ((wr.drewN m).alloc o).cell? ⟨B, 2, none⟩ = some v' := fun m o => by rw [World.cell?_alloc_past _ _ _ (by simpa using EC.lt HR.out)]; exact e2
      have hw8 := byte_wrap HB.out (PA.eb_lt _ k)
      have HM1 : Hid (n + k + 1 ≤ maxLen) := by show _ ≤ _; unfold maxLen; omega
      have HM2 : Hid ((n + k + 1) * 1 ≤ 140737488355328) := by show _ ≤ _; omega
      clear hz ht hT' HZ
      generalize PA.sL L k = l at *
      generalize PA.sH (L + q) k = h at *
      go_wp2
      go_quiet (fail)
      go_wp2
      go_region_law (refine step_append_lies _ rfl (.tmp 53) (.tmp 60) 24 rfl base 5 i0 (.int .u8 0) 1 1 Trym.underlying24 hi hz0 hz1 hz2 rfl (by decide) v' (n + k) (bl (n + k) (ext n f (L + q))) (by simp [Act.eval]) (EC.later HR.out _ _) ⟨wr.heap.size, 0, none⟩ 1 1 [.int .u8 ((PA.eb (L + q) k : Nat) : Int)] (by simp [Act.eval]) rfl (news_new _ _ _) (one_byte _) (by decide) HM1.out HM2.out (EC.base_le HR.out hB _ _) (wr.heap.size + 1) (by simp) ?_; intro g cap w1 hown hgrow hat hlt; have q2 := EC.cell2 HR.out hgrow; have q2f := EC.free2 HR.out hgrow)
      all_goals
        have hEC := EC.push HR.out hB hown hgrow hat
        rw [bl_ext_next] at hEC
        have HEC : Hid _ := hEC
        clear hEC
        generalize w1.setCell ⟨B, 2, none⟩ (.slice (some ⟨g, 0, none⟩) (n + k + 1) cap) = W2 at *
        have g0 : W2.cell? ⟨B, 0, none⟩ = some (.int .u32 (l : Int)) := by rw [cell_of_row _ _ _ _ _ _ (EC.at_ HEC.out)]; rfl
        have g1 : W2.cell? ⟨B, 1, none⟩ = some (.int .u32 (h : Int)) := by rw [cell_of_row _ _ _ _ _ _ (EC.at_ HEC.out)]; rfl
        have k0 : W2.frozen? ⟨B, 0, none⟩ = false := frozen_of_row _ _ _ _ _ (EC.at_ HEC.out)
        have k1 : W2.frozen? ⟨B, 1, none⟩ = false := frozen_of_row _ _ _ _ _ (EC.at_ HEC.out)
        clear e0 e1 e2 e2a q2 q2f hown hgrow hat hlt hx hw8
        go_wp2
        go_roundg (5 - (k + 1))
        case measure => omega
        case rel =>
          rw [val_L HSL.out, val_H HSH.out]
          exact ⟨k + 1, _, rfl, by omega, HT', EC.setH (EC.setL HEC.out hB (PA.sL L (k + 1))) hB (PA.sH (L + q) (k + 1))⟩
    · have hz : (((PA.td (PA.sL L k) (PA.sH (L + q) k) : Nat) : Int) == 0) = false := beq_eq_false_iff_ne.2 (fun e => ht (HZ.out.1 (by omega)))
      have HD : Hid _ := ht
      clear ht HZ
      go_wp2
      go_quiet (fail)
      go_wp2
      go_end0
      exact ⟨rfl, k, v', hk, HT.out, HD.out, EC.drewN HR.out _⟩

set_option maxHeartbeats 1000000 in
theorem code0 (base : Nat) (w0 w : World) (B L H p : Nat) (v : Value) (n : Nat) (f : Nat → Nat) (hE : EC base w0 w B L H v n (bl n f)) (hB : base ≤ B) (hn : n ≤ 1048576) (hL : L < H) (hH : H < 4294967296) (hp : p ≤ 4095) :
    Calls Trym.prog 30 #[.pointer (some ⟨B, 0, none⟩), .int .i64 0, .int .i64 (p : Int)] w fun e w' => e = .returned (.tuple #[]) ∧
      Coded base w0 w' B n f (L + PA.qq L H p + 1) H := by
  have HE : Hid _ := hE
  have c0 : w.cell? ⟨B, 0, none⟩ = some (.int .u32 (L : Int)) := by rw [cell_of_row _ _ _ _ _ _ hE.at_]; rfl
  have c1 : w.cell? ⟨B, 1, none⟩ = some (.int .u32 (H : Int)) := by rw [cell_of_row _ _ _ _ _ _ hE.at_]; rfl
  have f0 : w.frozen? ⟨B, 0, none⟩ = false := frozen_of_row _ _ _ _ _ hE.at_
  have f1 : w.frozen? ⟨B, 1, none⟩ = false := frozen_of_row _ _ _ _ _ hE.at_
  clear hE
  have hpr := PA.prod_le L H p hH hp
  have hq := PA.qq_lt L H p hL hp
  have hd : ((H : Int) - (L : Int)) * (p : Int) = (((H - L) * p : Nat) : Int) := by rw [Int.natCast_mul, Int.natCast_sub (by omega)]
  have hdq : ((((H - L) * p : Nat) : Int)) / 4096 = ((PA.qq L H p : Nat) : Int) := by unfold PA.qq; omega
  generalize (H - L) * p = D at *
  generalize PA.qq L H p = q at *
  go_enter Trym.func30, Trym.ntmps30
  go_wp2
  go_quiet (fail)
  go_wp2
  have hst := EC.setL (EC.drewN HE.out nq) hB (L + q + 1)
  rw [Int.natCast_add, Int.natCast_add] at hst
  obtain ⟨i0, hi, hz0, hz1, hz2⟩ := info_parts info5
  have HL0 : Hid ((L + q + 1) < 4294967296) := by show _ < _; omega
  have HH0 : Hid (H < 4294967296) := by show _ < _; omega
  go_loopg [] 5 (fun gk wr => ∃ k v', gk = 5 - k ∧ k ≤ 4 ∧ Hid (PA.Top (L + q + 1) H k) ∧ Hid (EC base w0 wr B (PA.sL (L + q + 1) k) (PA.sH H k) v' (n + k) (bl (n + k) (ext n f H))))
  case atStart => exact ⟨0, v, rfl, by omega, PA.top_zero _ _ HL0.out HH0.out, by rw [PA.sL_zero _ HL0.out, PA.sH_zero _ HH0.out, ← bl_ext_zero]; exact hst⟩
  case round =>
    obtain ⟨k, v', rfl, hk, HT, HR⟩ := hrel
    clear hst c0 c1 f0 f1 hd hdq hpr hq HE
    have e0 : wr.cell? ⟨B, 0, none⟩ = some (.int .u32 ((PA.sL (L + q + 1) k : Nat) : Int)) := by rw [cell_of_row _ _ _ _ _ _ (EC.at_ HR.out)]; rfl
    have e1 : wr.cell? ⟨B, 1, none⟩ = some (.int .u32 ((PA.sH H k : Nat) : Int)) := by rw [cell_of_row _ _ _ _ _ _ (EC.at_ HR.out)]; rfl
    have e2 : wr.cell? ⟨B, 2, none⟩ = some v' := by rw [cell_of_row _ _ _ _ _ _ (EC.at_ HR.out)]; rfl
    have hl := PA.sL_lt (L + q + 1) k
    have hh := PA.sH_lt H k
    have hx := xor_td _ _ hl hh
    have HZ : Hid _ := PA.td_zero _ _ hl hh
    by_cases ht : PA.sL (L + q + 1) k / 16777216 = PA.sH H k / 16777216
    · have hz : PA.td (PA.sL (L + q + 1) k) (PA.sH H k) = 0 := HZ.out.2 ht
      rw [hz] at hx
      obtain ⟨hk4, hT'⟩ := PA.top_next _ _ k HL0.out HH0.out hk HT.out ht
      have HT' : Hid _ := hT'
      have HB : Hid _ := PA.byte_is _ k HH0.out hk4
      have HSL : Hid _ := PA.sL_next (L + q + 1) k hk4
      have HSH : Hid _ := PA.sH_next H k hk4
      have e2a : ∀ m o, ((wr.drewN m).alloc o).cell? ⟨B, 2, none⟩ = some v' := fun m o => by rw [World.cell?_alloc_past _ _ _ (by simpa using EC.lt HR.out)]; exact e2
      have hw8 := byte_wrap HB.out (PA.eb_lt _ k)
      have HM1 : Hid (n + k + 1 ≤ maxLen) := by show _ ≤ _; unfold maxLen; omega
      have HM2 : Hid ((n + k + 1) * 1 ≤ 140737488355328) := by show _ ≤ _; omega
      clear hz ht hT' HZ
      generalize PA.sL (L + q + 1) k = l at *
      generalize PA.sH H k = h at *
      go_wp2
      go_quiet (fail)
      go_wp2
      go_region_law (refine step_append_lies _ rfl (.tmp 53) (.tmp 60) 24 rfl base 5 i0 (.int .u8 0) 1 1 Trym.underlying24 hi hz0 hz1 hz2 rfl (by decide) v' (n + k) (bl (n + k) (ext n f H)) (by simp [Act.eval]) (EC.later HR.out _ _) ⟨wr.heap.size, 0, none⟩ 1 1 [.int .u8 ((PA.eb H k : Nat) : Int)] (by simp [Act.eval]) rfl (news_new _ _ _) (one_byte _) (by decide) HM1.out HM2.out (EC.base_le HR.out hB _ _) (wr.heap.size + 1) (by simp) ?_; intro g cap w1 hown hgrow hat hlt; have q2 := EC.cell2 HR.out hgrow; have q2f := EC.free2 HR.out hgrow)
      all_goals
        have hEC := EC.push HR.out hB hown hgrow hat
        rw [bl_ext_next] at hEC
        have HEC : Hid _ := hEC
        clear hEC
        generalize w1.setCell ⟨B, 2, none⟩ (.slice (some ⟨g, 0, none⟩) (n + k + 1) cap) = W2 at *
        have g0 : W2.cell? ⟨B, 0, none⟩ = some (.int .u32 (l : Int)) := by rw [cell_of_row _ _ _ _ _ _ (EC.at_ HEC.out)]; rfl
        have g1 : W2.cell? ⟨B, 1, none⟩ = some (.int .u32 (h : Int)) := by rw [cell_of_row _ _ _ _ _ _ (EC.at_ HEC.out)]; rfl
        have k0 : W2.frozen? ⟨B, 0, none⟩ = false := frozen_of_row _ _ _ _ _ (EC.at_ HEC.out)
        have k1 : W2.frozen? ⟨B, 1, none⟩ = false := frozen_of_row _ _ _ _ _ (EC.at_ HEC.out)
        clear e0 e1 e2 e2a q2 q2f hown hgrow hat hlt hx hw8
        go_wp2
        go_roundg (5 - (k + 1))
        case measure => omega
        case rel =>
          rw [val_L HSL.out, val_H HSH.out]
          exact ⟨k + 1, _, rfl, by omega, HT', EC.setH (EC.setL HEC.out hB (PA.sL (L + q + 1) (k + 1))) hB (PA.sH H (k + 1))⟩
    · have hz : (((PA.td (PA.sL (L + q + 1) k) (PA.sH H k) : Nat) : Int) == 0) = false := beq_eq_false_iff_ne.2 (fun e => ht (HZ.out.1 (by omega)))
      have HD : Hid _ := ht
      clear ht HZ
      go_wp2
      go_quiet (fail)
      go_wp2
      go_end0
      exact ⟨rfl, k, v', hk, HT.out, HD.out, EC.drewN HR.out _⟩
end Go.Proofs.Qxb6001089aMods
