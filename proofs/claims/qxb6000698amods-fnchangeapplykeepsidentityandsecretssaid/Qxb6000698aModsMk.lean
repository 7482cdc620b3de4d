import Derived.Test.Qxb6000698aModsCopy
import Derived.Deep.DeepCutAuto
namespace Go.Proofs.Qxb6000698aMods
open Go.RowKit

def IsStr (v : Value) : Prop := ∃ s, v = .string s
def IsI (v : Value) : Prop := ∃ n, v = .int .i64 n
def IsSl (v : Value) : Prop := ∃ a l c, v = .slice a l c
/-- a field of a Change: nil where the flag is down; else it leads to a cell (in block n or later) that holds a value of the kind K -/
def Pt (K : Value → Prop) (n : Nat) (w : World) (has : Bool) (p : Option Addr) : Prop :=
  (has = false ∧ p = none) ∨ (has = true ∧ ∃ b v, p = some ⟨b, 0, none⟩ ∧ n ≤ b ∧ w.cell? ⟨b, 0, none⟩ = some v ∧ K v)
theorem Pt.step {K : Value → Prop} {n : Nat} {w w' : World} {has : Bool} {p : Option Addr} (h : Pt K n w has p) (hc : ∀ b, n ≤ b → b < w.heap.size → w'.heap[b]? = w.heap[b]?) : Pt K n w' has p := by
  rcases h with h | ⟨h, b, v, hp, hn, hv, hk⟩
  · exact .inl h
  · refine .inr ⟨h, b, v, hp, hn, ?_, hk⟩
    rw [cell_of_heap (hc b hn (World.block_lt_of_cell? w _ hv)), hv]

/-- the world in the midst of mkChange: the argument's box, the result's, the variable's -/
structure MC (w wx : World) (C P : Array Value) : Prop where
  below : Below w.heap.size w wx
  b0 : wx.heap[w.heap.size]? = some (.cells C 24)
  b1 : wx.heap[w.heap.size + 1]? = some (.cells #[.pointer none, .pointer none, .pointer none, .pointer none, .pointer none, .pointer none] 45)
  b2 : wx.heap[w.heap.size + 2]? = some (.cells P 45)
theorem MC.size {w wx : World} {C P : Array Value} (h : MC w wx C P) : w.heap.size + 2 < wx.heap.size := (Array.getElem?_eq_some_iff.1 h.b2).1
theorem MC.call {w wx w1 : World} {C P : Array Value} (h : MC w wx C P) (hb : Below wx.heap.size wx w1) : MC w w1 C P := by
  have := h.size
  exact ⟨h.below.trans (hb.mono (by omega)), (hb.block _ (by omega)).trans h.b0, (hb.block _ (by omega)).trans h.b1, (hb.block _ (by omega)).trans h.b2⟩
theorem MC.put {w wx : World} {C P : Array Value} (h : MC w wx C P) (i : Nat) (v : Value) (o : Obj) : MC w ((wx.setCell ⟨w.heap.size + 2, i, none⟩ v).alloc o) C (P.setIfInBounds i v) := by
  have hs := h.size
  have hz : (wx.setCell ⟨w.heap.size + 2, i, none⟩ v).heap.size = wx.heap.size := by simp [World.setCell]
  refine ⟨(h.below.setCell (by simp) v).alloc (by rw [hz]; omega) o, ?_, ?_, ?_⟩
  · rw [Below.heap_alloc _ _ _ (by rw [hz]; omega), heap_setCell_other _ _ _ _ (by simp), h.b0]
  · rw [Below.heap_alloc _ _ _ (by rw [hz]; omega), heap_setCell_other _ _ _ _ (by simp), h.b1]
  · rw [Below.heap_alloc _ _ _ (by rw [hz]; omega)]
    exact heap_setCell_same _ _ _ _ _ _ h.b2
theorem put_heap (wx : World) (n i : Nat) (v : Value) (o : Obj) : ∀ b, n + 3 ≤ b → b < wx.heap.size → ((wx.setCell ⟨n + 2, i, none⟩ v).alloc o).heap[b]? = wx.heap[b]? := by
  intro b h1 h2
  rw [Below.heap_alloc _ _ _ (by simp [World.setCell]; omega), heap_setCell_other _ _ _ _ (by simp; omega)]
theorem call_heap {wx w1 : World} (hb : Below wx.heap.size wx w1) (n : Nat) : ∀ b, n + 3 ≤ b → b < wx.heap.size → w1.heap[b]? = wx.heap[b]? := fun b _ h => hb.block b h
theorem Pt.new {K : Value → Prop} (n : Nat) (wx : World) (i : Nat) (u v : Value) (t : TypeId) (hn : n + 2 < wx.heap.size) (hk : K v) : Pt K (n + 3) ((wx.setCell ⟨n + 2, i, none⟩ u).alloc (.cells #[v] t)) true (some ⟨wx.heap.size, 0, none⟩) := by
  refine .inr ⟨rfl, _, v, rfl, by omega, ?_, hk⟩
  rw [World.cell?_alloc_at _ _ _ _ (by simp [World.setCell])]
  rfl

set_option maxHeartbeats 1000000 in
theorem mkChange_any (h0 h2 h4 h6 h8 h10 : Bool) (c1 c3 c11 : ByteArray) (c7 c9 : Int) (ca : Option Addr) (cl cc : Nat) (f : Nat → ByteArray) (w : World) (h : IsS w ca cl cc f) (hl : cl ≤ 1048576) :
    Calls Trym.prog 16 #[.agg #[.bool h0, .string c1, .bool h2, .string c3, .bool h4, .slice ca cl cc, .bool h6, .int .i64 c7, .bool h8, .int .i64 c9, .bool h10, .string c11]] w fun e w' => (∃ p0 p1 p2 p3 p4 p5, e = .returned (.agg #[.pointer p0, .pointer p1, .pointer p2, .pointer p3, .pointer p4, .pointer p5]) ∧ Pt IsStr (w.heap.size + 3) w' h0 p0 ∧ Pt IsStr (w.heap.size + 3) w' h2 p1 ∧ Pt IsSl (w.heap.size + 3) w' h4 p2 ∧ Pt IsI (w.heap.size + 3) w' h6 p3 ∧ Pt IsI (w.heap.size + 3) w' h8 p4 ∧ Pt IsStr (w.heap.size + 3) w' h10 p5) ∧ Below w.heap.size w w' := by
  have HH : Hid (∀ wx, Below w.heap.size w wx → IsS wx ca cl cc f) := fun wx hb => h.below hb (Nat.le_refl _)
  have HL : Hid _ := hl
  clear h hl
  have M0 : Hid (MC w (((w.alloc (.cells #[.bool h0, .string c1, .bool h2, .string c3, .bool h4, .slice ca cl cc, .bool h6, .int .i64 c7, .bool h8, .int .i64 c9, .bool h10, .string c11] 24)).alloc (.cells #[.pointer none, .pointer none, .pointer none, .pointer none, .pointer none, .pointer none] 45)).alloc (.cells #[.pointer none, .pointer none, .pointer none, .pointer none, .pointer none, .pointer none] 45)) #[.bool h0, .string c1, .bool h2, .string c3, .bool h4, .slice ca cl cc, .bool h6, .int .i64 c7, .bool h8, .int .i64 c9, .bool h10, .string c11] #[.pointer none, .pointer none, .pointer none, .pointer none, .pointer none, .pointer none]) := by
    refine ⟨(((Below.refl _ _).alloc (Nat.le_refl _) _).alloc (by simp) _).alloc (by simp; omega) _, ?_, ?_, ?_⟩
    · rw [Below.heap_alloc _ _ _ (by simp; omega), Below.heap_alloc _ _ _ (by simp)]; exact heap_alloc_new _ _
    · rw [Below.heap_alloc _ _ _ (by simp)]; exact heap_alloc2_new _ _ _
    · have := heap_alloc_new ((w.alloc (.cells #[.bool h0, .string c1, .bool h2, .string c3, .bool h4, .slice ca cl cc, .bool h6, .int .i64 c7, .bool h8, .int .i64 c9, .bool h10, .string c11] 24)).alloc (.cells #[.pointer none, .pointer none, .pointer none, .pointer none, .pointer none, .pointer none] 45)) (.cells #[.pointer none, .pointer none, .pointer none, .pointer none, .pointer none, .pointer none] 45)
      simpa using this
  go_enter Trym.func16, Trym.ntmps16
  go_upto_if 11 with fail
  generalize ((w.alloc (.cells #[.bool h0, .string c1, .bool h2, .string c3, .bool h4, .slice ca cl cc, .bool h6, .int .i64 c7, .bool h8, .int .i64 c9, .bool h10, .string c11] 24)).alloc (.cells #[.pointer none, .pointer none, .pointer none, .pointer none, .pointer none, .pointer none] 45)).alloc (.cells #[.pointer none, .pointer none, .pointer none, .pointer none, .pointer none, .pointer none] 45) = wc at M0 ⊢
  have hM : MC w wc #[.bool h0, .string c1, .bool h2, .string c3, .bool h4, .slice ca cl cc, .bool h6, .int .i64 c7, .bool h8, .int .i64 c9, .bool h10, .string c11] #[.pointer none, .pointer none, .pointer none, .pointer none, .pointer none, .pointer none] := M0
  clear M0
  have hch : wc.cell? ⟨w.heap.size, 0, none⟩ = some (.bool h0) := by rw [cell_of_row _ _ _ _ _ _ hM.b0]; rfl
  have hcv : wc.cell? ⟨w.heap.size, 1, none⟩ = some (.string c1) := by rw [cell_of_row _ _ _ _ _ _ hM.b0]; rfl
  have hcp : wc.cell? ⟨w.heap.size + 2, 0, none⟩ = some (.pointer none) := by rw [cell_of_row _ _ _ _ _ _ hM.b2]; rfl
  have hfp : wc.frozen? ⟨w.heap.size + 2, 0, none⟩ = false := frozen_of_row _ _ _ _ _ hM.b2
  have hsz : w.heap.size + 2 < wc.heap.size := hM.size
  have HM : Hid _ := hM
  clear hM 
  go_cut [] from 4 (fun wx => ∃ p0 : Option Addr, MC w wx #[.bool h0, .string c1, .bool h2, .string c3, .bool h4, .slice ca cl cc, .bool h6, .int .i64 c7, .bool h8, .int .i64 c9, .bool h10, .string c11] #[.pointer p0, .pointer none, .pointer none, .pointer none, .pointer none, .pointer none] ∧ Pt IsStr (w.heap.size + 3) wx h0 p0)
  case first =>
    cases h0
    · go_wp2
      go_meet
      case rel => exact ⟨none, HM.out, .inl ⟨rfl, rfl⟩⟩
    · go_wp2
      go_meet
      case rel => exact ⟨some ⟨wc.heap.size, 0, none⟩, MC.put HM.out 0 _ _, Pt.new _ _ _ _ _ _ hsz ⟨_, rfl⟩⟩
  case rest =>
    clear hch hcv hcp hfp hsz HM 
    obtain ⟨p0, hM, q0⟩ := hcut
    have hch : wc.cell? ⟨w.heap.size, 2, none⟩ = some (.bool h2) := by rw [cell_of_row _ _ _ _ _ _ hM.b0]; rfl
    have hcv : wc.cell? ⟨w.heap.size, 3, none⟩ = some (.string c3) := by rw [cell_of_row _ _ _ _ _ _ hM.b0]; rfl
    have hcp : wc.cell? ⟨w.heap.size + 2, 1, none⟩ = some (.pointer none) := by rw [cell_of_row _ _ _ _ _ _ hM.b2]; rfl
    have hfp : wc.frozen? ⟨w.heap.size + 2, 1, none⟩ = false := frozen_of_row _ _ _ _ _ hM.b2
    have hsz : w.heap.size + 2 < wc.heap.size := hM.size
    have HM : Hid _ := hM
    have Q0 : Hid _ := q0
    clear hM q0
    go_upto_if 16 with fail
    go_cut [] from 4 (fun wx => ∃ p0 p1 : Option Addr, MC w wx #[.bool h0, .string c1, .bool h2, .string c3, .bool h4, .slice ca cl cc, .bool h6, .int .i64 c7, .bool h8, .int .i64 c9, .bool h10, .string c11] #[.pointer p0, .pointer p1, .pointer none, .pointer none, .pointer none, .pointer none] ∧ Pt IsStr (w.heap.size + 3) wx h0 p0 ∧ Pt IsStr (w.heap.size + 3) wx h2 p1)
    case first =>
      cases h2
      · go_wp2
        go_meet
        case rel => exact ⟨p0, none, HM.out, Q0.out, .inl ⟨rfl, rfl⟩⟩
      · go_wp2
        go_meet
        case rel => exact ⟨p0, some ⟨wc.heap.size, 0, none⟩, MC.put HM.out 1 _ _, Pt.step Q0.out (put_heap _ _ _ _ _), Pt.new _ _ _ _ _ _ hsz ⟨_, rfl⟩⟩
    case rest =>
      clear hch hcv hcp hfp hsz HM Q0
      obtain ⟨p0, p1, hM, q0, q1⟩ := hcut
      have hch : wc.cell? ⟨w.heap.size, 4, none⟩ = some (.bool h4) := by rw [cell_of_row _ _ _ _ _ _ hM.b0]; rfl
      have hcv : wc.cell? ⟨w.heap.size, 5, none⟩ = some (.slice ca cl cc) := by rw [cell_of_row _ _ _ _ _ _ hM.b0]; rfl
      have hcp : wc.cell? ⟨w.heap.size + 2, 2, none⟩ = some (.pointer none) := by rw [cell_of_row _ _ _ _ _ _ hM.b2]; rfl
      have hfp : wc.frozen? ⟨w.heap.size + 2, 2, none⟩ = false := frozen_of_row _ _ _ _ _ hM.b2
      have hsz : w.heap.size + 2 < wc.heap.size := hM.size
      have HM : Hid _ := hM
      have Q0 : Hid _ := q0
      have Q1 : Hid _ := q1
      clear hM q0 q1
      go_upto_if 21 with fail
      go_cut [] from 4 (fun wx => ∃ p0 p1 p2 : Option Addr, MC w wx #[.bool h0, .string c1, .bool h2, .string c3, .bool h4, .slice ca cl cc, .bool h6, .int .i64 c7, .bool h8, .int .i64 c9, .bool h10, .string c11] #[.pointer p0, .pointer p1, .pointer p2, .pointer none, .pointer none, .pointer none] ∧ Pt IsStr (w.heap.size + 3) wx h0 p0 ∧ Pt IsStr (w.heap.size + 3) wx h2 p1 ∧ Pt IsSl (w.heap.size + 3) wx h4 p2)
      case first =>
        cases h4
        · go_wp2
          go_meet
          case rel => exact ⟨p0, p1, none, HM.out, Q0.out, Q1.out, .inl ⟨rfl, rfl⟩⟩
        · go_wp2_with fail
          refine (clone_any _ _ _ f _ (HH.out _ (MC.below HM.out)) HL.out).mono ?_
          rintro e w1 ⟨⟨a', c', rfl, hs, hnew⟩, hb⟩
          have hM1 := MC.call HM.out hb
          have hcp1 : w1.cell? ⟨w.heap.size + 2, 2, none⟩ = some (.pointer none) := by rw [cell_of_row _ _ _ _ _ _ hM1.b2]; rfl
          have hfp1 : w1.frozen? ⟨w.heap.size + 2, 2, none⟩ = false := frozen_of_row _ _ _ _ _ hM1.b2
          have hsz1 : w.heap.size + 2 < w1.heap.size := hM1.size
          have HM1 : Hid _ := hM1
          have R0 : Hid _ := Pt.step Q0.out (call_heap hb w.heap.size)
          have R1 : Hid _ := Pt.step Q1.out (call_heap hb w.heap.size)
          clear hs hnew hb hM1 hch hcv hcp hfp
          go_wp2
          go_meet
          case rel => exact ⟨p0, p1, some ⟨w1.heap.size, 0, none⟩, MC.put HM1.out 2 _ _, Pt.step R0.out (put_heap _ _ _ _ _), Pt.step R1.out (put_heap _ _ _ _ _), Pt.new _ _ _ _ _ _ hsz1 ⟨_, _, _, rfl⟩⟩
      case rest =>
        clear hch hcv hcp hfp hsz HM Q0 Q1
        obtain ⟨p0, p1, p2, hM, q0, q1, q2⟩ := hcut
        have hch : wc.cell? ⟨w.heap.size, 6, none⟩ = some (.bool h6) := by rw [cell_of_row _ _ _ _ _ _ hM.b0]; rfl
        have hcv : wc.cell? ⟨w.heap.size, 7, none⟩ = some (.int .i64 c7) := by rw [cell_of_row _ _ _ _ _ _ hM.b0]; rfl
        have hcp : wc.cell? ⟨w.heap.size + 2, 3, none⟩ = some (.pointer none) := by rw [cell_of_row _ _ _ _ _ _ hM.b2]; rfl
        have hfp : wc.frozen? ⟨w.heap.size + 2, 3, none⟩ = false := frozen_of_row _ _ _ _ _ hM.b2
        have hsz : w.heap.size + 2 < wc.heap.size := hM.size
        have HM : Hid _ := hM
        have Q0 : Hid _ := q0
        have Q1 : Hid _ := q1
        have Q2 : Hid _ := q2
        clear hM q0 q1 q2
        go_upto_if 27 with fail
        go_cut [] from 4 (fun wx => ∃ p0 p1 p2 p3 : Option Addr, MC w wx #[.bool h0, .string c1, .bool h2, .string c3, .bool h4, .slice ca cl cc, .bool h6, .int .i64 c7, .bool h8, .int .i64 c9, .bool h10, .string c11] #[.pointer p0, .pointer p1, .pointer p2, .pointer p3, .pointer none, .pointer none] ∧ Pt IsStr (w.heap.size + 3) wx h0 p0 ∧ Pt IsStr (w.heap.size + 3) wx h2 p1 ∧ Pt IsSl (w.heap.size + 3) wx h4 p2 ∧ Pt IsI (w.heap.size + 3) wx h6 p3)
        case first =>
          cases h6
          · go_wp2
            go_meet
            case rel => exact ⟨p0, p1, p2, none, HM.out, Q0.out, Q1.out, Q2.out, .inl ⟨rfl, rfl⟩⟩
          · go_wp2
            go_meet
            case rel => exact ⟨p0, p1, p2, some ⟨wc.heap.size, 0, none⟩, MC.put HM.out 3 _ _, Pt.step Q0.out (put_heap _ _ _ _ _), Pt.step Q1.out (put_heap _ _ _ _ _), Pt.step Q2.out (put_heap _ _ _ _ _), Pt.new _ _ _ _ _ _ hsz ⟨_, rfl⟩⟩
        case rest =>
          clear hch hcv hcp hfp hsz HM Q0 Q1 Q2
          obtain ⟨p0, p1, p2, p3, hM, q0, q1, q2, q3⟩ := hcut
          have hch : wc.cell? ⟨w.heap.size, 8, none⟩ = some (.bool h8) := by rw [cell_of_row _ _ _ _ _ _ hM.b0]; rfl
          have hcv : wc.cell? ⟨w.heap.size, 9, none⟩ = some (.int .i64 c9) := by rw [cell_of_row _ _ _ _ _ _ hM.b0]; rfl
          have hcp : wc.cell? ⟨w.heap.size + 2, 4, none⟩ = some (.pointer none) := by rw [cell_of_row _ _ _ _ _ _ hM.b2]; rfl
          have hfp : wc.frozen? ⟨w.heap.size + 2, 4, none⟩ = false := frozen_of_row _ _ _ _ _ hM.b2
          have hsz : w.heap.size + 2 < wc.heap.size := hM.size
          have HM : Hid _ := hM
          have Q0 : Hid _ := q0
          have Q1 : Hid _ := q1
          have Q2 : Hid _ := q2
          have Q3 : Hid _ := q3
          clear hM q0 q1 q2 q3
          go_upto_if 32 with fail
          go_cut [] from 4 (fun wx => ∃ p0 p1 p2 p3 p4 : Option Addr, MC w wx #[.bool h0, .string c1, .bool h2, .string c3, .bool h4, .slice ca cl cc, .bool h6, .int .i64 c7, .bool h8, .int .i64 c9, .bool h10, .string c11] #[.pointer p0, .pointer p1, .pointer p2, .pointer p3, .pointer p4, .pointer none] ∧ Pt IsStr (w.heap.size + 3) wx h0 p0 ∧ Pt IsStr (w.heap.size + 3) wx h2 p1 ∧ Pt IsSl (w.heap.size + 3) wx h4 p2 ∧ Pt IsI (w.heap.size + 3) wx h6 p3 ∧ Pt IsI (w.heap.size + 3) wx h8 p4)
          case first =>
            cases h8
            · go_wp2
              go_meet
              case rel => exact ⟨p0, p1, p2, p3, none, HM.out, Q0.out, Q1.out, Q2.out, Q3.out, .inl ⟨rfl, rfl⟩⟩
            · go_wp2
              go_meet
              case rel => exact ⟨p0, p1, p2, p3, some ⟨wc.heap.size, 0, none⟩, MC.put HM.out 4 _ _, Pt.step Q0.out (put_heap _ _ _ _ _), Pt.step Q1.out (put_heap _ _ _ _ _), Pt.step Q2.out (put_heap _ _ _ _ _), Pt.step Q3.out (put_heap _ _ _ _ _), Pt.new _ _ _ _ _ _ hsz ⟨_, rfl⟩⟩
          case rest =>
            clear hch hcv hcp hfp hsz HM Q0 Q1 Q2 Q3
            obtain ⟨p0, p1, p2, p3, p4, hM, q0, q1, q2, q3, q4⟩ := hcut
            have hch : wc.cell? ⟨w.heap.size, 10, none⟩ = some (.bool h10) := by rw [cell_of_row _ _ _ _ _ _ hM.b0]; rfl
            have hcv : wc.cell? ⟨w.heap.size, 11, none⟩ = some (.string c11) := by rw [cell_of_row _ _ _ _ _ _ hM.b0]; rfl
            have hcp : wc.cell? ⟨w.heap.size + 2, 5, none⟩ = some (.pointer none) := by rw [cell_of_row _ _ _ _ _ _ hM.b2]; rfl
            have hfp : wc.frozen? ⟨w.heap.size + 2, 5, none⟩ = false := frozen_of_row _ _ _ _ _ hM.b2
            have hsz : w.heap.size + 2 < wc.heap.size := hM.size
            have HM : Hid _ := hM
            have Q0 : Hid _ := q0
            have Q1 : Hid _ := q1
            have Q2 : Hid _ := q2
            have Q3 : Hid _ := q3
            have Q4 : Hid _ := q4
            clear hM q0 q1 q2 q3 q4
            go_upto_if 37 with fail
            go_cut [] from 4 (fun wx => ∃ p0 p1 p2 p3 p4 p5 : Option Addr, MC w wx #[.bool h0, .string c1, .bool h2, .string c3, .bool h4, .slice ca cl cc, .bool h6, .int .i64 c7, .bool h8, .int .i64 c9, .bool h10, .string c11] #[.pointer p0, .pointer p1, .pointer p2, .pointer p3, .pointer p4, .pointer p5] ∧ Pt IsStr (w.heap.size + 3) wx h0 p0 ∧ Pt IsStr (w.heap.size + 3) wx h2 p1 ∧ Pt IsSl (w.heap.size + 3) wx h4 p2 ∧ Pt IsI (w.heap.size + 3) wx h6 p3 ∧ Pt IsI (w.heap.size + 3) wx h8 p4 ∧ Pt IsStr (w.heap.size + 3) wx h10 p5)
            case first =>
              cases h10
              · go_wp2
                go_meet
                case rel => exact ⟨p0, p1, p2, p3, p4, none, HM.out, Q0.out, Q1.out, Q2.out, Q3.out, Q4.out, .inl ⟨rfl, rfl⟩⟩
              · go_wp2
                go_meet
                case rel => exact ⟨p0, p1, p2, p3, p4, some ⟨wc.heap.size, 0, none⟩, MC.put HM.out 5 _ _, Pt.step Q0.out (put_heap _ _ _ _ _), Pt.step Q1.out (put_heap _ _ _ _ _), Pt.step Q2.out (put_heap _ _ _ _ _), Pt.step Q3.out (put_heap _ _ _ _ _), Pt.step Q4.out (put_heap _ _ _ _ _), Pt.new _ _ _ _ _ _ hsz ⟨_, rfl⟩⟩
            case rest =>
              clear hch hcv hcp hfp hsz HM Q0 Q1 Q2 Q3 Q4
              obtain ⟨p0, p1, p2, p3, p4, p5, hM, q0, q1, q2, q3, q4, q5⟩ := hcut
              have HM : Hid _ := hM
              have Q0 : Hid _ := q0
              have Q1 : Hid _ := q1
              have Q2 : Hid _ := q2
              have Q3 : Hid _ := q3
              have Q4 : Hid _ := q4
              have Q5 : Hid _ := q5
              clear hM q0 q1 q2 q3 q4 q5
              have H1 : Hid ((#[.pointer p0, .pointer p1, .pointer p2, .pointer p3, .pointer p4, .pointer p5] : Array Value).all (·.oneCell') = true) := by show _ = _; simp [Value.oneCell']
              go_wp2_with (first
                | (refine wpList_load_row rfl 45 _ rfl _ rfl 45 #[.pointer p0, .pointer p1, .pointer p2, .pointer p3, .pointer p4, .pointer p5] (0, 0) _ (MC.b2 HM.out) Trym.underlying45 rfl size45 ?_)
                | (refine wpList_store_row rfl 45 _ _ rfl (w.heap.size + 1) _ rfl rfl 45 _ (MC.b1 HM.out) size45 rfl H1.out ?_))
              have G4 := setRow_heap wc (w.heap.size + 1) _ #[.pointer p0, .pointer p1, .pointer p2, .pointer p3, .pointer p4, .pointer p5] 45 _ (MC.b1 HM.out)
              have hk : ∀ b, w.heap.size + 3 ≤ b → b < wc.heap.size → (wc.setRow (w.heap.size + 1) #[.pointer p0, .pointer p1, .pointer p2, .pointer p3, .pointer p4, .pointer p5]).heap[b]? = wc.heap[b]? := fun b h1 _ => setRow_other _ _ _ _ (by omega)
              exact bodyPost_ret (results_cell_row (p := 2) (ty := 45) rfl _ _ (w.heap.size + 1) 45 #[.pointer p0, .pointer p1, .pointer p2, .pointer p3, .pointer p4, .pointer p5] (0, 0) _ rfl G4 Trym.underlying45 rfl size45) rfl ⟨⟨p0, p1, p2, p3, p4, p5, rfl, Pt.step Q0.out hk, Pt.step Q1.out hk, Pt.step Q2.out hk, Pt.step Q3.out hk, Pt.step Q4.out hk, Pt.step Q5.out hk⟩, below_setRow (MC.below HM.out) (by omega) _⟩
end Go.Proofs.Qxb6000698aMods
