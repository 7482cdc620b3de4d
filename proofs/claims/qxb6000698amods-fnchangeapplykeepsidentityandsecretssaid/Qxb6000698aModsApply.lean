import Derived.Test.Qxb6000698aModsMk
namespace Go.Proofs.Qxb6000698aMods
open Go.RowKit

/-- the world in the midst of Apply: the change's box, the key's, the result's -/
structure AC (w wx : World) (P K : Array Value) : Prop where
  below : Below w.heap.size w wx
  b0 : wx.heap[w.heap.size]? = some (.cells P 45)
  b1 : wx.heap[w.heap.size + 1]? = some (.cells K 37)
  b2 : ∃ Z : Array Value, Z.size = 14 ∧ wx.heap[w.heap.size + 2]? = some (.cells Z 37)
theorem AC.put {w wx : World} {P K : Array Value} (h : AC w wx P K) (i : Nat) (v : Value) : AC w (wx.setCell ⟨w.heap.size + 1, i, none⟩ v) P (K.setIfInBounds i v) := by
  obtain ⟨Z, hz, h2⟩ := h.b2
  refine ⟨h.below.setCell (by simp) v, ?_, ?_, Z, hz, ?_⟩
  · rw [heap_setCell_other _ _ _ _ (by simp), h.b0]
  · exact heap_setCell_same _ _ _ _ _ _ h.b1
  · rw [heap_setCell_other _ _ _ _ (by simp), h2]

set_option maxHeartbeats 1000000 in
theorem apply_any (h0 h2 h4 h6 h8 h10 : Bool) (p0 p1 p2 p3 p4 p5 : Option Addr) (s0 s1 s2 s7 s9 s12 s13 : ByteArray) (i4 i5 i6 i8 i10 i11 : Int) (ka : Option Addr) (kl kc : Nat) (m : Nat) (w : World)
    (q0 : Pt IsStr m w h0 p0) (q1 : Pt IsStr m w h2 p1) (q2 : Pt IsSl m w h4 p2) (q3 : Pt IsI m w h6 p3) (q4 : Pt IsI m w h8 p4) (q5 : Pt IsStr m w h10 p5) :
    Calls Trym.prog 17 #[.agg #[.pointer p0, .pointer p1, .pointer p2, .pointer p3, .pointer p4, .pointer p5], .agg #[.string s0, .string s1, .string s2, .slice ka kl kc, .int .i64 i4, .int .i64 i5, .int .i64 i6, .string s7, .int .i64 i8, .string s9, .int .i64 i10, .int .i64 i11, .string s12, .string s13]] w fun e w' => (∃ (r1 : ByteArray) (r2 : ByteArray) (ra : Option Addr) (rl rc : Nat) (r4 : Int) (r5 : Int) (r7 : ByteArray), e = .returned (.agg #[.string s0, .string r1, .string r2, .slice ra rl rc, .int .i64 r4, .int .i64 r5, .int .i64 i6, .string r7, .int .i64 i8, .string s9, .int .i64 i10, .int .i64 i11, .string s12, .string s13]) ∧ (h0 = false → r1 = s1) ∧ (h2 = false → r2 = s2) ∧ (h4 = false → ra = ka ∧ rl = kl ∧ rc = kc) ∧ (h6 = false → r4 = i4) ∧ (h8 = false → r5 = i5) ∧ (h10 = false → r7 = s7)) ∧ Below w.heap.size w w' := by
  have Q0 : Hid _ := q0
  have Q1 : Hid _ := q1
  have Q2 : Hid _ := q2
  have Q3 : Hid _ := q3
  have Q4 : Hid _ := q4
  have Q5 : Hid _ := q5
  clear q0 q1 q2 q3 q4 q5
  have M0 : Hid (AC w (((w.alloc (.cells #[.pointer p0, .pointer p1, .pointer p2, .pointer p3, .pointer p4, .pointer p5] 45)).alloc (.cells #[.string s0, .string s1, .string s2, .slice ka kl kc, .int .i64 i4, .int .i64 i5, .int .i64 i6, .string s7, .int .i64 i8, .string s9, .int .i64 i10, .int .i64 i11, .string s12, .string s13] 37)).alloc (.cells #[.string ⟨#[]⟩, .string ⟨#[]⟩, .string ⟨#[]⟩, .slice none 0 0, .int .i64 0, .int .i64 0, .int .i64 0, .string ⟨#[]⟩, .int .i64 0, .string ⟨#[]⟩, .int .i64 0, .int .i64 0, .string ⟨#[]⟩, .string ⟨#[]⟩] 37)) #[.pointer p0, .pointer p1, .pointer p2, .pointer p3, .pointer p4, .pointer p5] #[.string s0, .string s1, .string s2, .slice ka kl kc, .int .i64 i4, .int .i64 i5, .int .i64 i6, .string s7, .int .i64 i8, .string s9, .int .i64 i10, .int .i64 i11, .string s12, .string s13]) := by
    refine ⟨(((Below.refl _ _).alloc (Nat.le_refl _) _).alloc (by simp) _).alloc (by simp; omega) _, ?_, ?_, #[.string ⟨#[]⟩, .string ⟨#[]⟩, .string ⟨#[]⟩, .slice none 0 0, .int .i64 0, .int .i64 0, .int .i64 0, .string ⟨#[]⟩, .int .i64 0, .string ⟨#[]⟩, .int .i64 0, .int .i64 0, .string ⟨#[]⟩, .string ⟨#[]⟩], rfl, ?_⟩
    · rw [Below.heap_alloc _ _ _ (by simp; omega), Below.heap_alloc _ _ _ (by simp)]; exact heap_alloc_new _ _
    · rw [Below.heap_alloc _ _ _ (by simp)]; exact heap_alloc2_new _ _ _
    · have := heap_alloc_new ((w.alloc (.cells #[.pointer p0, .pointer p1, .pointer p2, .pointer p3, .pointer p4, .pointer p5] 45)).alloc (.cells #[.string s0, .string s1, .string s2, .slice ka kl kc, .int .i64 i4, .int .i64 i5, .int .i64 i6, .string s7, .int .i64 i8, .string s9, .int .i64 i10, .int .i64 i11, .string s12, .string s13] 37)) (.cells #[.string ⟨#[]⟩, .string ⟨#[]⟩, .string ⟨#[]⟩, .slice none 0 0, .int .i64 0, .int .i64 0, .int .i64 0, .string ⟨#[]⟩, .int .i64 0, .string ⟨#[]⟩, .int .i64 0, .int .i64 0, .string ⟨#[]⟩, .string ⟨#[]⟩] 37)
      simpa using this
  go_enter Trym.func17, Trym.ntmps17
  go_upto_if 7 with fail
  generalize ((w.alloc (.cells #[.pointer p0, .pointer p1, .pointer p2, .pointer p3, .pointer p4, .pointer p5] 45)).alloc (.cells #[.string s0, .string s1, .string s2, .slice ka kl kc, .int .i64 i4, .int .i64 i5, .int .i64 i6, .string s7, .int .i64 i8, .string s9, .int .i64 i10, .int .i64 i11, .string s12, .string s13] 37)).alloc (.cells #[.string ⟨#[]⟩, .string ⟨#[]⟩, .string ⟨#[]⟩, .slice none 0 0, .int .i64 0, .int .i64 0, .int .i64 0, .string ⟨#[]⟩, .int .i64 0, .string ⟨#[]⟩, .int .i64 0, .int .i64 0, .string ⟨#[]⟩, .string ⟨#[]⟩] 37) = wc at M0 ⊢
  have hM : AC w wc #[.pointer p0, .pointer p1, .pointer p2, .pointer p3, .pointer p4, .pointer p5] #[.string s0, .string s1, .string s2, .slice ka kl kc, .int .i64 i4, .int .i64 i5, .int .i64 i6, .string s7, .int .i64 i8, .string s9, .int .i64 i10, .int .i64 i11, .string s12, .string s13] := M0
  clear M0
  have hcq : wc.cell? ⟨w.heap.size, 0, none⟩ = some (.pointer p0) := by rw [cell_of_row _ _ _ _ _ _ hM.b0]; rfl
  have hcp : wc.cell? ⟨w.heap.size + 1, 1, none⟩ = some (.string s1) := by rw [cell_of_row _ _ _ _ _ _ hM.b1]; rfl
  have hfp : wc.frozen? ⟨w.heap.size + 1, 1, none⟩ = false := frozen_of_row _ _ _ _ _ hM.b1
  have HM : Hid _ := hM
  clear hM 
  go_cut [] from 5 (fun wx => ∃ (r1 : ByteArray), AC w wx #[.pointer p0, .pointer p1, .pointer p2, .pointer p3, .pointer p4, .pointer p5] #[.string s0, .string r1, .string s2, .slice ka kl kc, .int .i64 i4, .int .i64 i5, .int .i64 i6, .string s7, .int .i64 i8, .string s9, .int .i64 i10, .int .i64 i11, .string s12, .string s13] ∧ (h0 = false → r1 = s1))
  case first =>
    rcases Q0.out with ⟨rfl, rfl⟩ | ⟨rfl, b, v0, rfl, _, hv, ⟨v, rfl⟩⟩
    · go_wp2
      go_meet
      case rel => exact ⟨s1, HM.out, fun _ => rfl⟩
    · have hvx : wc.cell? ⟨b, 0, none⟩ = some (.string v) := (AC.below HM.out).cell (p := ⟨b, 0, none⟩) (World.block_lt_of_cell? w _ hv) |>.trans hv
      clear hv
      go_wp2
      go_meet
      case rel => exact ⟨v, AC.put HM.out 1 _, fun h => by cases h⟩
  case rest =>
    clear hcq hcp hfp HM 
    obtain ⟨r1, hM, z0⟩ := hcut
    have hcq : wc.cell? ⟨w.heap.size, 1, none⟩ = some (.pointer p1) := by rw [cell_of_row _ _ _ _ _ _ hM.b0]; rfl
    have hcp : wc.cell? ⟨w.heap.size + 1, 2, none⟩ = some (.string s2) := by rw [cell_of_row _ _ _ _ _ _ hM.b1]; rfl
    have hfp : wc.frozen? ⟨w.heap.size + 1, 2, none⟩ = false := frozen_of_row _ _ _ _ _ hM.b1
    have HM : Hid _ := hM
    have E0 : Hid _ := z0
    clear hM z0
    go_upto_if 16 with fail
    go_cut [] from 5 (fun wx => ∃ (r1 : ByteArray) (r2 : ByteArray), AC w wx #[.pointer p0, .pointer p1, .pointer p2, .pointer p3, .pointer p4, .pointer p5] #[.string s0, .string r1, .string r2, .slice ka kl kc, .int .i64 i4, .int .i64 i5, .int .i64 i6, .string s7, .int .i64 i8, .string s9, .int .i64 i10, .int .i64 i11, .string s12, .string s13] ∧ (h0 = false → r1 = s1) ∧ (h2 = false → r2 = s2))
    case first =>
      rcases Q1.out with ⟨rfl, rfl⟩ | ⟨rfl, b, v0, rfl, _, hv, ⟨v, rfl⟩⟩
      · go_wp2
        go_meet
        case rel => exact ⟨r1, s2, HM.out, E0.out, fun _ => rfl⟩
      · have hvx : wc.cell? ⟨b, 0, none⟩ = some (.string v) := (AC.below HM.out).cell (p := ⟨b, 0, none⟩) (World.block_lt_of_cell? w _ hv) |>.trans hv
        clear hv
        go_wp2
        go_meet
        case rel => exact ⟨r1, v, AC.put HM.out 2 _, E0.out, fun h => by cases h⟩
    case rest =>
      clear hcq hcp hfp HM E0
      obtain ⟨r1, r2, hM, z0, z1⟩ := hcut
      have hcq : wc.cell? ⟨w.heap.size, 2, none⟩ = some (.pointer p2) := by rw [cell_of_row _ _ _ _ _ _ hM.b0]; rfl
      have hcp : wc.cell? ⟨w.heap.size + 1, 3, none⟩ = some (.slice ka kl kc) := by rw [cell_of_row _ _ _ _ _ _ hM.b1]; rfl
      have hfp : wc.frozen? ⟨w.heap.size + 1, 3, none⟩ = false := frozen_of_row _ _ _ _ _ hM.b1
      have HM : Hid _ := hM
      have E0 : Hid _ := z0
      have E1 : Hid _ := z1
      clear hM z0 z1
      go_upto_if 25 with fail
      go_cut [] from 5 (fun wx => ∃ (r1 : ByteArray) (r2 : ByteArray) (ra : Option Addr) (rl rc : Nat), AC w wx #[.pointer p0, .pointer p1, .pointer p2, .pointer p3, .pointer p4, .pointer p5] #[.string s0, .string r1, .string r2, .slice ra rl rc, .int .i64 i4, .int .i64 i5, .int .i64 i6, .string s7, .int .i64 i8, .string s9, .int .i64 i10, .int .i64 i11, .string s12, .string s13] ∧ (h0 = false → r1 = s1) ∧ (h2 = false → r2 = s2) ∧ (h4 = false → ra = ka ∧ rl = kl ∧ rc = kc))
      case first =>
        rcases Q2.out with ⟨rfl, rfl⟩ | ⟨rfl, b, v0, rfl, _, hv, ⟨va, vl, vc, rfl⟩⟩
        · go_wp2
          go_meet
          case rel => exact ⟨r1, r2, ka, kl, kc, HM.out, E0.out, E1.out, fun _ => ⟨rfl, rfl, rfl⟩⟩
        · have hvx : wc.cell? ⟨b, 0, none⟩ = some (.slice va vl vc) := (AC.below HM.out).cell (p := ⟨b, 0, none⟩) (World.block_lt_of_cell? w _ hv) |>.trans hv
          clear hv
          go_wp2
          go_meet
          case rel => exact ⟨r1, r2, va, vl, vc, AC.put HM.out 3 _, E0.out, E1.out, fun h => by cases h⟩
      case rest =>
        clear hcq hcp hfp HM E0 E1
        obtain ⟨r1, r2, ra, rl, rc, hM, z0, z1, z2⟩ := hcut
        have hcq : wc.cell? ⟨w.heap.size, 3, none⟩ = some (.pointer p3) := by rw [cell_of_row _ _ _ _ _ _ hM.b0]; rfl
        have hcp : wc.cell? ⟨w.heap.size + 1, 4, none⟩ = some (.int .i64 i4) := by rw [cell_of_row _ _ _ _ _ _ hM.b1]; rfl
        have hfp : wc.frozen? ⟨w.heap.size + 1, 4, none⟩ = false := frozen_of_row _ _ _ _ _ hM.b1
        have HM : Hid _ := hM
        have E0 : Hid _ := z0
        have E1 : Hid _ := z1
        have E2 : Hid _ := z2
        clear hM z0 z1 z2
        go_upto_if 34 with fail
        go_cut [] from 5 (fun wx => ∃ (r1 : ByteArray) (r2 : ByteArray) (ra : Option Addr) (rl rc : Nat) (r4 : Int), AC w wx #[.pointer p0, .pointer p1, .pointer p2, .pointer p3, .pointer p4, .pointer p5] #[.string s0, .string r1, .string r2, .slice ra rl rc, .int .i64 r4, .int .i64 i5, .int .i64 i6, .string s7, .int .i64 i8, .string s9, .int .i64 i10, .int .i64 i11, .string s12, .string s13] ∧ (h0 = false → r1 = s1) ∧ (h2 = false → r2 = s2) ∧ (h4 = false → ra = ka ∧ rl = kl ∧ rc = kc) ∧ (h6 = false → r4 = i4))
        case first =>
          rcases Q3.out with ⟨rfl, rfl⟩ | ⟨rfl, b, v0, rfl, _, hv, ⟨v, rfl⟩⟩
          · go_wp2
            go_meet
            case rel => exact ⟨r1, r2, ra, rl, rc, i4, HM.out, E0.out, E1.out, E2.out, fun _ => rfl⟩
          · have hvx : wc.cell? ⟨b, 0, none⟩ = some (.int .i64 v) := (AC.below HM.out).cell (p := ⟨b, 0, none⟩) (World.block_lt_of_cell? w _ hv) |>.trans hv
            clear hv
            go_wp2
            go_meet
            case rel => exact ⟨r1, r2, ra, rl, rc, v, AC.put HM.out 4 _, E0.out, E1.out, E2.out, fun h => by cases h⟩
        case rest =>
          clear hcq hcp hfp HM E0 E1 E2
          obtain ⟨r1, r2, ra, rl, rc, r4, hM, z0, z1, z2, z3⟩ := hcut
          have hcq : wc.cell? ⟨w.heap.size, 4, none⟩ = some (.pointer p4) := by rw [cell_of_row _ _ _ _ _ _ hM.b0]; rfl
          have hcp : wc.cell? ⟨w.heap.size + 1, 5, none⟩ = some (.int .i64 i5) := by rw [cell_of_row _ _ _ _ _ _ hM.b1]; rfl
          have hfp : wc.frozen? ⟨w.heap.size + 1, 5, none⟩ = false := frozen_of_row _ _ _ _ _ hM.b1
          have HM : Hid _ := hM
          have E0 : Hid _ := z0
          have E1 : Hid _ := z1
          have E2 : Hid _ := z2
          have E3 : Hid _ := z3
          clear hM z0 z1 z2 z3
          go_upto_if 43 with fail
          go_cut [] from 5 (fun wx => ∃ (r1 : ByteArray) (r2 : ByteArray) (ra : Option Addr) (rl rc : Nat) (r4 : Int) (r5 : Int), AC w wx #[.pointer p0, .pointer p1, .pointer p2, .pointer p3, .pointer p4, .pointer p5] #[.string s0, .string r1, .string r2, .slice ra rl rc, .int .i64 r4, .int .i64 r5, .int .i64 i6, .string s7, .int .i64 i8, .string s9, .int .i64 i10, .int .i64 i11, .string s12, .string s13] ∧ (h0 = false → r1 = s1) ∧ (h2 = false → r2 = s2) ∧ (h4 = false → ra = ka ∧ rl = kl ∧ rc = kc) ∧ (h6 = false → r4 = i4) ∧ (h8 = false → r5 = i5))
          case first =>
            rcases Q4.out with ⟨rfl, rfl⟩ | ⟨rfl, b, v0, rfl, _, hv, ⟨v, rfl⟩⟩
            · go_wp2
              go_meet
              case rel => exact ⟨r1, r2, ra, rl, rc, r4, i5, HM.out, E0.out, E1.out, E2.out, E3.out, fun _ => rfl⟩
            · have hvx : wc.cell? ⟨b, 0, none⟩ = some (.int .i64 v) := (AC.below HM.out).cell (p := ⟨b, 0, none⟩) (World.block_lt_of_cell? w _ hv) |>.trans hv
              clear hv
              go_wp2
              go_meet
              case rel => exact ⟨r1, r2, ra, rl, rc, r4, v, AC.put HM.out 5 _, E0.out, E1.out, E2.out, E3.out, fun h => by cases h⟩
          case rest =>
            clear hcq hcp hfp HM E0 E1 E2 E3
            obtain ⟨r1, r2, ra, rl, rc, r4, r5, hM, z0, z1, z2, z3, z4⟩ := hcut
            have hcq : wc.cell? ⟨w.heap.size, 5, none⟩ = some (.pointer p5) := by rw [cell_of_row _ _ _ _ _ _ hM.b0]; rfl
            have hcp : wc.cell? ⟨w.heap.size + 1, 7, none⟩ = some (.string s7) := by rw [cell_of_row _ _ _ _ _ _ hM.b1]; rfl
            have hfp : wc.frozen? ⟨w.heap.size + 1, 7, none⟩ = false := frozen_of_row _ _ _ _ _ hM.b1
            have HM : Hid _ := hM
            have E0 : Hid _ := z0
            have E1 : Hid _ := z1
            have E2 : Hid _ := z2
            have E3 : Hid _ := z3
            have E4 : Hid _ := z4
            clear hM z0 z1 z2 z3 z4
            go_upto_if 52 with fail
            go_cut [] from 5 (fun wx => ∃ (r1 : ByteArray) (r2 : ByteArray) (ra : Option Addr) (rl rc : Nat) (r4 : Int) (r5 : Int) (r7 : ByteArray), AC w wx #[.pointer p0, .pointer p1, .pointer p2, .pointer p3, .pointer p4, .pointer p5] #[.string s0, .string r1, .string r2, .slice ra rl rc, .int .i64 r4, .int .i64 r5, .int .i64 i6, .string r7, .int .i64 i8, .string s9, .int .i64 i10, .int .i64 i11, .string s12, .string s13] ∧ (h0 = false → r1 = s1) ∧ (h2 = false → r2 = s2) ∧ (h4 = false → ra = ka ∧ rl = kl ∧ rc = kc) ∧ (h6 = false → r4 = i4) ∧ (h8 = false → r5 = i5) ∧ (h10 = false → r7 = s7))
            case first =>
              rcases Q5.out with ⟨rfl, rfl⟩ | ⟨rfl, b, v0, rfl, _, hv, ⟨v, rfl⟩⟩
              · go_wp2
                go_meet
                case rel => exact ⟨r1, r2, ra, rl, rc, r4, r5, s7, HM.out, E0.out, E1.out, E2.out, E3.out, E4.out, fun _ => rfl⟩
              · have hvx : wc.cell? ⟨b, 0, none⟩ = some (.string v) := (AC.below HM.out).cell (p := ⟨b, 0, none⟩) (World.block_lt_of_cell? w _ hv) |>.trans hv
                clear hv
                go_wp2
                go_meet
                case rel => exact ⟨r1, r2, ra, rl, rc, r4, r5, v, AC.put HM.out 7 _, E0.out, E1.out, E2.out, E3.out, E4.out, fun h => by cases h⟩
            case rest =>
              clear hcq hcp hfp HM E0 E1 E2 E3 E4
              obtain ⟨r1, r2, ra, rl, rc, r4, r5, r7, hM, z0, z1, z2, z3, z4, z5⟩ := hcut
              obtain ⟨Z, hZ, g2⟩ := hM.b2
              have HM : Hid _ := hM
              have HZ : Hid _ := hZ
              have G2 : Hid _ := g2
              have E0 : Hid _ := z0
              have E1 : Hid _ := z1
              have E2 : Hid _ := z2
              have E3 : Hid _ := z3
              have E4 : Hid _ := z4
              have E5 : Hid _ := z5
              clear hM z0 z1 z2 z3 z4 z5 hZ g2
              have H1 : Hid ((#[.string s0, .string r1, .string r2, .slice ra rl rc, .int .i64 r4, .int .i64 r5, .int .i64 i6, .string r7, .int .i64 i8, .string s9, .int .i64 i10, .int .i64 i11, .string s12, .string s13] : Array Value).all (·.oneCell') = true) := by show _ = _; simp [Value.oneCell']
              go_wp2_with (first
                | (refine wpList_load_row rfl 37 _ rfl _ rfl 37 #[.string s0, .string r1, .string r2, .slice ra rl rc, .int .i64 r4, .int .i64 r5, .int .i64 i6, .string r7, .int .i64 i8, .string s9, .int .i64 i10, .int .i64 i11, .string s12, .string s13] (0, 0) _ (AC.b1 HM.out) Trym.underlying37 rfl size37 ?_)
                | (refine wpList_store_row rfl 37 _ _ rfl (w.heap.size + 2) _ rfl rfl 37 _ G2.out size37 HZ.out H1.out ?_))
              have G4 := setRow_heap wc (w.heap.size + 2) _ #[.string s0, .string r1, .string r2, .slice ra rl rc, .int .i64 r4, .int .i64 r5, .int .i64 i6, .string r7, .int .i64 i8, .string s9, .int .i64 i10, .int .i64 i11, .string s12, .string s13] 37 _ G2.out
              exact bodyPost_ret (results_cell_row (p := 4) (ty := 37) rfl _ _ (w.heap.size + 2) 37 #[.string s0, .string r1, .string r2, .slice ra rl rc, .int .i64 r4, .int .i64 r5, .int .i64 i6, .string r7, .int .i64 i8, .string s9, .int .i64 i10, .int .i64 i11, .string s12, .string s13] (0, 0) _ rfl G4 Trym.underlying37 rfl size37) rfl ⟨⟨r1, r2, ra, rl, rc, r4, r5, r7, rfl, E0.out, E1.out, E2.out, E3.out, E4.out, E5.out⟩, below_setRow (AC.below HM.out) (by omega) _⟩
end Go.Proofs.Qxb6000698aMods
