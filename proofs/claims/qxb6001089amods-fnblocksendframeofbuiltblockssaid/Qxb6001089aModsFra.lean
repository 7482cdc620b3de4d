import Derived.Test.Qxb6001089aModsFrm
import Derived.Test.Qxb6001089aModsCode
import Derived.Maps.AppendAt
namespace Go.Proofs.Qxb6001089aMods
open Go.RowKit

/-- what is owned can be read -/
theorem row_reads {base : Nat} {w : World} {v : Value} {n : Nat} {f : Nat → Nat} (hn : n ≤ 2000000) (h : w.ownsRow base 5 1 v n (bl n f)) : ∃ a c, v = .slice a n c ∧ IsN .u8 w a n c f := by
  rcases h.2 with ⟨rfl, rfl⟩ | ⟨g, cap, cur, rfl, _, hg, hle, _, hs, ht⟩
  · exact ⟨none, 0, rfl, by unfold maxLen; omega, .inl ⟨rfl, fun _ => rfl⟩⟩
  · refine ⟨_, _, rfl, by unfold maxLen; omega, ?_⟩
    by_cases h0 : n = 0
    · exact .inl ⟨h0, fun h => by cases h⟩
    · refine .inr ⟨by omega, g, 0, rfl, fun i hi => ?_⟩
      rw [cell_of_row _ _ _ _ _ _ hg, Nat.zero_add, ← Array.getElem?_toList]
      have : (cur.toList.take (n * 1))[i]? = (bl n f)[i]? := by rw [ht]
      rw [List.getElem?_take_of_lt (by omega)] at this
      rw [this]
      simp [bl, hi]
theorem bl_put (n : Nat) (F : Nat → Nat) (x : Nat) : bl n F ++ [Value.int .u8 (x : Int)] = bl (n + 1) (PF.put F n x) := by
  rw [← bl_succ, bl_congr n F (PF.put F n x) (fun i hi => by unfold PF.put; rw [if_neg (by omega)])]
  simp [PF.put]

/-- the text under construction: a row of the call's own -/
structure Rw (w0 w : World) (v : Value) (n : Nat) (F : Nat → Nat) : Prop where
  owns : w.ownsRow w0.heap.size 5 1 v n (bl n F)
  below : Below w0.heap.size w0 w
theorem Rw.size {w0 w : World} {v : Value} {n : Nat} {F : Nat → Nat} (h : Rw w0 w v n F) (o : Obj) : w0.heap.size ≤ (w.alloc o).heap.size := by
  have := h.below.size
  simp; omega
theorem Rw.drewN {w0 w : World} {v : Value} {n : Nat} {F : Nat → Nat} (h : Rw w0 w v n F) (m : Nat) : Rw w0 (w.drewN m) v n F :=
  ⟨owns_of_heap h.owns (fun _ _ => rfl), below_dN h.below m⟩
theorem Rw.push {w0 w w1 : World} {v v1 : Value} {n x : Nat} {F : Nat → Nat} {o : Obj} (h : Rw w0 w v n F) (ho : w1.ownsRow w0.heap.size 5 1 v1 (n + 1) (bl n F ++ [Value.int .u8 (x : Int)])) (hg : (w.alloc o).grownBy w1 v.ownBlock) : Rw w0 w1 v1 (n + 1) (PF.put F n x) := by
  refine ⟨by rw [← bl_put]; exact ho, ?_⟩
  exact (h.below.alloc h.below.size o).grown hg (h.size o) (own_base h.owns)
theorem Rw.next {w0 w w1 : World} {v v1 : Value} {n : Nat} {F : Nat → Nat} {o : Obj} (h : Rw w0 w v n F) (ho : w1.ownsRow w0.heap.size 5 1 v1 (n + 1) (bl n F ++ [Value.int .u8 (F n : Int)])) (hg : (w.alloc o).grownBy w1 v.ownBlock) : Rw w0 w1 v1 (n + 1) F := by
  refine ⟨by rw [← bl_succ]; exact ho, ?_⟩
  exact (h.below.alloc h.below.size o).grown hg (h.size o) (own_base h.owns)
theorem Rw.made {w0 w : World} {v : Value} {F : Nat → Nat} (ho : w.ownsRow w0.heap.size 5 1 v 0 []) (hg : w0.grownBy w none) : Rw w0 w v 0 F :=
  ⟨ho, (Below.refl _ _).grown hg (Nat.le_refl _) (fun _ h => by cases h)⟩
theorem IsN.drewN {k : IntKind} {w : World} {a : Option Addr} {len cap : Nat} {f : Nat → Nat} (h : IsN k w a len cap f) (m : Nat) : IsN k (w.drewN m) a len cap f :=
  h.below (below_dN (Below.refl w.heap.size w) m) (Nat.le_refl _)

theorem or_hk (s q : Nat) (hs : s < 2097152) (hq : q < 4) : bits BinOp.or IntKind.u32 ((s : Int) * 8) ((q : Int) * 2) = ((s * 8 + q * 2 : Nat) : Int) := by
  rw [bits_join .u32 32 (by decide) wraps_u32 3 _ _ (by omega) (by omega) (by omega) (by omega) (by omega) (by omega)]
  omega
theorem or_last (H : Nat) (h : H < 16777216) (h2 : H % 2 = 0) : bits BinOp.or IntKind.u32 (H : Int) 1 = ((H + 1 : Nat) : Int) := by
  rw [bits_join .u32 32 (by decide) wraps_u32 1 _ _ (by omega) (by omega) (by omega) (by omega) (by omega) (by omega)]
  omega
theorem byte_0 (H : Nat) : IntKind.u8.wrap (H : Int) = ((H % 256 : Nat) : Int) := by rw [IntKind.wrap_u8]; omega
theorem byte_1 (H : Nat) : IntKind.u8.wrap ((H : Int) / 256) = ((H / 256 % 256 : Nat) : Int) := by rw [IntKind.wrap_u8]; omega
theorem byte_2 (H : Nat) : IntKind.u8.wrap ((H : Int) / 65536) = ((H / 65536 % 256 : Nat) : Int) := by rw [IntKind.wrap_u8]; omega

set_option maxRecDepth 100000 in
set_option maxHeartbeats 4000000 in
theorem frame_main (a0 : Option Addr) (n0 c0 : Nat) (P : Nat → Nat) (a1 : Option Addr) (n1 c1 : Nat) (S : Nat → Nat) (a2 : Option Addr) (n2 c2 : Nat) (K : Nat → Nat) (w : World)
    (h0 : IsN .u8 w a0 n0 c0 P) (h1 : IsN .u32 w a1 n1 c1 S) (h2 : IsN .u8 w a2 n2 c2 K) (hP : ∀ i, P i < 256) (hS : ∀ i, S i < 4294967296) (hK : ∀ i, K i < 256)
    (g0 : n0 ≤ 1048576) (g1 : n1 ≤ 262144) (g2 : n2 ≤ 1048576) (g3 : n0 + 4 * n1 + n2 ≤ 1048576) :
    Calls Trym.prog 6 #[.slice a0 n0 c0, .slice a1 n1 c1, .slice a2 n2 c2] w fun e w' => e = .returned (.bool true) ∧ Below w.heap.size w w' := by
  have HZ : Hid _ := zzF_any a0 n0 c0 a1 n1 c1 a2 n2 c2 w h0.1 h1.1 h2.1
  have HN0 : Hid _ := h0
  have HN1 : Hid _ := h1
  have HN2 : Hid _ := h2
  have HP : Hid _ := hP
  have HS : Hid _ := hS
  have HK : Hid _ := hK
  obtain ⟨i0, hi, hz0, hz1, hz2⟩ := info_parts info5
  clear h0 h1 h2 hP hS hK
  go_enter Trym.func6, Trym.ntmps6
  go_wp2_with fail
  refine Calls.mono HZ.out ?_
  rintro e w1 ⟨⟨b, rfl⟩, rfl⟩
  clear HZ
  cases b
  · go_wp2
    go_ret
    exact ⟨rfl, Below.refl _ _⟩
  have q3 : decide ((1048576 : Int) < (n0 : Int) + 4 * (n1 : Int) + (n2 : Int)) = false := decide_eq_false (by omega)
  go_wp2_with fail
  clear q3
  go_loopw [7, 8] (fun t i wr => ∃ k : Nat, k ≤ n1 ∧ t = .int .i64 ((PF.pos S K n2 n0 k : Nat) : Int) ∧ i = .int .i64 (k : Int) ∧ PF.pos S K n2 n0 k ≤ 1048576 ∧ wr = w) (fun _ i _ => (n1 - intOf i).toNat)
  case atStart => exact ⟨0, by omega, rfl, rfl, g0, rfl⟩
  case round =>
    obtain ⟨k, hk, rfl, rfl, hpk, hw⟩ := hrel
    subst hw
    by_cases hlt : k < n1
    · have HC : Hid _ := clen_any a1 n1 c1 S a2 n2 c2 K k wr HN1.out HN2.out HS.out HK.out hlt
      have HPS : Hid _ := PF.pos_succ S K n2 n0 k
      have hcl := PF.cl_lt S K n2 k
      by_cases hp : PF.pos S K n2 n0 k + (3 + PF.cl S K n2 k) ≤ 1048576
      · go_wp2_with (go_at_call 14; refine Calls.mono HC.out ?_; rintro e w1 ⟨rfl, rfl⟩)
        go_roundw
        case rel => exact ⟨k + 1, by omega, by rw [HPS.out]; go_num, by go_num, by rw [HPS.out]; exact hp, by first | rfl | trivial⟩
        case measure => simp [intOf]; omega
      · go_wp2_with (go_at_call 14; refine Calls.mono HC.out ?_; rintro e w1 ⟨rfl, rfl⟩)
        go_ret
        exact ⟨rfl, Below.refl _ _⟩
    · obtain rfl : n1 = k := by omega
      go_wp2_with fail
      refine (cloneB_any _ _ _ P _ HN0.out g0).mono ?_
      intro e w1 hc
      obtain ⟨⟨b0, d0, rfl, hn0⟩, hb1⟩ := hc.out g0
      have HA0 : Hid _ := hn0
      have HB1 : Hid _ := hb1
      clear hc hn0 hb1
      go_wp2_with fail
      refine (cloneU_any _ _ _ S _ (IsN.below HN1.out HB1.out (Nat.le_refl _)) (by omega)).mono ?_
      intro e w2 hc
      obtain ⟨⟨b1, d1, rfl, hn1⟩, hb2⟩ := hc.out (by omega)
      have HA0 : Hid _ := IsN.below HA0.out hb2 (Nat.le_refl _)
      have HA1 : Hid _ := hn1
      have HB2 : Hid (Below wr.heap.size wr w2) := Below.trans HB1.out (hb2.mono (Below.size HB1.out))
      clear hc hn1 hb2 HB1
      go_wp2_with fail
      refine (cloneB_any _ _ _ K _ (IsN.below HN2.out HB2.out (Nat.le_refl _)) g2).mono ?_
      intro e w3 hc
      obtain ⟨⟨b2, d2, rfl, hn2⟩, hb3⟩ := hc.out g2
      have HA0 : Hid _ := IsN.below HA0.out hb3 (Nat.le_refl _)
      have HA1 : Hid _ := IsN.below HA1.out hb3 (Nat.le_refl _)
      have HA2 : Hid _ := hn2
      have HB3 : Hid (Below wr.heap.size wr w3) := Below.trans HB2.out (hb3.mono (Below.size HB2.out))
      clear hc hn2 hb3 HB2 HN0 HN1 HN2
      have HT : Hid (PF.pos S K n2 n0 n1 ≤ 1048576) := hpk
      have hmk1 : i0.bytes * PF.pos S K n2 n0 n1 ≤ 281474976710656 := by rw [hz2]; omega
      have hmk2 : PF.pos S K n2 n0 n1 ≤ maxLen := by unfold maxLen; omega
      have HM1 : Hid _ := hmk1
      have HM2 : Hid _ := hmk2
      clear hmk1 hmk2
      go_wp2_with (at_make; refine wpList_make_own _ rfl _ _ 24 rfl w3.heap.size 5 i0 (.int .u8 0) 1 Trym.underlying24 hi hz0 hz1 .i64 .i64 _ (PF.pos S K n2 n0 n1) rfl rfl rfl HM1.out HM2.out (Nat.le_refl _) ?_; intro w4 hown4 hgrow4)
      have HR0 : Hid (Rw w3 w4 _ 0 P) := Rw.made hown4 hgrow4
      clear hown4 hgrow4 HM1 HM2
      go_loopw [9, 10] (fun v i wr => ∃ t : Nat, t ≤ n0 ∧ i = .int .i64 (t : Int) ∧ Hid (Rw w3 wr v t P)) (fun _ i _ => (n0 - intOf i).toNat)
      case atStart => exact ⟨0, by omega, rfl, HR0⟩
      case round =>
        obtain ⟨t, ht, rfl, HR⟩ := hrel
        clear HR0
        by_cases hlt2 : t < n0
        · have HN : Hid _ := IsN.below HA0.out (Rw.below HR.out) (Nat.le_refl _)
          rcases HN.out.2 with ⟨hh, _⟩ | ⟨hp, b, off, rfl, hcell⟩
          · omega
          have hck := hcell t hlt2
          have hx := HP.out t
          have HM1 : Hid (t + 1 ≤ maxLen) := by show _ ≤ _; unfold maxLen; omega
          have HM2 : Hid ((t + 1) * 1 ≤ 140737488355328) := by show _ ≤ _; omega
          clear hcell HN
          go_wp2_with (at_builtin; refine wpList_append_own _ rfl (.tmp 78) (.tmp 83) 24 rfl w3.heap.size 5 i0 (.int .u8 0) 1 1 Trym.underlying24 hi hz0 hz1 hz2 rfl (by decide) _ _ _ rfl ((Rw.owns HR.out).alloc _) ⟨_, 0, none⟩ 1 1 [.int .u8 (P t : Int)] rfl rfl (cell_one_new _ _ _) (one_byte _) HM1.out HM2.out (Rw.size HR.out _) ?_; intro v1 w1 hown1 hgrow1 hnil1)
          have HR1 : Hid _ := Rw.next HR.out hown1 hgrow1
          go_roundw
          case rel => exact ⟨t + 1, by omega, by go_num, HR1⟩
          case measure => simp [intOf]; omega
        · obtain rfl : n0 = t := by omega
          go_wp2_with fail
          go_loopw [9, 11] (fun v i wr => ∃ (k : Nat) (F : Nat → Nat), k ≤ n1 ∧ i = .int .i64 (k : Int) ∧ Hid (PF.Bt S K n2 n1 n0 F k) ∧ Hid (Rw w3 wr v (PF.pos S K n2 n0 k) F)) (fun _ i _ => (n1 - intOf i).toNat)
          case atStart => exact ⟨0, P, by omega, rfl, PF.Bt.start HP.out, HR⟩
          case round =>
            clear HR
            obtain ⟨k, F, hk, rfl, HF, HR⟩ := hrel
            by_cases hlt3 : k < n1
            · have HN1 : Hid _ := IsN.below HA1.out (Rw.below HR.out) (Nat.le_refl _)
              have HN2 : Hid _ := IsN.below HA2.out (Rw.below HR.out) (Nat.le_refl _)
              have HKd : ∀ m, Hid (Calls Trym.prog 17 #[.slice b2 n2 d2, .int .i64 (k : Int)] (wr.drewN m) fun e w' => e = .returned (.int .i64 ((PF.kd K n2 k : Nat) : Int)) ∧ w' = wr.drewN m) := fun m => kind_any _ _ _ K k _ (IsN.drewN HN2.out m) HK.out
              rcases HN1.out.2 with ⟨hh, _⟩ | ⟨hp, b, off, rfl, hcell⟩
              · omega
              have hck := hcell k hlt3
              have hik : (k : Int) < (n1 : Int) := by omega
              have ha := and_u32_21 _ (HS.out k)
              have hs : S k % 2097152 < 2097152 := Nat.mod_lt _ (by decide)
              have hq := PF.kd_lt K n2 k
              have o1 := or_hk _ _ hs hq
              have HH0 : Hid (PF.h0 S K n2 k = S k % 2097152 * 8 + PF.kd K n2 k * 2) := rfl
              rw [← HH0.out] at o1
              have hH0 : PF.h0 S K n2 k < 16777216 := by rw [HH0.out]; omega
              have hH1 : PF.h0 S K n2 k % 2 = 0 := by rw [HH0.out]; omega
              have HH : Hid (PF.hd S K n2 n1 k = PF.h0 S K n2 k + if k + 1 = n1 then 1 else 0) := rfl
              have hHl := PF.hd_lt S K n2 n1 k
              have x0 := byte_0 (PF.hd S K n2 n1 k)
              have x1 := byte_1 (PF.hd S K n2 n1 k)
              have x2 := byte_2 (PF.hd S K n2 n1 k)
              have HB : Hid _ := PF.Bt.head HF.out rfl rfl rfl
              have hor : (bits BinOp.or IntKind.u32 ((PF.h0 S K n2 k : Nat) : Int) 1 = ((PF.hd S K n2 n1 k : Nat) : Int) ∧ ((k : Int) == (n1 : Int) - 1) = true) ∨ (PF.h0 S K n2 k = PF.hd S K n2 n1 k ∧ ((k : Int) == (n1 : Int) - 1) = false) := by
                rw [HH.out]
                by_cases hl : k + 1 = n1
                · rw [if_pos hl]
                  exact .inl ⟨or_last _ hH0 hH1, beq_iff_eq.2 (by omega)⟩
                · rw [if_neg hl]
                  exact .inr ⟨rfl, beq_eq_false_iff_ne.2 (by omega)⟩
              have HCL : Hid _ := fun (w' : World) (h : Below w3.heap.size w3 w') => clen_any _ _ _ S _ _ _ K k w' (IsN.below HA1.out h (Nat.le_refl _)) (IsN.below HA2.out h (Nat.le_refl _)) HS.out HK.out hlt3
              have hpl := PF.pos_lt S K n2 n0 k n1 hlt3
              have hT := HT.out
              have HPS : Hid _ := PF.pos_succ S K n2 n0 k
              have HPE : Hid (∀ G, PF.Bt S K n2 n1 n0 G (k + 1) → ∀ n x, PF.pos S K n2 n0 k + 3 ≤ n → x < 256 → PF.Bt S K n2 n1 n0 (PF.put G n x) (k + 1)) := fun G h n x h1 h2 => PF.Bt.put3 h n x h1 h2
              clear hcell HN1 HN2 hH1 HH HH0 hT
              generalize PF.hd S K n2 n1 k % 256 = y0 at *
              generalize PF.hd S K n2 n1 k / 256 % 256 = y1 at *
              generalize PF.hd S K n2 n1 k / 65536 % 256 = y2 at *
              generalize PF.hd S K n2 n1 k = H at *
              generalize PF.h0 S K n2 k = H0 at *
              generalize S k % 2097152 = sz at *
              generalize PF.kd K n2 k = q at *
              generalize PF.pos S K n2 n0 k = n at *
              have HT' := HT.out
              have HM1 : Hid (n + 1 ≤ maxLen) := by show _ ≤ _; unfold maxLen; omega
              have HM2 : Hid ((n + 1) * 1 ≤ 140737488355328) := by show _ ≤ _; omega
              have HM3 : Hid (n + 1 + 1 ≤ maxLen) := by show _ ≤ _; unfold maxLen; omega
              have HM4 : Hid ((n + 1 + 1) * 1 ≤ 140737488355328) := by show _ ≤ _; omega
              have HM5 : Hid (n + 1 + 1 + 1 ≤ maxLen) := by show _ ≤ _; unfold maxLen; omega
              have HM6 : Hid ((n + 1 + 1 + 1) * 1 ≤ 140737488355328) := by show _ ≤ _; omega
              clear HT'
              rcases hor with ⟨o2, q2⟩ | ⟨rfl, q2⟩
              all_goals
                go_wp2_with fail
                go_quiet ((go_at_call 17; exact Calls.quiet_of_same (HKd _).out))
                have HRq : Hid _ := Rw.drewN HR.out nq
                go_wp2_with (first
                  | (at_builtin; refine wpList_append_own _ rfl (.tmp 110) (.tmp 113) 24 rfl w3.heap.size 5 i0 (.int .u8 0) 1 1 Trym.underlying24 hi hz0 hz1 hz2 rfl (by decide) _ _ _ rfl ((Rw.owns HRq.out).alloc _) ⟨_, 0, none⟩ 1 1 [.int .u8 ((y0 : Nat) : Int)] rfl rfl (cell_one_new _ _ _) (one_byte _) HM1.out HM2.out (Rw.size HRq.out _) ?_; intro v1 w1 hown1 hgrow1 hnil1; have HR1 : Hid _ := Rw.push HRq.out hown1 hgrow1; clear hown1 hgrow1 hnil1)
                  | (at_builtin; refine wpList_append_own _ rfl (.tmp 115) (.tmp 119) 24 rfl w3.heap.size 5 i0 (.int .u8 0) 1 1 Trym.underlying24 hi hz0 hz1 hz2 rfl (by decide) _ _ _ rfl ((Rw.owns HR1.out).alloc _) ⟨_, 0, none⟩ 1 1 [.int .u8 ((y1 : Nat) : Int)] rfl rfl (cell_one_new _ _ _) (one_byte _) HM3.out HM4.out (Rw.size HR1.out _) ?_; intro v2 w2 hown1 hgrow1 hnil1; have HR2 : Hid _ := Rw.push HR1.out hown1 hgrow1; clear hown1 hgrow1 hnil1)
                  | (at_builtin; refine wpList_append_own _ rfl (.tmp 121) (.tmp 125) 24 rfl w3.heap.size 5 i0 (.int .u8 0) 1 1 Trym.underlying24 hi hz0 hz1 hz2 rfl (by decide) _ _ _ rfl ((Rw.owns HR2.out).alloc _) ⟨_, 0, none⟩ 1 1 [.int .u8 ((y2 : Nat) : Int)] rfl rfl (cell_one_new _ _ _) (one_byte _) HM5.out HM6.out (Rw.size HR2.out _) ?_; intro v3 w5 hown1 hgrow1 hnil1; have HR3 : Hid _ := Rw.push HR2.out hown1 hgrow1; clear hown1 hgrow1 hnil1)
                  | fail)
                refine (HCL.out _ (Rw.below HR3.out)).mono ?_
                rintro e _ ⟨rfl, rfl⟩
                have hcl := PF.cl_lt S K n2 k
                generalize PF.cl S K n2 k = C at *
                clear HKd hck ha o1 HR HRq HR1 HR2 HF x0 x1 x2 HCL
                go_wp2_with fail
                go_loopw [9, 14] (fun v i wr => ∃ (t : Nat) (G : Nat → Nat), t ≤ C ∧ i = .int .i64 (t : Int) ∧ Hid (PF.Bt S K n2 n1 n0 G (k + 1)) ∧ Hid (Rw w3 wr v (n + 1 + 1 + 1 + t) G)) (fun _ i _ => (C - intOf i).toNat)
                case atStart => exact ⟨0, _, by omega, rfl, HB, HR3⟩
                case round =>
                  obtain ⟨t, G, ht, rfl, HG, HR⟩ := hrel
                  clear HR3 HB
                  by_cases hlt4 : t < C
                  · have hT := HT.out
                    have HM1 : Hid (n + 1 + 1 + 1 + t + 1 ≤ maxLen) := by show _ ≤ _; unfold maxLen; omega
                    have HM2 : Hid ((n + 1 + 1 + 1 + t + 1) * 1 ≤ 140737488355328) := by show _ ≤ _; omega
                    clear hT
                    go_wp2_with (at_builtin; refine wpList_append_own _ rfl (.tmp 136) (.tmp 137) 24 rfl w3.heap.size 5 i0 (.int .u8 0) 1 1 Trym.underlying24 hi hz0 hz1 hz2 rfl (by decide) _ _ _ rfl ((Rw.owns HR.out).alloc _) ⟨_, 0, none⟩ 1 1 [.int .u8 ((1 : Nat) : Int)] rfl rfl (cell_one_new _ _ _) (one_byte _) HM1.out HM2.out (Rw.size HR.out _) ?_; intro v1 w1 hown1 hgrow1 hnil1)
                    have HR1 : Hid _ := Rw.push HR.out hown1 hgrow1
                    go_roundw
                    case rel => exact ⟨t + 1, _, by omega, by go_num, HPE.out G HG.out _ 1 (by omega) (by decide), HR1⟩
                    case measure => simp [intOf]; omega
                  · obtain rfl : C = t := by omega
                    go_wp2
                    go_roundw
                    case rel => exact ⟨k + 1, G, by omega, by go_num, HG, by rw [HPS.out, show n + (3 + C) = n + 1 + 1 + 1 + C by omega]; exact HR⟩
                    case measure => simp [intOf]; omega
            · obtain rfl : n1 = k := by omega
              obtain ⟨av, cv, rfl, hv⟩ := row_reads (by have := HT.out; omega) (Rw.owns HR.out)
              have HV : Hid _ := hv
              clear hv
              go_wp2_with fail
              refine (zzEnd_any _ _ _ F n0 _ HV.out HF.out.1 HT.out (by omega)).mono ?_
              rintro e w5 ⟨⟨E, L, rfl, hc5, hx5⟩, hb5⟩
              obtain ⟨rfl, rfl⟩ := PF.ends_built HF.out hc5 hx5
              have hb6 := Below.trans HB3.out ((Rw.below HR.out).mono (Below.size HB3.out))
              have HB6 : Hid _ := Below.trans hb6 (hb5.mono (Below.size hb6))
              clear hb6 hb5 hc5 hx5 HR HF HV
              by_cases hz : n1 = 0
              · subst hz
                go_wp2
                go_ret
                exact ⟨rfl, HB6.out⟩
              · have hd : decide (0 < n1) = true := decide_eq_true (by omega)
                have hzb : ((n1 : Int) == 0) = false := beq_eq_false_iff_ne.2 (by omega)
                rw [hd]
                go_wp2
                go_ret
                exact ⟨rfl, HB6.out⟩
end Go.Proofs.Qxb6001089aMods
