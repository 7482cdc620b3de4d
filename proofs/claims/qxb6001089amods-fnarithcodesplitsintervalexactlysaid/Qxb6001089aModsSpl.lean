import Derived.Test.Qxb6001089aModsAri
namespace Go.Proofs.Qxb6001089aMods
open Go.RowKit

theorem or_full (H : Nat) (h : H < 4294967296) : bits BinOp.or IntKind.u64 ((H : Int) * 4294967296) 4294967295 = (H : Int) * 4294967296 + 4294967295 :=
  bits_join .u64 64 (by decide) wraps_u64 32 _ _ (by omega) (by omega) (by omega) (by omega) (by omega) (by omega)
theorem cast_lo (L : Nat) : ((L * 4294967296 : Nat) : Int) = (L : Int) * 4294967296 := by omega
theorem cast_hi (H : Nat) : ((H * 4294967296 + 4294967295 : Nat) : Int) = (H : Int) * 4294967296 + 4294967295 := by omega
theorem Wide.int {e : Ending} {lo hi : Nat} (h : Wide e lo hi) : ∃ X Y : Int, e = .returned (.tuple #[.int .u64 X, .int .u64 Y, .bool true]) ∧ X = (lo : Int) ∧ Y = (hi : Int) := ⟨_, _, h, rfl, rfl⟩
/-- how the four ends lie to one another -/
structure Ends (L H : Nat) (X1 Y1 X0 Y0 : Int) : Prop where
  lo : (L : Int) * 4294967296 = X1
  hi : bits BinOp.or IntKind.u64 ((H : Int) * 4294967296) 4294967295 = Y0
  le1 : X1 ≤ Y1
  le0 : X0 ≤ Y0
  lt : Y1 < Y0
  nn : 0 ≤ Y1
  next : Y1 + 1 = X0
  nextw : IntKind.u64.wrap X0 = X0
theorem ends_of (L H q : Nat) (hH : H < 4294967296) (hq : q < H - L) (X1 Y1 X0 Y0 : Int) (e1 : X1 = ((L * 4294967296 : Nat) : Int)) (e2 : Y1 = (((L + q) * 4294967296 + 4294967295 : Nat) : Int)) (e3 : X0 = (((L + q + 1) * 4294967296 : Nat) : Int)) (e4 : Y0 = ((H * 4294967296 + 4294967295 : Nat) : Int)) : Ends L H X1 Y1 X0 Y0 := by
  rw [cast_lo] at e1 e3
  rw [cast_hi] at e2 e4
  have hc : ((L + q : Nat) : Int) = (L : Int) + (q : Int) := by omega
  have hc2 : ((L + q + 1 : Nat) : Int) = (L : Int) + (q : Int) + 1 := by omega
  rw [hc] at e2
  rw [hc2] at e3
  refine ⟨e1.symm, (or_full H hH).trans e4.symm, by omega, by omega, by omega, by omega, by omega, ?_⟩
  rw [IntKind.wrap_u64]
  omega
theorem ok_of {l h : Nat} (h1 : l ≤ h) (h2 : l / 16777216 ≠ h / 16777216) : okB l h = true := by simp [okB, h1, h2]

set_option maxRecDepth 100000 in
set_option maxHeartbeats 1000000 in
theorem split_in (L H p n : Nat) (a : Option Addr) (c : Nat) (f : Nat → Nat) (w : World) (hN : IsN .u8 w a n c f) (hn : n ≤ 1048576) (hLH : L < H) (hH : H < 4294967296) (hp1 : 1 ≤ p) (hp : p ≤ 4095) (hok : okB L H = true) :
    Calls Trym.prog 10 #[.int .u32 (L : Int), .int .u32 (H : Int), .slice a n c, .int .i64 (p : Int)] w fun e w' => e = .returned (.bool true) ∧ Below w.heap.size w w' := by
  have hz := zzA_any (L : Int) (H : Int) (p : Int) a n c w hN.1
  rw [decide_eq_true hn] at hz
  have HZ : Hid _ := hz
  have hv := valid_any L H w (by omega) hH
  rw [hok] at hv
  have HV : Hid _ := hv
  have HN : Hid _ := hN
  clear hz hv hok hN
  go_enter Trym.func10, Trym.ntmps10
  go_wp2_with (first
    | (go_at_call 26; refine Calls.mono HZ.out ?_; rintro e w1 ⟨rfl, rfl⟩)
    | (go_at_call 25; refine Calls.mono HV.out ?_; rintro e w1 ⟨rfl, rfl⟩)
    | fail)
  refine (cloneB_any _ _ _ f _ HN.out hn).mono ?_
  intro e w1 hc
  obtain ⟨a', c', rfl, _, hb1, hn1⟩ := hc.owns hn
  have HB1 : Hid _ := hb1
  have HN1 : Hid _ := hn1
  clear hc hb1 hn1 HZ HV HN
  go_wp2_with fail
  refine (cloneB_any _ _ _ f _ HN1.out hn).mono ?_
  intro e w2 hc
  obtain ⟨a2, c2, rfl, ho2, hb2, _⟩ := hc.owns hn
  have HO2 : Hid _ := ho2
  have HB2 : Hid _ := hb2
  have HN2 : Hid _ := IsN.below HN1.out hb2 (Nat.le_refl _)
  clear hc ho2 hb2
  go_wp2_with fail
  refine (zza1 w1.heap.size _ L H p _ _ _ f HO2.out (Below.size HB2.out) hn hLH hH hp).mono ?_
  rintro e w3 ⟨k1, v1, hk1, hT1, hD1, rfl, ho3, hb3⟩
  obtain ⟨a3, c3, rfl, hn3⟩ := owns_reads (by omega) ho3
  have HB3 : Hid (Below w1.heap.size w1 w3) := Below.trans HB2.out hb3
  have HN3 : Hid _ := IsN.below HN1.out HB3.out (Nat.le_refl _)
  have HR1 : Hid _ := hn3
  have HX1 : Hid _ := (⟨hk1, hT1, hD1⟩ : _ ∧ _ ∧ _)
  clear ho3 hb3 hn3 hT1 hD1 HO2 HB2 HN2
  go_wp2_with fail
  refine (cloneB_any _ _ _ f _ HN3.out hn).mono ?_
  intro e w4 hc
  obtain ⟨a4, c4, rfl, ho4, hb4, _⟩ := hc.owns hn
  have HO4 : Hid _ := ho4
  have HB4 : Hid _ := hb4
  clear hc ho4 hb4
  go_wp2_with fail
  refine (zza0 w3.heap.size _ L H p _ _ _ f HO4.out (Below.size HB4.out) hn hLH hH hp).mono ?_
  rintro e w5 ⟨k0, v0, hk0, hT0, hD0, rfl, ho5, hb5⟩
  obtain ⟨a5, c5, rfl, hn5⟩ := owns_reads (by omega) ho5
  have HB5 : Hid (Below w3.heap.size w3 w5) := Below.trans HB4.out hb5
  have HR0 : Hid _ := hn5
  have HN5 : Hid _ := IsN.below HN3.out HB5.out (Nat.le_refl _)
  have HR15 : Hid _ := IsN.below HR1.out HB5.out (Nat.le_refl _)
  have HX0 : Hid _ := (⟨hk0, hT0, hD0⟩ : _ ∧ _ ∧ _)
  have HBB : Hid (Below w.heap.size w w5) := (Below.trans HB1.out (Below.mono HB3.out (Below.size HB1.out))).trans (Below.mono HB5.out (Nat.le_trans (Below.size HB1.out) (Below.size HB3.out)))
  clear ho5 hb5 hn5 hT0 hD0 HO4 HB4 HN3 HR1 HB3 HB5 HN1 HB1
  go_wp2_with fail
  have hq := PA.qq_lt L H p hLH hp
  refine (widen_any _ _ n _ _ k1 f L (L + PA.qq L H p) _ HN5.out HR15.out hn (by omega) hk1 HX1.out.2.1).mono ?_
  rintro e w6 ⟨hw6, hb6⟩
  obtain ⟨X1, Y1, rfl, hX1, hY1⟩ := hw6.int
  have EX1 : Hid _ := hX1
  have EY1 : Hid _ := hY1
  clear hw6 hX1 hY1
  have HN6 : Hid _ := IsN.below HN5.out hb6 (Nat.le_refl _)
  have HR06 : Hid _ := IsN.below HR0.out hb6 (Nat.le_refl _)
  have HB6 : Hid (Below w.heap.size w w6) := Below.trans HBB.out (hb6.mono (Below.size HBB.out))
  clear hb6 HBB HN5 HR15 HR0
  go_wp2_with fail
  refine (widen_any _ _ n _ _ k0 f (L + PA.qq L H p + 1) H _ HN6.out HR06.out hn hH hk0 HX0.out.2.1).mono ?_
  rintro e w7 ⟨hw7, hb7⟩
  obtain ⟨X0, Y0, rfl, hX0, hY0⟩ := hw7.int
  have hE := ends_of L H _ hH hq X1 Y1 X0 Y0 EX1.out EY1.out hX0 hY0
  have g1 := hE.lo
  have g2 := hE.hi
  have g3 := hE.le1
  have g4 := hE.le0
  have g5 := hE.lt
  have g6 := hE.nn
  have g7 := hE.next
  have g8 := hE.nextw
  clear hw7 hX0 hY0 EX1 EY1 hE
  have HB7 : Hid (Below w.heap.size w w7) := Below.trans HB6.out (hb7.mono (Below.size HB6.out))
  clear hb7 HB6 HN6 HR06
  have hv1 := valid_any (PA.sL L k1) (PA.sH (L + PA.qq L H p) k1) w7 (PA.sL_lt _ _) (PA.sH_lt _ _)
  rw [ok_of (PA.s_le _ _ _ (by omega) hk1 HX1.out.2.1) HX1.out.2.2] at hv1
  have hv0 := valid_any (PA.sL (L + PA.qq L H p + 1) k0) (PA.sH H k0) w7 (PA.sL_lt _ _) (PA.sH_lt _ _)
  rw [ok_of (PA.s_le _ _ _ (by omega) hk0 HX0.out.2.1) HX0.out.2.2] at hv0
  have HV1 : Hid _ := hv1
  have HV0 : Hid _ := hv0
  clear hv1 hv0 HX0 HX1
  generalize PA.qq L H p = q at *
  go_wp2_with fail
  refine Calls.mono HV1.out ?_
  rintro e w8 ⟨rfl, rfl⟩
  go_wp2_with fail
  refine Calls.mono HV0.out ?_
  rintro e w8 ⟨rfl, rfl⟩
  go_wp2
  go_ret
  exact ⟨rfl, HB7.out⟩
end Go.Proofs.Qxb6001089aMods
