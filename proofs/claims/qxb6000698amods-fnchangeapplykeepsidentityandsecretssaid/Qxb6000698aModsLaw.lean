import Derived.Test.Qxb6000698aModsApply
import Derived.Test.Qxb6000698aModsSize
import Derived.Test.Qxb6000698aModsZz
import Derived.Test.Qxb6000698aModsEqKey
import Derived.Deep.RegionHeld
namespace Go.Proofs.Qxb6000698aMods
open Go.RowKit
set_option linter.unusedSimpArgs false

/-- the world in the midst of the law: the change's box, the key's -/
structure LW (w wx : World) (C K : Array Value) : Prop where
  below : Below w.heap.size w wx
  b0 : wx.heap[w.heap.size]? = some (.cells C 24)
  b1 : wx.heap[w.heap.size + 1]? = some (.cells K 26)
theorem LW.size {w wx : World} {C K : Array Value} (h : LW w wx C K) : w.heap.size + 1 < wx.heap.size := (Array.getElem?_eq_some_iff.1 h.b1).1
theorem LW.call {w wx w1 : World} {C K : Array Value} (h : LW w wx C K) (hb : Below wx.heap.size wx w1) : LW w w1 C K := by
  have := h.size
  exact ⟨h.below.trans (hb.mono (by omega)), (hb.block _ (by omega)).trans h.b0, (hb.block _ (by omega)).trans h.b1⟩
theorem LW.drew {w wx : World} {C K : Array Value} (h : LW w wx C K) : LW w wx.drew C K := ⟨h.below.drew, h.b0, h.b1⟩
theorem LW.start (w : World) (C K : Array Value) : LW w ((w.alloc (.cells C 24)).alloc (.cells K 26)) C K :=
  ⟨((Below.refl _ _).alloc (Nat.le_refl _) _).alloc (by simp) _, heap_alloc2_old _ _ _, heap_alloc2_new _ _ _⟩
theorem LW.set0 {w wx : World} {C K : Array Value} (h : LW w wx C K) (C' : Array Value) : LW w (wx.setRow w.heap.size C') C' K :=
  ⟨below_setRow h.below (Nat.le_refl _) _, setRow_heap _ _ _ _ _ _ h.b0, by rw [setRow_other _ _ _ _ (by omega), h.b1]⟩
theorem LW.set1 {w wx : World} {C K : Array Value} (h : LW w wx C K) (K' : Array Value) : LW w (wx.setRow (w.heap.size + 1) K') C K' :=
  ⟨below_setRow h.below (by omega) _, by rw [setRow_other _ _ _ _ (by omega), h.b0], setRow_heap _ _ _ _ _ _ h.b1⟩
theorem LW.range0 {w wx : World} {C K : Array Value} (h : LW w wx C K) : wx.rangeAt w.heap.size 0 C.toList := fun j v hv => by
  rw [Nat.zero_add, cell_of_row _ _ _ _ _ _ h.b0]; simpa using hv
theorem LW.range1 {w wx : World} {C K : Array Value} (h : LW w wx C K) : wx.rangeAt (w.heap.size + 1) 0 K.toList := fun j v hv => by
  rw [Nat.zero_add, cell_of_row _ _ _ _ _ _ h.b1]; simpa using hv


theorem row_range {wx : World} {b : Nat} {C : Array Value} {t : TypeId} {fr : Nat × Nat} (h : wx.heap[b]? = some (.cells C t fr)) : wx.rangeAt b 0 C.toList := fun j v hv => by
  rw [Nat.zero_add, cell_of_row _ _ _ _ _ _ h]; simpa using hv
theorem FrS.apart {n : Nat} {wx : World} {a : Option Addr} {l c : Nat} {f : Nat → ByteArray} {gb : Nat} (h : FrS n wx a l c f) (hne : 0 < l → ∀ b off, a = some ⟨b, off, none⟩ → b ≠ gb) (C : Array Value) : FrS n (wx.setRow gb C) a l c f :=
  ⟨h.1.cells fun b off hp ha i => cell_of_heap (setRow_other _ _ _ _ (hne hp b off ha)) i, h.2⟩
theorem LW.alloc {w wx : World} {C K : Array Value} (h : LW w wx C K) (o : Obj) : LW w (wx.alloc o) C K := by
  have := h.size
  exact ⟨h.below.alloc (by omega) _, by rw [Below.heap_alloc _ _ _ (by omega)]; exact h.b0, by rw [Below.heap_alloc _ _ _ (by omega)]; exact h.b1⟩
/-- the boxes and the two lists -/
structure ST (w wx : World) (C K : Array Value) (a : Option Addr) (l c : Nat) (f : Nat → ByteArray) (a' : Option Addr) (l' c' : Nat) (g : Nat → ByteArray) : Prop where
  L : LW w wx C K
  F : FrS (w.heap.size + 2) wx a l c f
  G : FrS (w.heap.size + 2) wx a' l' c' g
theorem ST.call {w wx w1 : World} {C K : Array Value} {a : Option Addr} {l c : Nat} {f : Nat → ByteArray} {a' : Option Addr} {l' c' : Nat} {g : Nat → ByteArray} (h : ST w wx C K a l c f a' l' c' g) (hb : Below wx.heap.size wx w1) : ST w w1 C K a l c f a' l' c' g :=
  ⟨h.L.call hb, h.F.step (Nat.le_refl _) (fun b _ h => hb.block b h), h.G.step (Nat.le_refl _) (fun b _ h => hb.block b h)⟩
theorem ST.alloc {w wx : World} {C K : Array Value} {a : Option Addr} {l c : Nat} {f : Nat → ByteArray} {a' : Option Addr} {l' c' : Nat} {g : Nat → ByteArray} (h : ST w wx C K a l c f a' l' c' g) (o : Obj) : ST w (wx.alloc o) C K a l c f a' l' c' g :=
  ⟨h.L.alloc o, h.F.step (Nat.le_refl _) (fun _ _ h => Below.heap_alloc _ _ _ h), h.G.step (Nat.le_refl _) (fun _ _ h => Below.heap_alloc _ _ _ h)⟩
theorem Pt.lower {K : Value → Prop} {n m : Nat} {wx : World} {has : Bool} {p : Option Addr} (h : Pt K n wx has p) (hm : m ≤ n) : Pt K m wx has p := by
  rcases h with h | ⟨h, b, v, hp, hn, hv, hk⟩
  · exact .inl h
  · exact .inr ⟨h, b, v, hp, by omega, hv, hk⟩
/-- the change's six fields -/
structure P6 (n : Nat) (wx : World) (h0 h2 h4 h6 h8 h10 : Bool) (p0 p1 p2 p3 p4 p5 : Option Addr) : Prop where
  q0 : Pt IsStr n wx h0 p0
  q1 : Pt IsStr n wx h2 p1
  q2 : Pt IsSl n wx h4 p2
  q3 : Pt IsI n wx h6 p3
  q4 : Pt IsI n wx h8 p4
  q5 : Pt IsStr n wx h10 p5
theorem P6.step {n : Nat} {wx w1 : World} {h0 h2 h4 h6 h8 h10 : Bool} {p0 p1 p2 p3 p4 p5 : Option Addr} (h : P6 n wx h0 h2 h4 h6 h8 h10 p0 p1 p2 p3 p4 p5) (hc : ∀ b, n ≤ b → b < wx.heap.size → w1.heap[b]? = wx.heap[b]?) : P6 n w1 h0 h2 h4 h6 h8 h10 p0 p1 p2 p3 p4 p5 :=
  ⟨h.q0.step hc, h.q1.step hc, h.q2.step hc, h.q3.step hc, h.q4.step hc, h.q5.step hc⟩
theorem P6.lower {n m : Nat} {wx : World} {h0 h2 h4 h6 h8 h10 : Bool} {p0 p1 p2 p3 p4 p5 : Option Addr} (hm : m ≤ n) (h : P6 n wx h0 h2 h4 h6 h8 h10 p0 p1 p2 p3 p4 p5) : P6 m wx h0 h2 h4 h6 h8 h10 p0 p1 p2 p3 p4 p5 :=
  ⟨h.q0.lower hm, h.q1.lower hm, h.q2.lower hm, h.q3.lower hm, h.q4.lower hm, h.q5.lower hm⟩
/-- the variable's own block -/
structure GB (a : Option Addr) (l : Nat) (n : Nat) (wx : World) (gb : Nat) : Prop where
  ne : 0 < l → ∀ b off, a = some ⟨b, off, none⟩ → b ≠ gb
  lo : n + 1 < gb
  hi : gb < wx.heap.size
  at_ : wx.heap[gb]? = some (.cells #[.string ⟨#[]⟩, .string ⟨#[]⟩, .string ⟨#[]⟩, .slice none 0 0, .int .i64 0, .int .i64 0, .int .i64 0, .string ⟨#[]⟩, .int .i64 0, .string ⟨#[]⟩, .int .i64 0, .int .i64 0, .string ⟨#[]⟩, .string ⟨#[]⟩] 37)
theorem GB.call {a : Option Addr} {l n : Nat} {wx w1 : World} {gb : Nat} (h : GB a l n wx gb) (hb : Below wx.heap.size wx w1) : GB a l n w1 gb :=
  ⟨h.ne, h.lo, Nat.lt_of_lt_of_le h.hi hb.size, (hb.block _ h.hi).trans h.at_⟩
theorem GB.new {a : Option Addr} {l c n : Nat} {f : Nat → ByteArray} {wx : World} (hs : IsS wx a l c f) (h : n + 1 < wx.heap.size) : GB a l n (wx.alloc (.cells #[.string ⟨#[]⟩, .string ⟨#[]⟩, .string ⟨#[]⟩, .slice none 0 0, .int .i64 0, .int .i64 0, .int .i64 0, .string ⟨#[]⟩, .int .i64 0, .string ⟨#[]⟩, .int .i64 0, .int .i64 0, .string ⟨#[]⟩, .string ⟨#[]⟩] 37)) wx.heap.size :=
  ⟨fun hp b off ha => by
    rcases hs.2 with ⟨h0, _⟩ | ⟨_, b', off', he, hc⟩
    · omega
    · rw [ha] at he
      cases he
      exact Nat.ne_of_lt (World.block_lt_of_cell? wx _ (hc 0 hp).1), h, by simp, heap_alloc_new _ _⟩


set_option maxRecDepth 100000 in
set_option maxHeartbeats 2000000 in
theorem law_any (h0 h2 h4 h6 h8 h10 : Bool) (c1 c3 c11 : ByteArray) (c7 c9 : Int) (ca : Option Addr) (cl cc : Nat) (s0 s1 s2 s7 s9 s12 s13 : ByteArray) (i4 i5 i6 i8 i10 i11 : Int) (ka : Option Addr) (kl kc : Nat) (f g : Nat → ByteArray) (w : World) (h : IsS w ca cl cc f) (h' : IsS w ka kl kc g) :
    Calls Trym.prog 3 #[.agg #[.bool h0, .string c1, .bool h2, .string c3, .bool h4, .slice ca cl cc, .bool h6, .int .i64 c7, .bool h8, .int .i64 c9, .bool h10, .string c11], .agg #[.string s0, .string s1, .string s2, .slice ka kl kc, .int .i64 i4, .int .i64 i5, .int .i64 i6, .string s7, .int .i64 i8, .string s9, .int .i64 i10, .int .i64 i11, .string s12, .string s13]] w fun e w' => e = .returned (.bool true) ∧ Below w.heap.size w w' := by
  have HF : Hid (∀ wx, Below w.heap.size w wx → IsS wx ca cl cc f) := fun wx hb => h.below hb (Nat.le_refl _)
  have HG : Hid (∀ wx, Below w.heap.size w wx → IsS wx ka kl kc g) := fun wx hb => h'.below hb (Nat.le_refl _)
  have HS : Hid _ := LW.start w #[.bool h0, .string c1, .bool h2, .string c3, .bool h4, .slice ca cl cc, .bool h6, .int .i64 c7, .bool h8, .int .i64 c9, .bool h10, .string c11] #[.string s0, .string s1, .string s2, .slice ka kl kc, .int .i64 i4, .int .i64 i5, .int .i64 i6, .string s7, .int .i64 i8, .string s9, .int .i64 i10, .int .i64 i11, .string s12, .string s13]
  clear h h'
  go_enter Trym.func3, Trym.ntmps3
  go_wp2_with (first
    | (refine wpList_load_row rfl 24 _ rfl _ rfl 24 #[.bool h0, .string c1, .bool h2, .string c3, .bool h4, .slice ca cl cc, .bool h6, .int .i64 c7, .bool h8, .int .i64 c9, .bool h10, .string c11] (0, 0) _ (heap_alloc2_old _ _ _) Trym.underlying24 rfl size24 ?_)
    | (refine wpList_load_row rfl 26 _ rfl _ rfl 26 #[.string s0, .string s1, .string s2, .slice ka kl kc, .int .i64 i4, .int .i64 i5, .int .i64 i6, .string s7, .int .i64 i8, .string s9, .int .i64 i10, .int .i64 i11, .string s12, .string s13] (0, 0) _ (heap_alloc2_new _ _ _) Trym.underlying26 rfl size26 ?_)
    | fail)
  refine (zzBytes_any _ _ _ _ _ _ _ _ _ _ _ _ _ _ _ _ _ _ _ _ _ _ _ _ _ _ _ _ _ _ f g _ (HF.out _ (LW.below HS.out)) (HG.out _ (LW.below HS.out))).mono ?_
  rintro e w1 ⟨⟨b, rfl, hb0⟩, hb1⟩
  have HS1 : Hid _ := LW.call HS.out hb1
  have HB0 : Hid _ := hb0
  clear hb0 hb1 HS
  cases b
  · go_wp2
    go_ret
    exact ⟨rfl, LW.below HS1.out⟩
  · obtain ⟨hcl, hkl⟩ := HB0.out rfl
    go_wp2_with fail
    refine wp_region_held_drew (S := fun wx => LW w wx #[.bool h0, .string c1, .bool h2, .string c3, .bool h4, .slice ca cl cc, .bool h6, .int .i64 c7, .bool h8, .int .i64 c9, .bool h10, .string c11] #[.string s0, .string s1, .string s2, .slice ka kl kc, .int .i64 i4, .int .i64 i5, .int .i64 i6, .string s7, .int .i64 i8, .string s9, .int .i64 i10, .int .i64 i11, .string s12, .string s13]) (by kernel_rfl) (LW.drew HS1.out) (fun hHeld => ?_)
    clear HS1
    refine wpAnyH_take (i := 0) (oi := _) (v := .agg ([.string s0, .string s1, .string s2, .slice ka kl kc, .int .i64 i4, .int .i64 i5, .int .i64 i6, .string s7, .int .i64 i8, .string s9, .int .i64 i10, .int .i64 i11, .string s12, .string s13] : List Value).toArray) rfl (by kernel_rfl) (by kernel_rfl) (by kernel_rfl) (fun _ _ _ h => h) (yieldsIf_load_mid (by rfl) 26 _ rfl (w.heap.size + 1) 0 rfl [.string s0, .string s1, .string s2, .slice ka kl kc, .int .i64 i4, .int .i64 i5, .int .i64 i6, .string s7, .int .i64 i8, .string s9, .int .i64 i10, .int .i64 i11, .string s12, .string s13] _ (fun _ h => h.range1) Trym.underlying26 rfl size26) hHeld ?_
    simp only [Act.put, List.setIfInBounds_toArray, List.set_cons_zero, List.set_cons_succ]
    refine wpAnyH_take (i := 2) (oi := _) (v := .agg ([.bool h0, .string c1, .bool h2, .string c3, .bool h4, .slice ca cl cc, .bool h6, .int .i64 c7, .bool h8, .int .i64 c9, .bool h10, .string c11] : List Value).toArray) rfl (by kernel_rfl) (by kernel_rfl) (by kernel_rfl) (fun _ _ _ h => h) (yieldsIf_load_mid (by rfl) 24 _ rfl (w.heap.size) 0 rfl [.bool h0, .string c1, .bool h2, .string c3, .bool h4, .slice ca cl cc, .bool h6, .int .i64 c7, .bool h8, .int .i64 c9, .bool h10, .string c11] _ (fun _ h => h.range0) Trym.underlying24 rfl size24) hHeld ?_
    simp only [Act.put, List.setIfInBounds_toArray, List.set_cons_zero, List.set_cons_succ]
    refine wpAnyH_ready (rs := [1]) (by kernel_rfl) (by simp) ?_
    refine AllReadyH.cons rfl (fun K hK => ?_) AllReadyH.nil
    go_simp
    go_wp2_with (go_at_call 13; refine (sizeKey_any _ _ _ _ _ _ _ _ _ _ _ _ _ _ _ _ _ g _ (HG.out _ (LW.below hHeld))).mono ?_; rintro e w2 ⟨⟨m, rfl⟩, hb2⟩)
    refine hK.out _ _ (LW.call hHeld hb2) (fun hHeld2 => ?_)
    clear hK K hHeld hb2
    refine wpAnyH_ready (rs := [3]) (by kernel_rfl) (by simp) ?_
    refine AllReadyH.cons rfl (fun K hK => ?_) AllReadyH.nil
    go_simp
    go_wp2_with (go_at_call 12; refine (sizeChange_any _ _ _ _ _ _ _ _ _ _ _ _ _ _ _ f _ (HF.out _ (LW.below hHeld2))).mono ?_; rintro e w3 ⟨⟨m', rfl⟩, hb3⟩)
    refine hK.out _ _ (LW.call hHeld2 hb3) (fun hHeld3 => ?_)
    clear hK K hHeld2 hb3
    refine wpAnyH_ready (rs := [4]) (by kernel_rfl) (by simp) ?_
    refine AllReadyH.cons rfl (fun K hK => ?_) AllReadyH.nil
    go_simp
    refine hK.out _ _ hHeld3 (fun _ => ?_)
    clear hK K
    refine wpAnyH_done (by kernel_rfl) ?_ _
    have HS3 : Hid _ := hHeld3
    clear hHeld3
    by_cases hm : 1048576 < m'
    · go_wp2
      go_ret
      exact ⟨rfl, LW.below HS3.out⟩
    · go_wp2_with (first
        | (refine wpList_load_row rfl 24 _ rfl _ rfl 24 #[.bool h0, .string c1, .bool h2, .string c3, .bool h4, .slice ca cl cc, .bool h6, .int .i64 c7, .bool h8, .int .i64 c9, .bool h10, .string c11] (0, 0) _ (LW.b0 HS3.out) Trym.underlying24 rfl size24 ?_)
        | fail)
      refine (copyChange_any _ _ _ _ _ _ _ _ _ _ _ _ _ _ f _ (HF.out _ (LW.below HS3.out)) hcl).mono ?_
      rintro e w4 ⟨⟨ca', cc', rfl, hs4⟩, hb4⟩
      have HO4 : Hid ((#[.bool h0, .string c1, .bool h2, .string c3, .bool h4, .slice ca' cl cc', .bool h6, .int .i64 c7, .bool h8, .int .i64 c9, .bool h10, .string c11] : Array Value).all (·.oneCell') = true) := by show _ = _; simp [Value.oneCell']
      have HS4 : Hid _ := LW.call HS3.out hb4
      have HF4 : Hid (FrS (w.heap.size + 2) (w4.setRow w.heap.size #[.bool h0, .string c1, .bool h2, .string c3, .bool h4, .slice ca' cl cc', .bool h6, .int .i64 c7, .bool h8, .int .i64 c9, .bool h10, .string c11]) ca' cl cc' f) := FrS.step hs4 (by have := LW.size HS3.out; omega) (fun b h1 _ => setRow_other _ _ _ _ (by have := LW.size HS3.out; omega))
      clear hs4 hb4 HS3
      go_wp2_with (first
        | (refine wpList_store_row rfl 24 _ _ rfl w.heap.size _ rfl rfl 24 _ (LW.b0 HS4.out) size24 rfl HO4.out ?_)
        | (refine wpList_load_row rfl 26 _ rfl _ rfl 26 #[.string s0, .string s1, .string s2, .slice ka kl kc, .int .i64 i4, .int .i64 i5, .int .i64 i6, .string s7, .int .i64 i8, .string s9, .int .i64 i10, .int .i64 i11, .string s12, .string s13] (0, 0) _ (LW.b1 (LW.set0 HS4.out #[.bool h0, .string c1, .bool h2, .string c3, .bool h4, .slice ca' cl cc', .bool h6, .int .i64 c7, .bool h8, .int .i64 c9, .bool h10, .string c11])) Trym.underlying26 rfl size26 ?_)
        | fail)
      have HS5 : Hid _ := LW.set0 HS4.out #[.bool h0, .string c1, .bool h2, .string c3, .bool h4, .slice ca' cl cc', .bool h6, .int .i64 c7, .bool h8, .int .i64 c9, .bool h10, .string c11]
      clear HS4
      generalize w4.setRow w.heap.size #[.bool h0, .string c1, .bool h2, .string c3, .bool h4, .slice ca' cl cc', .bool h6, .int .i64 c7, .bool h8, .int .i64 c9, .bool h10, .string c11] = w5 at HS5 HF4 ⊢
      refine (copyKey_any _ _ _ _ _ _ _ _ _ _ _ _ _ _ _ _ g _ (HG.out _ (LW.below HS5.out)) hkl).mono ?_
      rintro e w6 ⟨⟨ka', kc', rfl, hs6⟩, hb6⟩
      have HO6 : Hid ((#[.string s0, .string s1, .string s2, .slice ka' kl kc', .int .i64 i4, .int .i64 i5, .int .i64 i6, .string s7, .int .i64 i8, .string s9, .int .i64 i10, .int .i64 i11, .string s12, .string s13] : Array Value).all (·.oneCell') = true) := by show _ = _; simp [Value.oneCell']
      have HS6 : Hid _ := LW.call HS5.out hb6
      have HG6 : Hid (FrS (w.heap.size + 2) (w6.setRow (w.heap.size + 1) #[.string s0, .string s1, .string s2, .slice ka' kl kc', .int .i64 i4, .int .i64 i5, .int .i64 i6, .string s7, .int .i64 i8, .string s9, .int .i64 i10, .int .i64 i11, .string s12, .string s13]) ka' kl kc' g) := FrS.step hs6 (by have := LW.size HS5.out; omega) (fun b h1 _ => setRow_other _ _ _ _ (by have := LW.size HS5.out; omega))
      have HF6 : Hid (FrS (w.heap.size + 2) (w6.setRow (w.heap.size + 1) #[.string s0, .string s1, .string s2, .slice ka' kl kc', .int .i64 i4, .int .i64 i5, .int .i64 i6, .string s7, .int .i64 i8, .string s9, .int .i64 i10, .int .i64 i11, .string s12, .string s13]) ca' cl cc' f) := FrS.step HF4.out (Nat.le_refl _) (fun b h1 h2 => (setRow_other _ _ _ _ (by omega)).trans (hb6.block b h2))
      clear hs6 hb6 HS5 HF4
      go_wp2_with (first
        | (refine wpList_store_row rfl 26 _ _ rfl (w.heap.size + 1) _ rfl rfl 26 _ (LW.b1 HS6.out) size26 rfl HO6.out ?_)
        | fail)
      have HS7 : Hid _ := LW.set1 HS6.out #[.string s0, .string s1, .string s2, .slice ka' kl kc', .int .i64 i4, .int .i64 i5, .int .i64 i6, .string s7, .int .i64 i8, .string s9, .int .i64 i10, .int .i64 i11, .string s12, .string s13]
      clear HS6
      generalize w6.setRow (w.heap.size + 1) #[.string s0, .string s1, .string s2, .slice ka' kl kc', .int .i64 i4, .int .i64 i5, .int .i64 i6, .string s7, .int .i64 i8, .string s9, .int .i64 i10, .int .i64 i11, .string s12, .string s13] = w7 at HS7 HG6 HF6 ⊢
      simp only [Act.put, List.setIfInBounds_toArray, List.set_cons_zero, List.set_cons_succ]
      go_cut [5] from 6 (fun s5 wx => ∃ (gb : Nat) (r1 r2 : ByteArray) (ra : Option Addr) (rl rc : Nat) (r4 r5 : Int) (r7 : ByteArray), s5 = .pointer (some ⟨gb, 0, none⟩) ∧ LW w wx #[.bool h0, .string c1, .bool h2, .string c3, .bool h4, .slice ca' cl cc', .bool h6, .int .i64 c7, .bool h8, .int .i64 c9, .bool h10, .string c11] #[.string s0, .string s1, .string s2, .slice ka' kl kc', .int .i64 i4, .int .i64 i5, .int .i64 i6, .string s7, .int .i64 i8, .string s9, .int .i64 i10, .int .i64 i11, .string s12, .string s13] ∧ wx.heap[gb]? = some (.cells #[.string s0, .string r1, .string r2, .slice ra rl rc, .int .i64 r4, .int .i64 r5, .int .i64 i6, .string r7, .int .i64 i8, .string s9, .int .i64 i10, .int .i64 i11, .string s12, .string s13] 37) ∧ FrS (w.heap.size + 2) wx ka' kl kc' g ∧ (h0 = false → r1 = s1) ∧ (h2 = false → r2 = s2) ∧ (h4 = false → ra = ka' ∧ rl = kl ∧ rc = kc') ∧ (h6 = false → r4 = i4) ∧ (h8 = false → r5 = i5) ∧ (h10 = false → r7 = s7))
      case first =>
        refine wp_region_held_drew (S := fun wx => LW w wx #[.bool h0, .string c1, .bool h2, .string c3, .bool h4, .slice ca' cl cc', .bool h6, .int .i64 c7, .bool h8, .int .i64 c9, .bool h10, .string c11] #[.string s0, .string s1, .string s2, .slice ka' kl kc', .int .i64 i4, .int .i64 i5, .int .i64 i6, .string s7, .int .i64 i8, .string s9, .int .i64 i10, .int .i64 i11, .string s12, .string s13]) (by kernel_rfl) (LW.drew HS7.out) (fun hHeld => ?_)
        have S0 : Hid (ST w w7.drew #[.bool h0, .string c1, .bool h2, .string c3, .bool h4, .slice ca' cl cc', .bool h6, .int .i64 c7, .bool h8, .int .i64 c9, .bool h10, .string c11] #[.string s0, .string s1, .string s2, .slice ka' kl kc', .int .i64 i4, .int .i64 i5, .int .i64 i6, .string s7, .int .i64 i8, .string s9, .int .i64 i10, .int .i64 i11, .string s12, .string s13] ca' cl cc' f ka' kl kc' g) := ⟨LW.drew HS7.out, FrS.step HF6.out (Nat.le_refl _) (fun _ _ _ => rfl), FrS.step HG6.out (Nat.le_refl _) (fun _ _ _ => rfl)⟩
        clear HS7 HF6 HG6
        generalize w7.drew = v0 at *
        refine wpAnyH_take (i := 0) (oi := _) (v := .agg ([.bool h0, .string c1, .bool h2, .string c3, .bool h4, .slice ca' cl cc', .bool h6, .int .i64 c7, .bool h8, .int .i64 c9, .bool h10, .string c11] : List Value).toArray) rfl (by kernel_rfl) (by kernel_rfl) (by kernel_rfl) (fun _ _ _ h => h) (yieldsIf_load_mid (by rfl) 24 _ rfl (w.heap.size) 0 rfl [.bool h0, .string c1, .bool h2, .string c3, .bool h4, .slice ca' cl cc', .bool h6, .int .i64 c7, .bool h8, .int .i64 c9, .bool h10, .string c11] _ (fun _ h => h.range0) Trym.underlying24 rfl size24) hHeld ?_
        simp only [Act.put, List.setIfInBounds_toArray, List.set_cons_zero, List.set_cons_succ]
        refine wpAnyH_take (i := 2) (oi := _) (v := .agg ([.string s0, .string s1, .string s2, .slice ka' kl kc', .int .i64 i4, .int .i64 i5, .int .i64 i6, .string s7, .int .i64 i8, .string s9, .int .i64 i10, .int .i64 i11, .string s12, .string s13] : List Value).toArray) rfl (by kernel_rfl) (by kernel_rfl) (by kernel_rfl) (fun _ _ _ h => h) (yieldsIf_load_mid (by rfl) 26 _ rfl (w.heap.size + 1) 0 rfl [.string s0, .string s1, .string s2, .slice ka' kl kc', .int .i64 i4, .int .i64 i5, .int .i64 i6, .string s7, .int .i64 i8, .string s9, .int .i64 i10, .int .i64 i11, .string s12, .string s13] _ (fun _ h => h.range1) Trym.underlying26 rfl size26) hHeld ?_
        simp only [Act.put, List.setIfInBounds_toArray, List.set_cons_zero, List.set_cons_succ]
        clear hHeld
        refine wpAnyH_ready (rs := [1, 5]) (by kernel_rfl) (by simp) ?_
        refine AllReadyH.cons rfl (fun K hK => ?_) (AllReadyH.cons rfl (fun K hK => ?_) AllReadyH.nil)
        · go_simp
          go_wp2_with (go_at_call 16; refine (mkChange_any _ _ _ _ _ _ _ _ _ _ _ _ _ _ f _ (ST.F S0.out).1 hcl).mono ?_; rintro e v1 ⟨⟨p0, p1, p2, p3, p4, p5, rfl, q0, q1, q2, q3, q4, q5⟩, hb⟩)
          refine hK.out _ _ (LW.call (ST.L S0.out) hb) (fun _ => ?_)
          clear hK K
          have S1 : Hid _ := ST.call S0.out hb
          have T1 : Hid (P6 (w.heap.size + 2) v1 h0 h2 h4 h6 h8 h10 p0 p1 p2 p3 p4 p5) := P6.lower (by have := LW.size (ST.L S0.out); omega) ⟨q0, q1, q2, q3, q4, q5⟩
          clear q0 q1 q2 q3 q4 q5
          clear hb S0  
          refine wpAnyH_ready (rs := [3, 5]) (by kernel_rfl) (by simp) ?_
          refine AllReadyH.cons rfl (fun K hK => ?_) (AllReadyH.cons rfl (fun K hK => ?_) AllReadyH.nil)
          · go_simp
            go_wp2_with (go_at_call 18; refine (mkKey_any _ _ _ _ _ _ _ _ _ _ _ _ _ _ _ _ _).mono ?_; rintro e v2 ⟨rfl, hb⟩)
            refine hK.out _ _ (LW.call (ST.L S1.out) hb) (fun _ => ?_)
            clear hK K
            have S2 : Hid _ := ST.call S1.out hb
            have T2 : Hid _ := P6.step T1.out (fun b _ h => hb.block b h)
            clear hb S1 T1 
            refine wpAnyH_ready (rs := [4, 5]) (by kernel_rfl) (by simp) ?_
            refine AllReadyH.cons rfl (fun K hK => ?_) (AllReadyH.cons rfl (fun K hK => ?_) AllReadyH.nil)
            · go_simp
              go_wp2_with (go_at_call 17; refine (apply_any h0 h2 h4 h6 h8 h10 p0 p1 p2 p3 p4 p5 _ _ _ _ _ _ _ _ _ _ _ _ _ _ _ _ (w.heap.size + 2) _ (P6.q0 T2.out) (P6.q1 T2.out) (P6.q2 T2.out) (P6.q3 T2.out) (P6.q4 T2.out) (P6.q5 T2.out)).mono ?_; rintro e v3 ⟨⟨r1, r2, ra, rl, rc, r4, r5, r7, rfl, hE⟩, hb⟩)
              refine hK.out _ _ (LW.call (ST.L S2.out) hb) (fun _ => ?_)
              clear hK K
              have S3 : Hid _ := ST.call S2.out hb
              have EE : Hid _ := hE
              clear hE
              clear hb S2 T2 
              refine wpAnyH_ready (rs := [5]) (by kernel_rfl) (by simp) ?_
              refine AllReadyH.cons rfl (fun K hK => ?_) AllReadyH.nil
              go_simp
              refine hK.out _ _ (LW.alloc (ST.L S3.out) _) (fun _ => ?_)
              clear hK K
              have S4 : Hid _ := ST.alloc S3.out (.cells #[.string ⟨#[]⟩, .string ⟨#[]⟩, .string ⟨#[]⟩, .slice none 0 0, .int .i64 0, .int .i64 0, .int .i64 0, .string ⟨#[]⟩, .int .i64 0, .string ⟨#[]⟩, .int .i64 0, .int .i64 0, .string ⟨#[]⟩, .string ⟨#[]⟩] 37)
              have B4 : Hid _ := GB.new (n := w.heap.size) (wx := v3) (ST.G S3.out).1 (LW.size (ST.L S3.out))
              clear S3 
              generalize v3.alloc (.cells #[.string ⟨#[]⟩, .string ⟨#[]⟩, .string ⟨#[]⟩, .slice none 0 0, .int .i64 0, .int .i64 0, .int .i64 0, .string ⟨#[]⟩, .int .i64 0, .string ⟨#[]⟩, .int .i64 0, .int .i64 0, .string ⟨#[]⟩, .string ⟨#[]⟩] 37) = v4 at *
              generalize v3.heap.size = gb at *
              refine wpAnyH_ready (rs := [6]) (by kernel_rfl) (by simp) ?_
              refine AllReadyH.cons rfl (fun K hK => ?_) AllReadyH.nil
              rw [if_pos (by rfl)]
              have HO : Hid ((#[.string s0, .string r1, .string r2, .slice ra rl rc, .int .i64 r4, .int .i64 r5, .int .i64 i6, .string r7, .int .i64 i8, .string s9, .int .i64 i10, .int .i64 i11, .string s12, .string s13] : Array Value).all (·.oneCell') = true) := by show _ = _; simp [Value.oneCell']
              refine wp_store_row 37 _ _ rfl gb _ rfl rfl 37 _ (GB.at_ B4.out) size37 rfl HO.out ?_
              have hne := GB.lo B4.out
              have hL2 : LW w (v4.setRow gb #[.string s0, .string r1, .string r2, .slice ra rl rc, .int .i64 r4, .int .i64 r5, .int .i64 i6, .string r7, .int .i64 i8, .string s9, .int .i64 i10, .int .i64 i11, .string s12, .string s13]) #[.bool h0, .string c1, .bool h2, .string c3, .bool h4, .slice ca' cl cc', .bool h6, .int .i64 c7, .bool h8, .int .i64 c9, .bool h10, .string c11] #[.string s0, .string s1, .string s2, .slice ka' kl kc', .int .i64 i4, .int .i64 i5, .int .i64 i6, .string s7, .int .i64 i8, .string s9, .int .i64 i10, .int .i64 i11, .string s12, .string s13] := ⟨below_setRow (LW.below (ST.L S4.out)) (by omega) _, by rw [setRow_other _ _ _ _ (by omega)]; exact LW.b0 (ST.L S4.out), by rw [setRow_other _ _ _ _ (by omega)]; exact LW.b1 (ST.L S4.out)⟩
              have hFG2 : FrS (w.heap.size + 2) (v4.setRow gb #[.string s0, .string r1, .string r2, .slice ra rl rc, .int .i64 r4, .int .i64 r5, .int .i64 i6, .string r7, .int .i64 i8, .string s9, .int .i64 i10, .int .i64 i11, .string s12, .string s13]) ka' kl kc' g := FrS.apart (ST.G S4.out) (GB.ne B4.out) _
              refine hK.out _ _ hL2 (fun _ => ?_)
              clear hK K
              refine wpAnyH_done (by kernel_rfl) ?_ _
              simp only [Act.put, List.setIfInBounds_toArray, List.set_cons_zero, List.set_cons_succ, List.getElem_toArray, List.getElem_cons_succ, List.getElem_cons_zero]
              go_wp2_with fail
              go_meet
              case rel => exact ⟨gb, r1, r2, ra, rl, rc, r4, r5, r7, rfl, hL2, setRow_heap _ _ _ _ _ _ (GB.at_ B4.out), hFG2, EE.out⟩
            · go_simp
              refine hK.out _ _ (LW.alloc (ST.L S2.out) _) (fun _ => ?_)
              clear hK K
              have S5 : Hid _ := ST.alloc S2.out (.cells #[.string ⟨#[]⟩, .string ⟨#[]⟩, .string ⟨#[]⟩, .slice none 0 0, .int .i64 0, .int .i64 0, .int .i64 0, .string ⟨#[]⟩, .int .i64 0, .string ⟨#[]⟩, .int .i64 0, .int .i64 0, .string ⟨#[]⟩, .string ⟨#[]⟩] 37)
              have B5 : Hid _ := GB.new (n := w.heap.size) (wx := v2) (ST.G S2.out).1 (LW.size (ST.L S2.out))
              have T5 : Hid _ := P6.step T2.out (fun b _ h => Below.heap_alloc _ (.cells #[.string ⟨#[]⟩, .string ⟨#[]⟩, .string ⟨#[]⟩, .slice none 0 0, .int .i64 0, .int .i64 0, .int .i64 0, .string ⟨#[]⟩, .int .i64 0, .string ⟨#[]⟩, .int .i64 0, .int .i64 0, .string ⟨#[]⟩, .string ⟨#[]⟩] 37) _ h)
              clear S2 T2
              generalize v2.alloc (.cells #[.string ⟨#[]⟩, .string ⟨#[]⟩, .string ⟨#[]⟩, .slice none 0 0, .int .i64 0, .int .i64 0, .int .i64 0, .string ⟨#[]⟩, .int .i64 0, .string ⟨#[]⟩, .int .i64 0, .int .i64 0, .string ⟨#[]⟩, .string ⟨#[]⟩] 37) = v5 at *
              generalize v2.heap.size = gb at *
              refine wpAnyH_ready (rs := [4]) (by kernel_rfl) (by simp) ?_
              refine AllReadyH.cons rfl (fun K hK => ?_) AllReadyH.nil
              go_simp
              go_wp2_with (go_at_call 17; refine (apply_any h0 h2 h4 h6 h8 h10 p0 p1 p2 p3 p4 p5 _ _ _ _ _ _ _ _ _ _ _ _ _ _ _ _ (w.heap.size + 2) _ (P6.q0 T5.out) (P6.q1 T5.out) (P6.q2 T5.out) (P6.q3 T5.out) (P6.q4 T5.out) (P6.q5 T5.out)).mono ?_; rintro e v6 ⟨⟨r1, r2, ra, rl, rc, r4, r5, r7, rfl, hE⟩, hb⟩)
              refine hK.out _ _ (LW.call (ST.L S5.out) hb) (fun _ => ?_)
              clear hK K
              have S6 : Hid _ := ST.call S5.out hb
              have B6 : Hid _ := GB.call B5.out hb
              have EE : Hid _ := hE
              clear hE
              clear hb S5 T5 B5
              refine wpAnyH_ready (rs := [6]) (by kernel_rfl) (by simp) ?_
              refine AllReadyH.cons rfl (fun K hK => ?_) AllReadyH.nil
              rw [if_pos (by rfl)]
              have HO : Hid ((#[.string s0, .string r1, .string r2, .slice ra rl rc, .int .i64 r4, .int .i64 r5, .int .i64 i6, .string r7, .int .i64 i8, .string s9, .int .i64 i10, .int .i64 i11, .string s12, .string s13] : Array Value).all (·.oneCell') = true) := by show _ = _; simp [Value.oneCell']
              refine wp_store_row 37 _ _ rfl gb _ rfl rfl 37 _ (GB.at_ B6.out) size37 rfl HO.out ?_
              have hne := GB.lo B6.out
              have hL2 : LW w (v6.setRow gb #[.string s0, .string r1, .string r2, .slice ra rl rc, .int .i64 r4, .int .i64 r5, .int .i64 i6, .string r7, .int .i64 i8, .string s9, .int .i64 i10, .int .i64 i11, .string s12, .string s13]) #[.bool h0, .string c1, .bool h2, .string c3, .bool h4, .slice ca' cl cc', .bool h6, .int .i64 c7, .bool h8, .int .i64 c9, .bool h10, .string c11] #[.string s0, .string s1, .string s2, .slice ka' kl kc', .int .i64 i4, .int .i64 i5, .int .i64 i6, .string s7, .int .i64 i8, .string s9, .int .i64 i10, .int .i64 i11, .string s12, .string s13] := ⟨below_setRow (LW.below (ST.L S6.out)) (by omega) _, by rw [setRow_other _ _ _ _ (by omega)]; exact LW.b0 (ST.L S6.out), by rw [setRow_other _ _ _ _ (by omega)]; exact LW.b1 (ST.L S6.out)⟩
              have hFG2 : FrS (w.heap.size + 2) (v6.setRow gb #[.string s0, .string r1, .string r2, .slice ra rl rc, .int .i64 r4, .int .i64 r5, .int .i64 i6, .string r7, .int .i64 i8, .string s9, .int .i64 i10, .int .i64 i11, .string s12, .string s13]) ka' kl kc' g := FrS.apart (ST.G S6.out) (GB.ne B6.out) _
              refine hK.out _ _ hL2 (fun _ => ?_)
              clear hK K
              refine wpAnyH_done (by kernel_rfl) ?_ _
              simp only [Act.put, List.setIfInBounds_toArray, List.set_cons_zero, List.set_cons_succ, List.getElem_toArray, List.getElem_cons_succ, List.getElem_cons_zero]
              go_wp2_with fail
              go_meet
              case rel => exact ⟨gb, r1, r2, ra, rl, rc, r4, r5, r7, rfl, hL2, setRow_heap _ _ _ _ _ _ (GB.at_ B6.out), hFG2, EE.out⟩
          · go_simp
            refine hK.out _ _ (LW.alloc (ST.L S1.out) _) (fun _ => ?_)
            clear hK K
            have S7 : Hid _ := ST.alloc S1.out (.cells #[.string ⟨#[]⟩, .string ⟨#[]⟩, .string ⟨#[]⟩, .slice none 0 0, .int .i64 0, .int .i64 0, .int .i64 0, .string ⟨#[]⟩, .int .i64 0, .string ⟨#[]⟩, .int .i64 0, .int .i64 0, .string ⟨#[]⟩, .string ⟨#[]⟩] 37)
            have B7 : Hid _ := GB.new (n := w.heap.size) (wx := v1) (ST.G S1.out).1 (LW.size (ST.L S1.out))
            have T7 : Hid _ := P6.step T1.out (fun b _ h => Below.heap_alloc _ (.cells #[.string ⟨#[]⟩, .string ⟨#[]⟩, .string ⟨#[]⟩, .slice none 0 0, .int .i64 0, .int .i64 0, .int .i64 0, .string ⟨#[]⟩, .int .i64 0, .string ⟨#[]⟩, .int .i64 0, .int .i64 0, .string ⟨#[]⟩, .string ⟨#[]⟩] 37) _ h)
            clear S1 T1
            generalize v1.alloc (.cells #[.string ⟨#[]⟩, .string ⟨#[]⟩, .string ⟨#[]⟩, .slice none 0 0, .int .i64 0, .int .i64 0, .int .i64 0, .string ⟨#[]⟩, .int .i64 0, .string ⟨#[]⟩, .int .i64 0, .int .i64 0, .string ⟨#[]⟩, .string ⟨#[]⟩] 37) = v7 at *
            generalize v1.heap.size = gb at *
            refine wpAnyH_ready (rs := [3]) (by kernel_rfl) (by simp) ?_
            refine AllReadyH.cons rfl (fun K hK => ?_) AllReadyH.nil
            go_simp
            go_wp2_with (go_at_call 18; refine (mkKey_any _ _ _ _ _ _ _ _ _ _ _ _ _ _ _ _ _).mono ?_; rintro e v8 ⟨rfl, hb⟩)
            refine hK.out _ _ (LW.call (ST.L S7.out) hb) (fun _ => ?_)
            clear hK K
            have S8 : Hid _ := ST.call S7.out hb
            have B8 : Hid _ := GB.call B7.out hb
            have T8 : Hid _ := P6.step T7.out (fun b _ h => hb.block b h)
            clear hb S7 T7 B7
            refine wpAnyH_ready (rs := [4]) (by kernel_rfl) (by simp) ?_
            refine AllReadyH.cons rfl (fun K hK => ?_) AllReadyH.nil
            go_simp
            go_wp2_with (go_at_call 17; refine (apply_any h0 h2 h4 h6 h8 h10 p0 p1 p2 p3 p4 p5 _ _ _ _ _ _ _ _ _ _ _ _ _ _ _ _ (w.heap.size + 2) _ (P6.q0 T8.out) (P6.q1 T8.out) (P6.q2 T8.out) (P6.q3 T8.out) (P6.q4 T8.out) (P6.q5 T8.out)).mono ?_; rintro e v9 ⟨⟨r1, r2, ra, rl, rc, r4, r5, r7, rfl, hE⟩, hb⟩)
            refine hK.out _ _ (LW.call (ST.L S8.out) hb) (fun _ => ?_)
            clear hK K
            have S9 : Hid _ := ST.call S8.out hb
            have B9 : Hid _ := GB.call B8.out hb
            have EE : Hid _ := hE
            clear hE
            clear hb S8 T8 B8
            refine wpAnyH_ready (rs := [6]) (by kernel_rfl) (by simp) ?_
            refine AllReadyH.cons rfl (fun K hK => ?_) AllReadyH.nil
            rw [if_pos (by rfl)]
            have HO : Hid ((#[.string s0, .string r1, .string r2, .slice ra rl rc, .int .i64 r4, .int .i64 r5, .int .i64 i6, .string r7, .int .i64 i8, .string s9, .int .i64 i10, .int .i64 i11, .string s12, .string s13] : Array Value).all (·.oneCell') = true) := by show _ = _; simp [Value.oneCell']
            refine wp_store_row 37 _ _ rfl gb _ rfl rfl 37 _ (GB.at_ B9.out) size37 rfl HO.out ?_
            have hne := GB.lo B9.out
            have hL2 : LW w (v9.setRow gb #[.string s0, .string r1, .string r2, .slice ra rl rc, .int .i64 r4, .int .i64 r5, .int .i64 i6, .string r7, .int .i64 i8, .string s9, .int .i64 i10, .int .i64 i11, .string s12, .string s13]) #[.bool h0, .string c1, .bool h2, .string c3, .bool h4, .slice ca' cl cc', .bool h6, .int .i64 c7, .bool h8, .int .i64 c9, .bool h10, .string c11] #[.string s0, .string s1, .string s2, .slice ka' kl kc', .int .i64 i4, .int .i64 i5, .int .i64 i6, .string s7, .int .i64 i8, .string s9, .int .i64 i10, .int .i64 i11, .string s12, .string s13] := ⟨below_setRow (LW.below (ST.L S9.out)) (by omega) _, by rw [setRow_other _ _ _ _ (by omega)]; exact LW.b0 (ST.L S9.out), by rw [setRow_other _ _ _ _ (by omega)]; exact LW.b1 (ST.L S9.out)⟩
            have hFG2 : FrS (w.heap.size + 2) (v9.setRow gb #[.string s0, .string r1, .string r2, .slice ra rl rc, .int .i64 r4, .int .i64 r5, .int .i64 i6, .string r7, .int .i64 i8, .string s9, .int .i64 i10, .int .i64 i11, .string s12, .string s13]) ka' kl kc' g := FrS.apart (ST.G S9.out) (GB.ne B9.out) _
            refine hK.out _ _ hL2 (fun _ => ?_)
            clear hK K
            refine wpAnyH_done (by kernel_rfl) ?_ _
            simp only [Act.put, List.setIfInBounds_toArray, List.set_cons_zero, List.set_cons_succ, List.getElem_toArray, List.getElem_cons_succ, List.getElem_cons_zero]
            go_wp2_with fail
            go_meet
            case rel => exact ⟨gb, r1, r2, ra, rl, rc, r4, r5, r7, rfl, hL2, setRow_heap _ _ _ _ _ _ (GB.at_ B9.out), hFG2, EE.out⟩
        · go_simp
          refine hK.out _ _ (LW.alloc (ST.L S0.out) _) (fun _ => ?_)
          clear hK K
          have S10 : Hid _ := ST.alloc S0.out (.cells #[.string ⟨#[]⟩, .string ⟨#[]⟩, .string ⟨#[]⟩, .slice none 0 0, .int .i64 0, .int .i64 0, .int .i64 0, .string ⟨#[]⟩, .int .i64 0, .string ⟨#[]⟩, .int .i64 0, .int .i64 0, .string ⟨#[]⟩, .string ⟨#[]⟩] 37)
          have B10 : Hid _ := GB.new (n := w.heap.size) (wx := v0) (ST.G S0.out).1 (LW.size (ST.L S0.out))
          clear S0 
          generalize v0.alloc (.cells #[.string ⟨#[]⟩, .string ⟨#[]⟩, .string ⟨#[]⟩, .slice none 0 0, .int .i64 0, .int .i64 0, .int .i64 0, .string ⟨#[]⟩, .int .i64 0, .string ⟨#[]⟩, .int .i64 0, .int .i64 0, .string ⟨#[]⟩, .string ⟨#[]⟩] 37) = v10 at *
          generalize v0.heap.size = gb at *
          refine wpAnyH_ready (rs := [1]) (by kernel_rfl) (by simp) ?_
          refine AllReadyH.cons rfl (fun K hK => ?_) AllReadyH.nil
          go_simp
          go_wp2_with (go_at_call 16; refine (mkChange_any _ _ _ _ _ _ _ _ _ _ _ _ _ _ f _ (ST.F S10.out).1 hcl).mono ?_; rintro e v11 ⟨⟨p0, p1, p2, p3, p4, p5, rfl, q0, q1, q2, q3, q4, q5⟩, hb⟩)
          refine hK.out _ _ (LW.call (ST.L S10.out) hb) (fun _ => ?_)
          clear hK K
          have S11 : Hid _ := ST.call S10.out hb
          have B11 : Hid _ := GB.call B10.out hb
          have T11 : Hid (P6 (w.heap.size + 2) v11 h0 h2 h4 h6 h8 h10 p0 p1 p2 p3 p4 p5) := P6.lower (by have := LW.size (ST.L S10.out); omega) ⟨q0, q1, q2, q3, q4, q5⟩
          clear q0 q1 q2 q3 q4 q5
          clear hb S10  B10
          refine wpAnyH_ready (rs := [3]) (by kernel_rfl) (by simp) ?_
          refine AllReadyH.cons rfl (fun K hK => ?_) AllReadyH.nil
          go_simp
          go_wp2_with (go_at_call 18; refine (mkKey_any _ _ _ _ _ _ _ _ _ _ _ _ _ _ _ _ _).mono ?_; rintro e v12 ⟨rfl, hb⟩)
          refine hK.out _ _ (LW.call (ST.L S11.out) hb) (fun _ => ?_)
          clear hK K
          have S12 : Hid _ := ST.call S11.out hb
          have B12 : Hid _ := GB.call B11.out hb
          have T12 : Hid _ := P6.step T11.out (fun b _ h => hb.block b h)
          clear hb S11 T11 B11
          refine wpAnyH_ready (rs := [4]) (by kernel_rfl) (by simp) ?_
          refine AllReadyH.cons rfl (fun K hK => ?_) AllReadyH.nil
          go_simp
          go_wp2_with (go_at_call 17; refine (apply_any h0 h2 h4 h6 h8 h10 p0 p1 p2 p3 p4 p5 _ _ _ _ _ _ _ _ _ _ _ _ _ _ _ _ (w.heap.size + 2) _ (P6.q0 T12.out) (P6.q1 T12.out) (P6.q2 T12.out) (P6.q3 T12.out) (P6.q4 T12.out) (P6.q5 T12.out)).mono ?_; rintro e v13 ⟨⟨r1, r2, ra, rl, rc, r4, r5, r7, rfl, hE⟩, hb⟩)
          refine hK.out _ _ (LW.call (ST.L S12.out) hb) (fun _ => ?_)
          clear hK K
          have S13 : Hid _ := ST.call S12.out hb
          have B13 : Hid _ := GB.call B12.out hb
          have EE : Hid _ := hE
          clear hE
          clear hb S12 T12 B12
          refine wpAnyH_ready (rs := [6]) (by kernel_rfl) (by simp) ?_
          refine AllReadyH.cons rfl (fun K hK => ?_) AllReadyH.nil
          rw [if_pos (by rfl)]
          have HO : Hid ((#[.string s0, .string r1, .string r2, .slice ra rl rc, .int .i64 r4, .int .i64 r5, .int .i64 i6, .string r7, .int .i64 i8, .string s9, .int .i64 i10, .int .i64 i11, .string s12, .string s13] : Array Value).all (·.oneCell') = true) := by show _ = _; simp [Value.oneCell']
          refine wp_store_row 37 _ _ rfl gb _ rfl rfl 37 _ (GB.at_ B13.out) size37 rfl HO.out ?_
          have hne := GB.lo B13.out
          have hL2 : LW w (v13.setRow gb #[.string s0, .string r1, .string r2, .slice ra rl rc, .int .i64 r4, .int .i64 r5, .int .i64 i6, .string r7, .int .i64 i8, .string s9, .int .i64 i10, .int .i64 i11, .string s12, .string s13]) #[.bool h0, .string c1, .bool h2, .string c3, .bool h4, .slice ca' cl cc', .bool h6, .int .i64 c7, .bool h8, .int .i64 c9, .bool h10, .string c11] #[.string s0, .string s1, .string s2, .slice ka' kl kc', .int .i64 i4, .int .i64 i5, .int .i64 i6, .string s7, .int .i64 i8, .string s9, .int .i64 i10, .int .i64 i11, .string s12, .string s13] := ⟨below_setRow (LW.below (ST.L S13.out)) (by omega) _, by rw [setRow_other _ _ _ _ (by omega)]; exact LW.b0 (ST.L S13.out), by rw [setRow_other _ _ _ _ (by omega)]; exact LW.b1 (ST.L S13.out)⟩
          have hFG2 : FrS (w.heap.size + 2) (v13.setRow gb #[.string s0, .string r1, .string r2, .slice ra rl rc, .int .i64 r4, .int .i64 r5, .int .i64 i6, .string r7, .int .i64 i8, .string s9, .int .i64 i10, .int .i64 i11, .string s12, .string s13]) ka' kl kc' g := FrS.apart (ST.G S13.out) (GB.ne B13.out) _
          refine hK.out _ _ hL2 (fun _ => ?_)
          clear hK K
          refine wpAnyH_done (by kernel_rfl) ?_ _
          simp only [Act.put, List.setIfInBounds_toArray, List.set_cons_zero, List.set_cons_succ, List.getElem_toArray, List.getElem_cons_succ, List.getElem_cons_zero]
          go_wp2_with fail
          go_meet
          case rel => exact ⟨gb, r1, r2, ra, rl, rc, r4, r5, r7, rfl, hL2, setRow_heap _ _ _ _ _ _ (GB.at_ B13.out), hFG2, EE.out⟩
      case rest =>
        obtain ⟨gb, r1, r2, ra, rl, rc, r4, r5, r7, rfl, hL, hgb, hFG, e1, e2, e3, e4, e5, e7⟩ := hcut
        have cg_0 : wc.cell? ⟨gb, 0, none⟩ = some (.string s0) := by rw [cell_of_row _ _ _ _ _ _ hgb]; rfl
        have cg_6 : wc.cell? ⟨gb, 6, none⟩ = some (.int .i64 i6) := by rw [cell_of_row _ _ _ _ _ _ hgb]; rfl
        have cg_8 : wc.cell? ⟨gb, 8, none⟩ = some (.int .i64 i8) := by rw [cell_of_row _ _ _ _ _ _ hgb]; rfl
        have cg_9 : wc.cell? ⟨gb, 9, none⟩ = some (.string s9) := by rw [cell_of_row _ _ _ _ _ _ hgb]; rfl
        have cg_10 : wc.cell? ⟨gb, 10, none⟩ = some (.int .i64 i10) := by rw [cell_of_row _ _ _ _ _ _ hgb]; rfl
        have cg_11 : wc.cell? ⟨gb, 11, none⟩ = some (.int .i64 i11) := by rw [cell_of_row _ _ _ _ _ _ hgb]; rfl
        have cg_12 : wc.cell? ⟨gb, 12, none⟩ = some (.string s12) := by rw [cell_of_row _ _ _ _ _ _ hgb]; rfl
        have cg_13 : wc.cell? ⟨gb, 13, none⟩ = some (.string s13) := by rw [cell_of_row _ _ _ _ _ _ hgb]; rfl
        have ck_0 : wc.cell? ⟨w.heap.size + 1, 0, none⟩ = some (.string s0) := by rw [cell_of_row _ _ _ _ _ _ hL.b1]; rfl
        have ck_6 : wc.cell? ⟨w.heap.size + 1, 6, none⟩ = some (.int .i64 i6) := by rw [cell_of_row _ _ _ _ _ _ hL.b1]; rfl
        have ck_8 : wc.cell? ⟨w.heap.size + 1, 8, none⟩ = some (.int .i64 i8) := by rw [cell_of_row _ _ _ _ _ _ hL.b1]; rfl
        have ck_9 : wc.cell? ⟨w.heap.size + 1, 9, none⟩ = some (.string s9) := by rw [cell_of_row _ _ _ _ _ _ hL.b1]; rfl
        have ck_10 : wc.cell? ⟨w.heap.size + 1, 10, none⟩ = some (.int .i64 i10) := by rw [cell_of_row _ _ _ _ _ _ hL.b1]; rfl
        have ck_11 : wc.cell? ⟨w.heap.size + 1, 11, none⟩ = some (.int .i64 i11) := by rw [cell_of_row _ _ _ _ _ _ hL.b1]; rfl
        have ck_12 : wc.cell? ⟨w.heap.size + 1, 12, none⟩ = some (.string s12) := by rw [cell_of_row _ _ _ _ _ _ hL.b1]; rfl
        have ck_13 : wc.cell? ⟨w.heap.size + 1, 13, none⟩ = some (.string s13) := by rw [cell_of_row _ _ _ _ _ _ hL.b1]; rfl
        have cc_0 : wc.cell? ⟨w.heap.size, 0, none⟩ = some (.bool h0) := by rw [cell_of_row _ _ _ _ _ _ hL.b0]; rfl
        have cc_2 : wc.cell? ⟨w.heap.size, 2, none⟩ = some (.bool h2) := by rw [cell_of_row _ _ _ _ _ _ hL.b0]; rfl
        have cc_4 : wc.cell? ⟨w.heap.size, 4, none⟩ = some (.bool h4) := by rw [cell_of_row _ _ _ _ _ _ hL.b0]; rfl
        have cc_6 : wc.cell? ⟨w.heap.size, 6, none⟩ = some (.bool h6) := by rw [cell_of_row _ _ _ _ _ _ hL.b0]; rfl
        have cc_8 : wc.cell? ⟨w.heap.size, 8, none⟩ = some (.bool h8) := by rw [cell_of_row _ _ _ _ _ _ hL.b0]; rfl
        have cc_10 : wc.cell? ⟨w.heap.size, 10, none⟩ = some (.bool h10) := by rw [cell_of_row _ _ _ _ _ _ hL.b0]; rfl
        have HL : Hid _ := hL
        have HGB : Hid _ := hgb
        have HFG : Hid _ := hFG
        have E1 : Hid _ := e1
        have E2 : Hid _ := e2
        have E3 : Hid _ := e3
        have E4 : Hid _ := e4
        have E5 : Hid _ := e5
        have E7 : Hid _ := e7
        clear hL hgb hFG e1 e2 e3 e4 e5 e7 HF HG HF6 HG6 HS7
        go_upto_region 14 with fail
        clear cg_0 cg_6 cg_8 cg_9 cg_10 cg_11 cg_12 cg_13 ck_0 ck_6 ck_8 ck_9 ck_10 ck_11 ck_12 ck_13
        cases h0
        rotate_left
        · go_wp2
          go_ret
          exact ⟨rfl, LW.below HL.out⟩
        cases h2
        rotate_left
        · go_wp2
          go_ret
          exact ⟨rfl, LW.below HL.out⟩
        cases h4
        rotate_left
        · go_wp2
          go_ret
          exact ⟨rfl, LW.below HL.out⟩
        cases h6
        rotate_left
        · go_wp2
          go_ret
          exact ⟨rfl, LW.below HL.out⟩
        cases h8
        rotate_left
        · go_wp2
          go_ret
          exact ⟨rfl, LW.below HL.out⟩
        cases h10
        rotate_left
        · go_wp2
          go_ret
          exact ⟨rfl, LW.below HL.out⟩
        obtain rfl := E1.out rfl
        obtain rfl := E2.out rfl
        obtain ⟨rfl, rfl, rfl⟩ := E3.out rfl
        obtain rfl := E4.out rfl
        obtain rfl := E5.out rfl
        obtain rfl := E7.out rfl
        clear E1 E2 E3 E4 E5 E7
        go_wp2_with fail
        refine wp_region_held_drew (S := fun wx => LW w wx #[.bool false, .string c1, .bool false, .string c3, .bool false, .slice ca' cl cc', .bool false, .int .i64 c7, .bool false, .int .i64 c9, .bool false, .string c11] #[.string s0, .string r1, .string r2, .slice ra rl rc, .int .i64 r4, .int .i64 r5, .int .i64 i6, .string r7, .int .i64 i8, .string s9, .int .i64 i10, .int .i64 i11, .string s12, .string s13] ∧ wx.heap[gb]? = some (.cells #[.string s0, .string r1, .string r2, .slice ra rl rc, .int .i64 r4, .int .i64 r5, .int .i64 i6, .string r7, .int .i64 i8, .string s9, .int .i64 i10, .int .i64 i11, .string s12, .string s13] 37)) (by kernel_rfl) ⟨LW.drew HL.out, HGB.out⟩ (fun hHeld => ?_)
        have HS8 : Hid (IsS wc.drew ra rl rc g) := IsS.cells HFG.out.1 (fun _ _ _ _ _ => rfl)
        clear HL HGB HFG
        generalize wc.drew = v0 at *
        refine wpAnyH_take (i := 0) (oi := _) (v := .agg ([.string s0, .string r1, .string r2, .slice ra rl rc, .int .i64 r4, .int .i64 r5, .int .i64 i6, .string r7, .int .i64 i8, .string s9, .int .i64 i10, .int .i64 i11, .string s12, .string s13] : List Value).toArray) rfl (by kernel_rfl) (by kernel_rfl) (by kernel_rfl) (fun _ _ _ h => h) (yieldsIf_load_mid (by rfl) 37 _ rfl (gb) 0 rfl [.string s0, .string r1, .string r2, .slice ra rl rc, .int .i64 r4, .int .i64 r5, .int .i64 i6, .string r7, .int .i64 i8, .string s9, .int .i64 i10, .int .i64 i11, .string s12, .string s13] _ (fun _ h => row_range h.2) Trym.underlying37 rfl size37) hHeld ?_
        simp only [Act.put, List.setIfInBounds_toArray, List.set_cons_zero, List.set_cons_succ]
        refine wpAnyH_take (i := 1) (oi := _) (v := .agg ([.string s0, .string r1, .string r2, .slice ra rl rc, .int .i64 r4, .int .i64 r5, .int .i64 i6, .string r7, .int .i64 i8, .string s9, .int .i64 i10, .int .i64 i11, .string s12, .string s13] : List Value).toArray) rfl (by kernel_rfl) (by kernel_rfl) (by kernel_rfl) (fun _ _ _ h => h) (yieldsIf_load_mid (by rfl) 26 _ rfl (w.heap.size + 1) 0 rfl [.string s0, .string r1, .string r2, .slice ra rl rc, .int .i64 r4, .int .i64 r5, .int .i64 i6, .string r7, .int .i64 i8, .string s9, .int .i64 i10, .int .i64 i11, .string s12, .string s13] _ (fun _ h => h.1.range1) Trym.underlying26 rfl size26) hHeld ?_
        simp only [Act.put, List.setIfInBounds_toArray, List.set_cons_zero, List.set_cons_succ]
        refine wpAnyH_ready (rs := [2]) (by kernel_rfl) (by simp) ?_
        refine AllReadyH.cons rfl (fun K hK => ?_) AllReadyH.nil
        go_simp
        go_wp2_with (go_at_call 18; refine (mkKey_any _ _ _ _ _ _ _ _ _ _ _ _ _ _ _ _ _).mono ?_; rintro e v1 ⟨rfl, hb⟩)
        have hg2 : v1.heap[gb]? = some (.cells #[.string s0, .string r1, .string r2, .slice ra rl rc, .int .i64 r4, .int .i64 r5, .int .i64 i6, .string r7, .int .i64 i8, .string s9, .int .i64 i10, .int .i64 i11, .string s12, .string s13] 37) := (hb.block _ (Array.getElem?_eq_some_iff.1 hHeld.2).1).trans hHeld.2
        have hL2 := LW.call hHeld.1 hb
        have HS9 : Hid (IsS v1 ra rl rc g) := IsS.below HS8.out hb (Nat.le_refl _)
        clear hb HS8
        refine hK.out _ _ ⟨hL2, hg2⟩ (fun hHeld2 => ?_)
        clear hK K hHeld hL2 hg2
        refine wpAnyH_ready (rs := [3]) (by kernel_rfl) (by simp) ?_
        refine AllReadyH.cons rfl (fun K hK => ?_) AllReadyH.nil
        go_simp
        go_wp2_with (go_at_call 19; refine (eqKey_same _ _ _ _ _ _ _ _ _ _ _ _ _ _ _ _ g _ HS9.out).mono ?_; rintro e v2 ⟨rfl, hb⟩)
        have hg3 : v2.heap[gb]? = some (.cells #[.string s0, .string r1, .string r2, .slice ra rl rc, .int .i64 r4, .int .i64 r5, .int .i64 i6, .string r7, .int .i64 i8, .string s9, .int .i64 i10, .int .i64 i11, .string s12, .string s13] 37) := (hb.block _ (Array.getElem?_eq_some_iff.1 hHeld2.2).1).trans hHeld2.2
        have hL3 := LW.call hHeld2.1 hb
        clear hb HS9
        refine hK.out _ _ ⟨hL3, hg3⟩ (fun hHeld3 => ?_)
        clear hK K hHeld2 hL3 hg3
        refine wpAnyH_ready (rs := [4]) (by kernel_rfl) (by simp) ?_
        refine AllReadyH.cons rfl (fun K hK => ?_) AllReadyH.nil
        go_simp
        refine hK.out _ _ hHeld3 (fun _ => ?_)
        clear hK K
        refine wpAnyH_done (by kernel_rfl) ?_ _
        go_wp2
        go_ret
        exact ⟨rfl, LW.below hHeld3.1⟩
end Go.Proofs.Qxb6000698aMods
