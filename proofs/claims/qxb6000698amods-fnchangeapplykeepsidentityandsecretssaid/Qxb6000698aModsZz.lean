import Derived.Test.Qxb6000698aModsKey
import Derived.Deep.DeepCutAuto
namespace Go.Proofs.Qxb6000698aMods
open Go.RowKit

/-- what zzBytes answers: a bool; true only where both lists are short -/
def ZzPost (cl kl : Nat) (e : Ending) : Prop := ∃ b, e = .returned (.bool b) ∧ (b = true → cl ≤ 1048576 ∧ kl ≤ 1048576)
theorem zz_fin {cl kl : Nat} {b : Bool} {w w' : World} (h : b = true → cl ≤ 1048576 ∧ kl ≤ 1048576) (hb : Below w.heap.size w w') :
    ZzPost cl kl (.returned (.bool b)) ∧ Below w.heap.size w w' := ⟨⟨b, rfl, h⟩, hb⟩

theorem zz_no {cl kl : Nat} {w w' : World} (hb : Below w.heap.size w w') : ZzPost cl kl (.returned (.bool false)) ∧ Below w.heap.size w w' := zz_fin (fun h => by cases h) hb

set_option maxRecDepth 100000 in
set_option maxHeartbeats 2000000 in
theorem zzBytes_any (h0 h2 h4 h6 h8 h10 : Bool) (c1 c3 c11 : ByteArray) (c7 c9 : Int) (ca : Option Addr) (cl cc : Nat) (s0 s1 s2 s7 s9 s12 s13 : ByteArray) (i4 i5 i6 i8 i10 i11 : Int) (ka : Option Addr) (kl kc : Nat) (f g : Nat → ByteArray) (w : World) (h : IsS w ca cl cc f) (h' : IsS w ka kl kc g) :
    Calls Trym.prog 11 #[.agg #[.bool h0, .string c1, .bool h2, .string c3, .bool h4, .slice ca cl cc, .bool h6, .int .i64 c7, .bool h8, .int .i64 c9, .bool h10, .string c11], .agg #[.string s0, .string s1, .string s2, .slice ka kl kc, .int .i64 i4, .int .i64 i5, .int .i64 i6, .string s7, .int .i64 i8, .string s9, .int .i64 i10, .int .i64 i11, .string s12, .string s13]] w fun e w' => ZzPost cl kl e ∧ Below w.heap.size w w' := by
  have HB : ∀ o1 o2, Below w.heap.size w ((w.alloc o1).alloc o2) := fun o1 o2 => (((Below.refl _ _).alloc (Nat.le_refl _) o1).alloc (by simp) o2)
  have HF : Hid (∀ o1 o2, IsS ((w.alloc o1).alloc o2) ca cl cc f) := fun o1 o2 => h.below (HB o1 o2) (Nat.le_refl _)
  have HG : Hid (∀ o1 o2, IsS ((w.alloc o1).alloc o2) ka kl kc g) := fun o1 o2 => h'.below (HB o1 o2) (Nat.le_refl _)
  have HBH : Hid _ := HB
  have hm1 : cl ≤ 9223372036854775807 := h.1
  have hm2 : kl ≤ 9223372036854775807 := h'.1
  clear h h' HB
  go_enter Trym.func11, Trym.ntmps11
  go_upto_region 17 with fail
  all_goals first
    | (go_ret; exact zz_no (HBH.out _ _))
    | skip
  have hcl : cl ≤ 1048576 := by omega
  go_cut [5, 6] from 7 (fun z i wx => ∃ n : Int, z = .int .i64 n ∧ i = .int .i64 0 ∧ wx = (w.alloc (.cells #[.bool h0, .string c1, .bool h2, .string c3, .bool h4, .slice ca cl cc, .bool h6, .int .i64 c7, .bool h8, .int .i64 c9, .bool h10, .string c11] 24)).alloc (.cells #[.string s0, .string s1, .string s2, .slice ka kl kc, .int .i64 i4, .int .i64 i5, .int .i64 i6, .string s7, .int .i64 i8, .string s9, .int .i64 i10, .int .i64 i11, .string s12, .string s13] 26))
  case first =>
    go_wp2
    go_meet
    case rel => exact ⟨_, rfl, rfl, rfl⟩
  case rest =>
    obtain ⟨n, rfl, rfl, rfl⟩ := hcut
    go_wp2_with fail
    go_loop [5, 6] (fun z i => ∃ (n : Int) (k : Nat), k ≤ cl ∧ z = .int .i64 n ∧ i = .int .i64 (k : Int)) (fun _ i => (cl - intOf i).toNat)
    case atStart => exact ⟨_, 0, by omega, rfl, rfl⟩
    case round =>
      obtain ⟨n, k, hk, rfl, rfl⟩ := hrel
      by_cases hlt : k < cl
      · obtain ⟨_, hcc⟩ := HF.out (.cells #[.bool h0, .string c1, .bool h2, .string c3, .bool h4, .slice ca cl cc, .bool h6, .int .i64 c7, .bool h8, .int .i64 c9, .bool h10, .string c11] 24) (.cells #[.string s0, .string s1, .string s2, .slice ka kl kc, .int .i64 i4, .int .i64 i5, .int .i64 i6, .string s7, .int .i64 i8, .string s9, .int .i64 i10, .int .i64 i11, .string s12, .string s13] 26)
        rcases hcc with ⟨h0, _⟩ | ⟨hp, b, off, rfl, hcell⟩
        · omega
        · have hck := (hcell k hlt).1
          clear hcell
          go_wp2
          all_goals first
            | (go_ret; exact zz_no (HBH.out _ _))
            | (go_round; (case rel => exact ⟨_, k + 1, by omega, rfl, by go_num⟩); (case measure => simp [intOf]; omega))
      · go_upto_region 50 with fail
        all_goals first
          | (go_ret; exact zz_no (HBH.out _ _))
          | skip
        have hkl : kl ≤ 1048576 := by omega
        go_cut [5, 7] from 8 (fun z i wx => ∃ n : Int, z = .int .i64 n ∧ i = .int .i64 0 ∧ wx = (w.alloc (.cells #[.bool h0, .string c1, .bool h2, .string c3, .bool h4, .slice ca cl cc, .bool h6, .int .i64 c7, .bool h8, .int .i64 c9, .bool h10, .string c11] 24)).alloc (.cells #[.string s0, .string s1, .string s2, .slice ka kl kc, .int .i64 i4, .int .i64 i5, .int .i64 i6, .string s7, .int .i64 i8, .string s9, .int .i64 i10, .int .i64 i11, .string s12, .string s13] 26))
        case first =>
          go_wp2
          go_meet
          case rel => exact ⟨_, rfl, rfl, rfl⟩
        case rest =>
          obtain ⟨n, rfl, rfl, rfl⟩ := hcut
          go_wp2_with fail
          go_loop [5, 7] (fun z i => ∃ (n : Int) (k : Nat), k ≤ kl ∧ z = .int .i64 n ∧ i = .int .i64 (k : Int)) (fun _ i => (kl - intOf i).toNat)
          case atStart => exact ⟨_, 0, by omega, rfl, rfl⟩
          case round =>
            obtain ⟨n, k, hk, rfl, rfl⟩ := hrel
            by_cases hlt : k < kl
            · obtain ⟨_, hcc⟩ := HG.out (.cells #[.bool h0, .string c1, .bool h2, .string c3, .bool h4, .slice ca cl cc, .bool h6, .int .i64 c7, .bool h8, .int .i64 c9, .bool h10, .string c11] 24) (.cells #[.string s0, .string s1, .string s2, .slice ka kl kc, .int .i64 i4, .int .i64 i5, .int .i64 i6, .string s7, .int .i64 i8, .string s9, .int .i64 i10, .int .i64 i11, .string s12, .string s13] 26)
              rcases hcc with ⟨h0, _⟩ | ⟨hp, b, off, rfl, hcell⟩
              · omega
              · have hck := (hcell k hlt).1
                clear hcell
                go_wp2
                all_goals first
                  | (go_ret; exact zz_no (HBH.out _ _))
                  | (go_round; (case rel => exact ⟨_, k + 1, by omega, rfl, by go_num⟩); (case measure => simp [intOf]; omega))
            · go_wp2
              all_goals first
                | (go_ret; exact zz_no (HBH.out _ _))
                | (go_ret; exact zz_fin (fun _ => ⟨hcl, hkl⟩) (HBH.out _ _))
end Go.Proofs.Qxb6000698aMods
