/-
  slices.IsSorted[[]int,int].
-/
import Derived.Test.YbulkcwdySearch
import Derived.Deep.QuietTactic
import Derived.BigQuiet
import Derived.Deep.RegionHeld3
namespace Go.Proofs.Ybulkcwdy
open Go.RowKit

/-- Whether the first n are in order. -/
def InOrder (zs : List Int) (n : Nat) : Prop := ∀ j, j + 1 < n → zs.getD j 0 ≤ zs.getD (j + 1) 0
def SortEnd (zs : List Int) (n : Nat) (e : Ending) : Prop := (e = .returned (.bool true) ∧ InOrder zs n) ∨ (e = .returned (.bool false) ∧ ¬ InOrder zs n)

set_option maxRecDepth 100000 in
set_option maxHeartbeats 1000000 in
theorem isSorted_any (b off n c : Nat) (ao : Option Addr) (zs : List Int) (w : World) (hn : n ≤ 1048576) (hao : Hid (0 < n → ao = some ⟨b, off, none⟩))
    (hc : ∀ j, j < n → w.cell? ⟨b, off + j, none⟩ = some (.int .i64 (zs.getD j 0))) :
    Calls Yba.prog 10 #[.slice ao n c] w fun e w' => SortEnd zs n e ∧ ∃ q, w' = w.drewN q := by
  have HC : Hid (∀ j, j < n → w.cell? ⟨b, off + j, none⟩ = some (.int .i64 (zs.getD j 0))) := hc
  clear hc
  go_enter Yba.func10, Yba.ntmps10
  go_wp2
  go_loopw [3] (fun ix wr => ∃ (m : Int) (q : Nat), -1 ≤ m ∧ m < n ∧ ix = .int .i64 m ∧ Hid (∀ j : Nat, m ≤ j → j + 1 < n → zs.getD j 0 ≤ zs.getD (j + 1) 0) ∧ wr = w.drewN q) (fun ix _ => (intOf ix + 1).toNat)
  case atStart => exact ⟨(n : Int) - 1, 0, by omega, by omega, by go_num, fun j h1 h2 => by omega, rfl⟩
  case round =>
    obtain ⟨m, q, hm0, hm1, rfl, HM, rfl⟩ := hrel
    by_cases hm : 0 < m
    · obtain ⟨t, rfl⟩ : ∃ t : Nat, m = (t : Int) + 1 := ⟨(m - 1).toNat, by omega⟩
      obtain rfl := hao.out (by omega)
      have c1 : w.cell? ⟨b, off + (t + 1), none⟩ = some (.int .i64 (zs.getD (t + 1) 0)) := HC.out (t + 1) (by omega)
      have c0 : w.cell? ⟨b, off + t, none⟩ = some (.int .i64 (zs.getD t 0)) := HC.out t (by omega)
      generalize hy1 : zs.getD (t + 1) 0 = y1 at c1
      generalize hy0 : zs.getD t 0 = y0 at c0
      have HY1 : Hid (zs.getD (t + 1) 0 = y1) := hy1
      have HY0 : Hid (zs.getD t 0 = y0) := hy0
      clear hy1 hy0
      have htn : t + 1 < n := by omega
      have htn2 : t < n := by omega
      have i0 : (0 : Int) ≤ (t : Int) + 1 := by omega
      have i1 : (t : Int) + 1 < (n : Int) := by omega
      have i2 : (0 : Int) ≤ (t : Int) := by omega
      have i3 : (t : Int) < (n : Int) := by omega
      have i4 : ((t : Int) + 1).toNat = t + 1 := by omega
      have i5 : IntKind.i64.wrap ((t : Int) + 1 - 1) = t := by rw [IntKind.wrap_i64]; omega
      have i6 : IntKind.i64.wrap (t : Int) = t := by rw [IntKind.wrap_i64]; omega
      by_cases hlt : y1 < y0
      · go_wp2
        go_region_held3 (fun x => x.cell? ⟨b, off + (t + 1), none⟩ = some (.int .i64 y1) ∧ x.cell? ⟨b, off + t, none⟩ = some (.int .i64 y0)) (go_keep)
          (first | (go_at_call 19; refine (less_any _ _ _).mono ?_; rintro e w' ⟨rfl, rfl⟩))
        all_goals
          go_wp2
          go_ret
          refine ⟨.inr ⟨by simp, fun h => ?_⟩, _, rfl⟩
          have := h t (by omega)
          rw [HY1.out, HY0.out] at this
          omega
      · go_wp2
        go_region_held3 (fun x => x.cell? ⟨b, off + (t + 1), none⟩ = some (.int .i64 y1) ∧ x.cell? ⟨b, off + t, none⟩ = some (.int .i64 y0)) (go_keep)
          (first | (go_at_call 19; refine (less_any _ _ _).mono ?_; rintro e w' ⟨rfl, rfl⟩))
        all_goals
          go_wp2
          go_roundw
          case rel =>
            refine ⟨t, _, by omega, by omega, by go_num, fun j h1 h2 => ?_, rfl⟩
            by_cases hj : j = t
            · subst hj; rw [HY1.out, HY0.out]; omega
            · exact HM.out j (by omega) h2
          case measure => simp [intOf]; omega
    · go_wp2
      go_ret
      exact ⟨.inl ⟨by simp, fun j hj => HM.out j (by omega) hj⟩, _, rfl⟩
end Go.Proofs.Ybulkcwdy
