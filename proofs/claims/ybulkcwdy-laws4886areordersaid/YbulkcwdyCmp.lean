/-
  The closure in (*clockMaker).move: cmp.Compare(places[i], places[j]).
-/
import Derived.Test.YbulkcwdyShelf
import Derived.Test.YbulkcwdySorted
namespace Go.Proofs.Ybulkcwdy
open Go.RowKit

set_option maxRecDepth 100000 in
set_option maxHeartbeats 1000000 in
theorem cmp15 (bx g cap n i j : Nat) (x y : Int) (w : World) (hb : w.cell? ⟨bx, 0, none⟩ = some (.slice (some ⟨g, 0, none⟩) n cap)) (hx : w.cell? ⟨g, i, none⟩ = some (.int .i64 x)) (hy : w.cell? ⟨g, j, none⟩ = some (.int .i64 y)) (hi : i < n) (hj : j < n) :
    Calls Yba.prog 15 #[.int .i64 i, .int .i64 j, .pointer (some ⟨bx, 0, none⟩)] w fun e w' => e = .returned (.int .i64 (Lib.compareInt x y)) ∧ ∃ q, w' = w.drewN q := by
  go_enter Yba.func15, Yba.ntmps15
  go_wp2
  go_region_held3 (fun z => z.cell? ⟨bx, 0, none⟩ = some (.slice (some ⟨g, 0, none⟩) n cap) ∧ z.cell? ⟨g, i, none⟩ = some (.int .i64 x) ∧ z.cell? ⟨g, j, none⟩ = some (.int .i64 y)) (go_keep)
    (first | (go_at_call 16; refine (Yba.cmp_Compare_int _ _ _).mono ?_; rintro e w' ⟨rfl, rfl⟩))
  all_goals
    go_wp2
    go_ret
    exact ⟨by simp, _, rfl⟩
end Go.Proofs.Ybulkcwdy
