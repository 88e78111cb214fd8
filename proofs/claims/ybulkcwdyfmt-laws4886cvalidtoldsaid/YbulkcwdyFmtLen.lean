/-
  math/bits.Len at 0 to 15.
-/
import Derived.Test.YbulkcwdyFmtSmall
namespace Go.Proofs.YbulkcwdyFmt
open Go.RowKit Go.Extern.Stop Go.Stop Go.Extern

/-- What Len hands back at 0 to 15. -/
def LenEnd (e : Ending) : Prop := ∃ k : Int, 0 ≤ k ∧ k ≤ 4 ∧ e = .returned (.int .i64 k)
theorem lenEnd {e : Ending} (k : Int) (he : e = .returned (.int .i64 k)) (h0 : 0 ≤ k) (h1 : k ≤ 4) : LenEnd e := ⟨k, h0, h1, he⟩

set_option maxHeartbeats 1000000 in
set_option maxRecDepth 100000 in
theorem len_any (x : Int) (w : World) (h0 : 0 ≤ x) (h1 : x ≤ 15) : Calls Ybaf.prog 16 #[.int .u64 x] w fun e w' => LenEnd e ∧ w' = w := by
  obtain h | h | h | h | h | h | h | h | h | h | h | h | h | h | h | h : x = 0 ∨ x = 1 ∨ x = 2 ∨ x = 3 ∨ x = 4 ∨ x = 5 ∨ x = 6 ∨ x = 7 ∨ x = 8 ∨ x = 9 ∨ x = 10 ∨ x = 11 ∨ x = 12 ∨ x = 13 ∨ x = 14 ∨ x = 15 := by omega
  all_goals
    subst h
    clear h0 h1
    go_enter Ybaf.func16, Ybaf.ntmps16
    go_wp2
    go_ret
    exact ⟨lenEnd _ rfl (by decide +kernel) (by decide +kernel), rfl⟩

end Go.Proofs.YbulkcwdyFmt
