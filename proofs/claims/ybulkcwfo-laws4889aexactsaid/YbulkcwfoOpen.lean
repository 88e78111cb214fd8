/-
  The argument that is a slice of records, opened.
-/
import Derived.Test.YbulkcwfoRows
import Derived.Test.YbulkcwfoCnt
import Derived.ProofKit
import Derived.OpenShut
import Derived.ChangeOld
import Derived.Deep.Slices
import Derived.Deep.Strs
namespace Go.Proofs.Ybulkcwfo
open Go.ChangeShapes Go.WideShapes Go.ChangeAt Go.RowKit Go.Deep

theorem own : ownKnob Yba.prog.godebug = none := by kernel_rfl
theorem laidOut : laidOutB Yba.prog = true := by kernel_rfl
theorem cells28 : Yba.prog.cellsOf 28 = 3 := by kernel_rfl
theorem cells3 : Yba.prog.cellsOf 3 = 1 := by kernel_rfl
theorem rng_u8 {n : Int} (h : (Lit.int .u8 n).wf = true) : 0 ≤ n ∧ n ≤ 255 := by
  have : decide (IntKind.u8.min ≤ n) && decide (n ≤ IntKind.u8.max) := h
  rw [show IntKind.u8.min = 0 from rfl, show IntKind.u8.max = 255 from rfl] at this
  simpa using this
theorem rng_u64 {n : Int} (h : (Lit.int .u64 n).wf = true) : 0 ≤ n ∧ n ≤ 18446744073709551615 := by
  have : decide (IntKind.u64.min ≤ n) && decide (n ≤ IntKind.u64.max) := h
  rw [show IntKind.u64.min = 0 from rfl, show IntKind.u64.max = 18446744073709551615 from rfl] at this
  simpa using this

theorem came {H : Type} {enc : TypeId × Value → H} {W : World} {base fuel : Nat} {spare : Nat → Bool} {held : Bool} {ao : Option Addr} {len cap : Nat} {x : DataW H × List MemPlace}
    (h : DataW.trod enc Yba.prog W base spare held fuel 22 [.slice ao len cap] = some x) (hl : len ≤ 1024) : ∃ b o es, Came4889 W ao b o len es := by
  rcases open_slice Yba.underlying22 h with ⟨hcs, _⟩ | ⟨a, len', cap', m, n, D, Pl, hcs, hb, hle, hm, hmm, rfl, hx⟩
  · simp at hcs
    obtain ⟨rfl, rfl, rfl⟩ := hcs
    exact ⟨0, 0, [], rfl, by omega, fun h => absurd h (by omega), fun h => absurd h (by omega), fun j e he => by simp at he, by simp⟩
  · simp at hcs
    obtain ⟨rfl, rfl, rfl⟩ := hcs
    have hlm : len ≤ m := by rw [hmm]; split <;> omega
    have each : ∀ i, i < len → ∃ q : Int × Int × Int, W.cell? (a.add (i * 3)) = some (.int .u8 q.1) ∧ W.cell? (a.add (i * 3 + 1)) = some (.int .i64 q.2.1) ∧ W.cell? (a.add (i * 3 + 2)) = some (.int .i64 q.2.2) ∧ 0 ≤ q.1 ∧ q.1 ≤ 255 := by
      intro i hi
      obtain ⟨cs', h1, h2⟩ := hx i (by omega)
      rw [cells28] at h1
      obtain ⟨_, hlen, hcell⟩ := World.cells?_some h1
      obtain ⟨y0, y1, y2, k, hxy, _, u0, u1, u2⟩ := trod_struct3 Yba.underlying28 h2
      match cs', hlen with
      | [v0, v1, v2], _ =>
        simp only [cells5, cells3, List.drop, List.take] at u0 u1 u2
        obtain ⟨s, e0, d0, w0⟩ := DataW.trod_int Yba.underlying5 u0
        obtain ⟨q, e1, d1, _⟩ := DataW.trod_int Yba.underlying3 u1
        obtain ⟨p, e2, d2, _⟩ := DataW.trod_int Yba.underlying3 u2
        simp only [List.cons.injEq, and_true] at e0 e1 e2
        subst e0; subst e1; subst e2
        have c0 := hcell 0 (by omega)
        have c1 := hcell 1 (by omega)
        have c2 := hcell 2 (by omega)
        rw [add_add] at c0 c1 c2
        exact ⟨(s, q, p), by simpa using c0, by simpa using c1, by simpa using c2, rng_u8 w0⟩
    obtain ⟨E, hE⟩ := choose_lt each
    obtain ⟨b, o, sp⟩ := a
    have spot : 0 < len → sp = none := fun hi => by
      have := World.cell?_spot (hE 0 hi).1
      simpa [Addr.add] using this
    refine ⟨b, o, (List.range len).map E, by simp, hl, fun h => by rw [spot h], fun h => ?_, fun j e he => ?_, fun e he => ?_⟩
    · exact World.block_lt_of_cell? W _ (hE 0 h).1
    · have hj : j < len := by
        rcases Nat.lt_or_ge j len with h | h
        · exact h
        · rw [List.getElem?_eq_none (by simpa using h)] at he; cases he
      obtain rfl := spot (by omega)
      simp [hj] at he
      subst he
      have := hE j hj
      simp only [Addr.add_mid] at this
      exact ⟨this.1, by simpa [Nat.add_assoc] using this.2.1, by simpa [Nat.add_assoc] using this.2.2.1⟩
    · simp at he
      obtain ⟨j, hj, rfl⟩ := he
      exact (hE j hj).2.2.2
end Go.Proofs.Ybulkcwfo
