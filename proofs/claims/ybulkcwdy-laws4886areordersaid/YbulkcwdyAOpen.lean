/-
  The two arguments opened: []int, [][]uint16.
-/
import Derived.Test.YbulkcwdyRows
import Derived.Test.YbulkcwdyAMove
import Derived.ProofKit
import Derived.OpenShut
import Derived.ChangeOld
import Derived.Deep.Slices
namespace Go.Proofs.Ybulkcwdy
open Go.ChangeShapes Go.WideShapes Go.ChangeAt Go.RowKit Go.Deep

theorem ownK : ownKnob Yba.prog.godebug = none := by kernel_rfl
theorem laidK : laidOutB Yba.prog = true := by kernel_rfl
theorem rng_u16 {n : Int} (h : (Lit.int .u16 n).wf = true) : 0 ≤ n ∧ n ≤ 65535 := by
  have : decide (IntKind.u16.min ≤ n) && decide (n ≤ IntKind.u16.max) := h
  rw [show IntKind.u16.min = 0 from rfl, show IntKind.u16.max = 65535 from rfl] at this
  simpa using this

theorem open_row {H : Type} {enc : TypeId × Value → H} {W : World} {base fuel : Nat} {held : Bool} {t e : TypeId} {q : IntKind} (ht : Yba.prog.underlying t = some (.slice e)) (hc : Yba.prog.cellsOf e = 1) (he : Yba.prog.underlying e = some (.int q)) {ao : Option Addr} {len cap : Nat} {x : DataW H × List MemPlace}
    (h : DataW.trod enc Yba.prog W base (fun _ => true) held fuel t [.slice ao len cap] = some x) :
    ∃ (b o : Nat) (zs : List Int), zs.length = len ∧ (0 < len → ao = some ⟨b, o, none⟩) ∧ (∀ j x, zs[j]? = some x → W.cell? ⟨b, o + j, none⟩ = some (.int q x)) ∧ ∀ x ∈ zs, (Lit.int q x).wf = true := by
  rcases open_slice1 ht hc h with ⟨hcs, _⟩ | ⟨a, len', cap', m, n, V, D, Pl, hcs, _, hle, _, hmm, _, hx⟩
  · simp at hcs
    obtain ⟨rfl, rfl, rfl⟩ := hcs
    exact ⟨0, 0, [], rfl, fun h => absurd h (by omega), fun j x hx => by simp at hx, by simp⟩
  · simp at hcs
    obtain ⟨rfl, rfl, rfl⟩ := hcs
    have hm : m = cap := by rw [hmm]; simp
    have each : ∀ i, i < len → ∃ z : Int, W.cell? (a.add i) = some (.int q z) ∧ (Lit.int q z).wf = true := by
      intro i hi
      obtain ⟨h1, h2⟩ := hx i (by omega)
      obtain ⟨z, e0, _, w0⟩ := DataW.trod_int he h2
      simp only [List.cons.injEq, and_true] at e0
      exact ⟨z, by rw [h1, e0], w0⟩
    obtain ⟨E, hE⟩ := choose_lt each
    obtain ⟨b, o, sp⟩ := a
    have spot : 0 < len → sp = none := fun hi => by
      have := World.cell?_spot (hE 0 hi).1
      simpa [Addr.add] using this
    refine ⟨b, o, (List.range len).map E, by simp, fun h => by rw [spot h], fun j z hz => ?_, fun z hz => ?_⟩
    · have hj : j < len := by
        rcases Nat.lt_or_ge j len with h | h
        · exact h
        · rw [List.getElem?_eq_none (by simpa using h)] at hz; cases hz
      obtain rfl := spot (by omega)
      simp [hj] at hz
      subst hz
      have := (hE j hj).1
      rwa [Addr.add_mid] at this
    · obtain ⟨j, hj, rfl⟩ := List.mem_map.1 hz
      exact (hE j (by simpa using hj)).2

theorem open_sets {H : Type} {enc : TypeId × Value → H} {W : World} {base fuel : Nat} {held : Bool} {ao : Option Addr} {len cap : Nat} {x : DataW H × List MemPlace}
    (h : DataW.trod enc Yba.prog W base (fun _ => true) held fuel 23 [.slice ao len cap] = some x) : ∃ b o sel sA sC, Sets W ao b o len sel sA sC := by
  rcases open_slice1 Yba.underlying23 (by kernel_rfl) h with ⟨hcs, _⟩ | ⟨a, len', cap', m, n, V, D, Pl, hcs, _, hle, _, hmm, _, hx⟩
  · simp at hcs
    obtain ⟨rfl, rfl, rfl⟩ := hcs
    exact ⟨0, 0, fun _ => [], fun _ => none, fun _ => 0, fun h => absurd h (by omega), fun i hi => absurd hi (by omega), fun i hi => absurd hi (by omega), fun i hi => absurd hi (by omega)⟩
  · simp at hcs
    obtain ⟨rfl, rfl, rfl⟩ := hcs
    have hm : m = cap := by rw [hmm]; simp
    have each : ∀ i, i < len → ∃ q : Option Addr × List Int × Nat, W.cell? (a.add i) = some (.slice q.1 q.2.1.length q.2.2) ∧ (0 < q.2.1.length → ∃ b o, q.1 = some ⟨b, o, none⟩ ∧ ∀ j x, q.2.1[j]? = some x → W.cell? ⟨b, o + j, none⟩ = some (.int .u16 x)) ∧ ∀ x ∈ q.2.1, 0 ≤ x ∧ x ≤ 65535 := by
      intro i hi
      obtain ⟨h1, h2⟩ := hx i (by omega)
      have hsl : ∃ ai li ci, V i = .slice ai li ci := by
        rcases open_slice1 Yba.underlying24 (by kernel_rfl) h2 with ⟨hcs, _⟩ | ⟨a', l', c', _, _, _, _, _, hcs, _⟩
        · simp at hcs; exact ⟨_, _, _, hcs⟩
        · simp at hcs; exact ⟨_, _, _, hcs⟩
      obtain ⟨ai, li, ci, hV⟩ := hsl
      rw [hV] at h1 h2
      obtain ⟨b, o, zs, rfl, z2, z3, z4⟩ := open_row Yba.underlying24 (by kernel_rfl) Yba.underlying54 h2
      exact ⟨(ai, zs, ci), h1, fun h0 => ⟨b, o, z2 h0, z3⟩, fun x hx => rng_u16 (z4 x hx)⟩
    obtain ⟨E, hE⟩ := choose_lt each
    obtain ⟨b, o, sp⟩ := a
    have spot : 0 < len → sp = none := fun hi => by
      have := World.cell?_spot (hE 0 hi).1
      simpa [Addr.add] using this
    refine ⟨b, o, fun i => (E i).2.1, fun i => (E i).1, fun i => (E i).2.2, fun h => by rw [spot h], fun i hi => ?_, fun i hi => (hE i hi).2.1, fun i hi => (hE i hi).2.2⟩
    obtain rfl := spot (by omega)
    have := (hE i hi).1
    rwa [Addr.add_mid] at this
end Go.Proofs.Ybulkcwdy
