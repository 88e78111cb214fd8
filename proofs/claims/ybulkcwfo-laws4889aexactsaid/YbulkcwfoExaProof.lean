/-
  'Rows.LawS4889AExactSaid' proved.
-/
import Derived.Test.YbulkcwfoOpen
import Derived.Test.YbulkcwfoExa
namespace Go.Proofs.Ybulkcwfo.lawS4889AExact
open Go.Deep Go.ChangeShapes Go.WideShapes Go.ChangeAt Go.RowKit
set_option linter.unusedVariables false

theorem came2 {H : Type} {enc : TypeId × Value → H} {W : World} {base fuel : Nat} {spare : Nat → Bool} {held : Bool} {ao : Option Addr} {len cap : Nat} {x : DataW H × List MemPlace}
    (h : DataW.trod enc Yba.prog W base spare held fuel 22 [.slice ao len cap] = some x) (hl : len ≤ 1024) : ∃ b o es, Came4889 W ao b o len es ∧ ∀ e ∈ es, (Lit.int .i64 e.2.1).wf = true ∧ (Lit.int .i64 e.2.2).wf = true := by
  rcases open_slice Yba.underlying22 h with ⟨hcs, _⟩ | ⟨a, len', cap', m, n, D, Pl, hcs, hb, hle, hm, hmm, rfl, hx⟩
  · simp at hcs
    obtain ⟨rfl, rfl, rfl⟩ := hcs
    exact ⟨0, 0, [], ⟨rfl, by omega, fun h => absurd h (by omega), fun h => absurd h (by omega), fun j e he => by simp at he, by simp⟩, by simp⟩
  · simp at hcs
    obtain ⟨rfl, rfl, rfl⟩ := hcs
    have hlm : len ≤ m := by rw [hmm]; split <;> omega
    have each : ∀ i, i < len → ∃ q : Int × Int × Int, W.cell? (a.add (i * 3)) = some (.int .u8 q.1) ∧ W.cell? (a.add (i * 3 + 1)) = some (.int .i64 q.2.1) ∧ W.cell? (a.add (i * 3 + 2)) = some (.int .i64 q.2.2) ∧ (0 ≤ q.1 ∧ q.1 ≤ 255) ∧ (Lit.int .i64 q.2.1).wf = true ∧ (Lit.int .i64 q.2.2).wf = true := by
      intro i hi
      obtain ⟨cs', h1, h2⟩ := hx i (by omega)
      rw [cells28] at h1
      obtain ⟨_, hlen, hcell⟩ := World.cells?_some h1
      obtain ⟨y0, y1, y2, k, hxy, _, u0, u1, u2⟩ := trod_struct3 Yba.underlying28 h2
      match cs', hlen with
      | [v0, v1, v2], _ =>
        simp only [cells5, cells3, List.drop, List.take] at u0 u1 u2
        obtain ⟨s, e0, d0, w0⟩ := DataW.trod_int Yba.underlying5 u0
        obtain ⟨q, e1, d1, w1⟩ := DataW.trod_int Yba.underlying3 u1
        obtain ⟨p, e2, d2, w2⟩ := DataW.trod_int Yba.underlying3 u2
        simp only [List.cons.injEq, and_true] at e0 e1 e2
        subst e0; subst e1; subst e2
        have c0 := hcell 0 (by omega)
        have c1 := hcell 1 (by omega)
        have c2 := hcell 2 (by omega)
        rw [add_add] at c0 c1 c2
        exact ⟨(s, q, p), by simpa using c0, by simpa using c1, by simpa using c2, rng_u8 w0, w1, w2⟩
    obtain ⟨E, hE⟩ := choose_lt each
    obtain ⟨b, o, sp⟩ := a
    have spot : 0 < len → sp = none := fun hi => by
      have := World.cell?_spot (hE 0 hi).1
      simpa [Addr.add] using this
    refine ⟨b, o, (List.range len).map E, ⟨by simp, hl, fun h => by rw [spot h], fun h => ?_, fun j e he => ?_, fun e he => ?_⟩, fun e he => ?_⟩
    · exact World.block_lt_of_cell? W _ (hE 0 h).1
    · have hj : j < len := by
        rcases Nat.lt_or_ge j len with h | h
        · exact h
        · rw [List.getElem?_eq_none (by simpa using h)] at he; cases he
      obtain rfl := spot (by omega)
      simp [hj] at he
      subst he
      have := hE j hj
      simp only [Addr.add_mid] at this
      exact ⟨this.1, by simpa [Nat.add_assoc] using this.2.1, by simpa [Nat.add_assoc] using this.2.2.1⟩
    · simp at he
      obtain ⟨j, hj, rfl⟩ := he
      exact (hE j hj).2.2.2.1
    · simp at he
      obtain ⟨j, hj, rfl⟩ := he
      exact (hE j hj).2.2.2.2

set_option maxRecDepth 100000 in
set_option maxHeartbeats 1000000 in
theorem walk {H : Type} {enc : TypeId × Value → H} {fuel : Nat} {x : DataW H × List MemPlace} (ao : Option Addr) (len cap : Nat) (pick miss : Int) (w : World) (h : DataW.trod enc Yba.prog w 0 (fun _ => true) true fuel 22 [.slice ao len cap] = some x) (wp : (Lit.int .u64 pick).wf = true) (wm : (Lit.int .u8 miss).wf = true) :
    Calls Yba.prog 3 #[.slice ao len cap, .int .u64 pick, .int .u8 miss] w fun e w' => e = .returned (.bool true) ∧ Below w.heap.size w w' := by
  by_cases h1 : 1024 < len
  · clear h wp wm
    go_enter Yba.func3, Yba.ntmps3
    go_wp2
    go_ret
    exact ⟨rfl, Below.refl _ _⟩
  · obtain ⟨b, o, es, hC, hF⟩ := came2 h (by omega)
    exact exact_all ao b o len cap es pick miss w hC hF (rng_u64 wp).1 (rng_u64 wp).2 (rng_u8 wm).1 (rng_u8 wm).2

set_option maxRecDepth 100000 in
theorem lifted (os : Os) (started : os.Started) (H : Type) (enc : TypeId × Value → H) :
    ReturnsInHanded {} Yba.checked os 3 .any (Rows.lawS4889AExactSpec.pre6 enc Yba.prog Yba.f3 Rows.lawS4889AExactRow.domain false) (Rows.lawS4889AExactSpec.post enc Yba.prog Yba.f3 false true false false) := by
  refine returnsInHanded_of_change (C := Yba.checked) own started (by kernel_rfl) Yba.func3
    (ChangeSpec.witness6 (enc := enc) (C := Yba.checked) false ⟨#[], #[.slice none 0 0, .int .u64 0, .int .u8 0], []⟩ 8 (by kernel_rfl) (by kernel_rfl) (by kernel_rfl) (by kernel_rfl)) ?_
  intro W base args ds gs before hval0 hW hcnd _
  have hval : ∀ (j : Nat) t v, Yba.f3.params[j]? = some t → args[j]? = some v → Value.okWide Yba.prog W .any base t v := hval0
  have hW' := hW
  obtain ⟨p, q, hA0, hV, rfl, hfz, hnd⟩ := hW
  have hA : DataW.TrodAll enc Yba.prog W 0 (fun _ => true) true Yba.f3.params.toList args.toList ds p := hA0
  rw [Yba.params3] at hA hval
  obtain ⟨v0, vs0, d0, ds0, p0, q0, hargs, rfl, rfl, h0, r0⟩ := trodAll_cons hA
  obtain ⟨v1, vs1, d1, ds1, p1, q1, rfl, rfl, rfl, h1, r1⟩ := trodAll_cons r0
  obtain ⟨v2, vs2, d2, ds2, p2, q2, rfl, rfl, rfl, h2, r2⟩ := trodAll_cons r1
  obtain ⟨rfl, rfl, rfl⟩ := trodAll_nil r2
  obtain rfl : args = #[v0, v1, v2] := by cases args; simp_all
  obtain ⟨rfl, rfl⟩ := trodVars_none hV
  obtain ⟨ao, len, cap, rfl⟩ := okWide_slice Yba.underlying22 (hval 0 22 v0 rfl rfl)
  have k1 := h0
  have lt1 : ∀ x ∈ p0, x.block < W.heap.size := by obtain ⟨m, hm⟩ := k1; exact DataW.trod_lt m _ _ _ hm
  obtain ⟨fuel, hf⟩ := h0
  obtain ⟨a1, rfl, rfl, rfl, w1⟩ := open_int Yba.underlying23 (hval 1 23 v1 rfl rfl) h1
  obtain ⟨a2, rfl, rfl, rfl, w2⟩ := open_int Yba.underlying5 (hval 2 5 v2 rfl rfl) h2
  clear hA0 hval0
  refine (walk ao len cap a1 a2 W (by simpa [Value.cells] using hf) w1 w2).mono fun e W' ⟨he, bel⟩ => ?_
  subst he
  exact ⟨_, rfl, _, _, _, [], _, [], hW', trodAll_mk1 (shut_bool Yba.underlying4 _), (trodAll_cons_mk (Below.trod laidOut (by kernel_rfl) (of_decide_eq_true (by kernel_rfl)) k1 bel lt1) (trodAll_cons_mk (shut_int Yba.underlying23 w1) (trodAll_cons_mk (shut_int Yba.underlying5 w2) trodAll_mk0))), rfl, bel.frame _, fun h => by cases h⟩

theorem over : Rows.lawS4889AExactRow.holds Yba.pinned (OpenSpec.ofChange Rows.lawS4889AExactSpec) :=
  OpenClaim.holds_of_wide 3 Yba.f3 rfl rfl rfl rfl rfl rfl rfl ⟨rfl, rfl, rfl, rfl, rfl⟩ rfl rfl rfl rfl rfl (by kernel_rfl) Yba.func3 (by kernel_rfl)
    (of_decide_eq_true (by kernel_rfl)) (by unfold Func.isWrapper; first | (rw [if_pos (by decide +kernel)]; kernel_rfl) | (rw [if_neg (by decide +kernel)]; exact ⟨rfl, rfl⟩))
    (fun os started H enc _ => lifted os started H enc)
end Go.Proofs.Ybulkcwfo.lawS4889AExact
namespace Go.Proofs.Ybulkcwfo
/-- ████ THE STATEMENT ████ -/
theorem exact_holds : Rows.LawS4889AExactSaid := lawS4889AExact.over
end Go.Proofs.Ybulkcwfo
