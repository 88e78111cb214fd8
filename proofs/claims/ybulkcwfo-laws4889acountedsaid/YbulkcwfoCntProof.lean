/-
  'Rows.LawS4889ACountedSaid' proved.
-/
import Derived.Test.YbulkcwfoOpen
namespace Go.Proofs.Ybulkcwfo.lawS4889ACounted
open Go.ChangeShapes Go.WideShapes Go.ChangeAt Go.RowKit
set_option linter.unusedVariables false

set_option maxRecDepth 100000 in
set_option maxHeartbeats 1000000 in
theorem walk {H : Type} {enc : TypeId × Value → H} {fuel : Nat} {x : DataW H × List MemPlace} (ao : Option Addr) (len cap : Nat) (pick miss : Int) (w : World) (h : DataW.trod enc Yba.prog w 0 (fun _ => true) true fuel 22 [.slice ao len cap] = some x) (wp : (Lit.int .u64 pick).wf = true) (wm : (Lit.int .u8 miss).wf = true) :
    Calls Yba.prog 4 #[.slice ao len cap, .int .u64 pick, .int .u8 miss] w fun e w' => e = .returned (.bool true) ∧ Below w.heap.size w w' := by
  by_cases h1 : 1024 < len
  · clear h wp wm
    go_enter Yba.func4, Yba.ntmps4
    go_wp2
    go_ret
    exact ⟨rfl, Below.refl _ _⟩
  · obtain ⟨b, o, es, hC⟩ := came h (by omega)
    exact counted ao b o len cap es pick miss w hC (rng_u64 wp).1 (rng_u64 wp).2 (rng_u8 wm).1 (rng_u8 wm).2

set_option maxRecDepth 100000 in
theorem lifted (os : Os) (started : os.Started) (H : Type) (enc : TypeId × Value → H) :
    ReturnsInHanded {} Yba.checked os 4 .any (Rows.lawS4889ACountedSpec.pre6 enc Yba.prog Yba.f4 Rows.lawS4889ACountedRow.domain false) (Rows.lawS4889ACountedSpec.post enc Yba.prog Yba.f4 false true false false) := by
  refine returnsInHanded_of_change (C := Yba.checked) own started (by kernel_rfl) Yba.func4
    (ChangeSpec.witness6 (enc := enc) (C := Yba.checked) false ⟨#[], #[.slice none 0 0, .int .u64 0, .int .u8 0], []⟩ 8 (by kernel_rfl) (by kernel_rfl) (by kernel_rfl) (by kernel_rfl)) ?_
  intro W base args ds gs before hval0 hW hcnd _
  have hval : ∀ (j : Nat) t v, Yba.f4.params[j]? = some t → args[j]? = some v → Value.okWide Yba.prog W .any base t v := hval0
  have hW' := hW
  obtain ⟨p, q, hA0, hV, rfl, hfz, hnd⟩ := hW
  have hA : DataW.TrodAll enc Yba.prog W 0 (fun _ => true) true Yba.f4.params.toList args.toList ds p := hA0
  rw [Yba.params4] at hA hval
  obtain ⟨v0, vs0, d0, ds0, p0, q0, hargs, rfl, rfl, h0, r0⟩ := trodAll_cons hA
  obtain ⟨v1, vs1, d1, ds1, p1, q1, rfl, rfl, rfl, h1, r1⟩ := trodAll_cons r0
  obtain ⟨v2, vs2, d2, ds2, p2, q2, rfl, rfl, rfl, h2, r2⟩ := trodAll_cons r1
  obtain ⟨rfl, rfl, rfl⟩ := trodAll_nil r2
  obtain rfl : args = #[v0, v1, v2] := by cases args; simp_all
  obtain ⟨rfl, rfl⟩ := trodVars_none hV
  obtain ⟨ao, len, cap, rfl⟩ := okWide_slice Yba.underlying22 (hval 0 22 v0 rfl rfl)
  have k1 := h0
  have lt1 : ∀ x ∈ p0, x.block < W.heap.size := by obtain ⟨m, hm⟩ := k1; exact DataW.trod_lt m _ _ _ hm
  obtain ⟨fuel, hf⟩ := h0
  obtain ⟨a1, rfl, rfl, rfl, w1⟩ := open_int Yba.underlying23 (hval 1 23 v1 rfl rfl) h1
  obtain ⟨a2, rfl, rfl, rfl, w2⟩ := open_int Yba.underlying5 (hval 2 5 v2 rfl rfl) h2
  clear hA0 hval0
  refine (walk ao len cap a1 a2 W (by simpa [Value.cells] using hf) w1 w2).mono fun e W' ⟨he, bel⟩ => ?_
  subst he
  exact ⟨_, rfl, _, _, _, [], _, [], hW', trodAll_mk1 (shut_bool Yba.underlying4 _), (trodAll_cons_mk (Below.trod laidOut (by kernel_rfl) (of_decide_eq_true (by kernel_rfl)) k1 bel lt1) (trodAll_cons_mk (shut_int Yba.underlying23 w1) (trodAll_cons_mk (shut_int Yba.underlying5 w2) trodAll_mk0))), rfl, bel.frame _, fun h => by cases h⟩

theorem over : Rows.lawS4889ACountedRow.holds Yba.pinned (OpenSpec.ofChange Rows.lawS4889ACountedSpec) :=
  OpenClaim.holds_of_wide 4 Yba.f4 rfl rfl rfl rfl rfl rfl rfl ⟨rfl, rfl, rfl, rfl, rfl⟩ rfl rfl rfl rfl rfl (by kernel_rfl) Yba.func4 (by kernel_rfl)
    (of_decide_eq_true (by kernel_rfl)) (by unfold Func.isWrapper; first | (rw [if_pos (by decide +kernel)]; kernel_rfl) | (rw [if_neg (by decide +kernel)]; exact ⟨rfl, rfl⟩))
    (fun os started H enc _ => lifted os started H enc)
end Go.Proofs.Ybulkcwfo.lawS4889ACounted
namespace Go.Proofs.Ybulkcwfo
/-- ████ THE STATEMENT ████ -/
theorem counted_holds : Rows.LawS4889ACountedSaid := lawS4889ACounted.over
end Go.Proofs.Ybulkcwfo
