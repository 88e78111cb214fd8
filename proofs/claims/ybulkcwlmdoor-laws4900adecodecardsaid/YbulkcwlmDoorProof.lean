/-
  'Rows.LawS4900ADecodeCardSaid' proved.
-/
import Derived.Test.YbulkcwlmDoorRows
import Derived.Test.YbulkcwlmDoorCards
import Derived.Test.YbulkcwlmDoorTie
import Derived.Test.YbulkcwlmDoorLaw
import Derived.ProofKit
import Derived.OpenShut
import Derived.ChangeOld
import Derived.LaidLaws
import Derived.LaidMore
import Derived.LaidHandle
import Derived.Stop.LaidErr
import Derived.Stop.Joined
import Derived.SevenTiedAt
namespace Go.Proofs.YbulkcwlmDoor
open Go.ChangeShapes Go.WideShapes Go.ChangeAt Go.RowKit
set_option linter.unusedVariables false

theorem own : ownKnob Ybad.prog.godebug = none := by kernel_rfl
theorem laidOut : laidOutB Ybad.prog = true := by kernel_rfl
theorem gErr : Ybad.prog.globalNamed "example.com/nameprobe/nameprobe/internal/dnswire.ErrRdata" = some 0 := by kernel_rfl
theorem tErr : (Ybad.prog.globals[0]?).map (·.type) = some 31 := by kernel_rfl
theorem cells64 : Ybad.prog.cellsOf 64 = 1 := by kernel_rfl
theorem cells9 : Ybad.prog.cellsOf 9 = 1 := by kernel_rfl
theorem star : "*" ++ "errors.errorString" = "*errors.errorString" := by decide
theorem row43 (u : TypeId) (h : Ybad.prog.typeName? 3 u = some "*errors.errorString") : u = 43 :=
  typeName_ptr_named (nm := "errors.errorString") (by rw [star]; kernel_rfl) (by kernel_rfl) (by decide) u (by rw [star]; exact h)

theorem wf_u8 {n : Int} (h : (Lit.int .u8 n).wf = true) : 0 ≤ n ∧ n ≤ 255 := by
  have : decide (IntKind.u8.min ≤ n) && decide (n ≤ IntKind.u8.max) := h
  rw [show IntKind.u8.min = 0 from rfl, show IntKind.u8.max = 255 from rfl] at this
  simpa using this
theorem wf_u64 {n : Int} (h : (Lit.int .u64 n).wf = true) : 0 ≤ n ∧ n ≤ 18446744073709551615 := by
  have : decide (IntKind.u64.min ≤ n) && decide (n ≤ IntKind.u64.max) := h
  rw [show IntKind.u64.min = 0 from rfl, show IntKind.u64.max = 18446744073709551615 from rfl] at this
  simpa using this

/-- What the walk is told of a slice of integers that came in. -/
def IsRow (k : IntKind) (w : World) (a : Option Addr) (len cap : Nat) (zs : List Int) : Prop :=
  (a = none ∧ len = 0 ∧ cap = 0 ∧ zs = []) ∨
  ∃ x, a = some x ∧ len ≤ cap ∧ cap ≤ maxLen ∧ zs.length = cap ∧ (∀ i, i < zs.length → w.cell? (x.add i) = some (.int k (zs.getD i 0))) ∧ ∀ n ∈ zs, (Lit.int k n).wf = true
theorem row_view {k : IntKind} {w : World} {a : Option Addr} {len cap : Nat} {zs : List Int} (h : IsRow k w a len cap zs) :
    ∃ b o : Nat, (0 < len → a = some ⟨b, o, none⟩) ∧ (0 < len → b < w.heap.size) ∧ (∀ i, i < len → w.cell? ⟨b, o + i, none⟩ = some (.int k (zs.getD i 0))) ∧ (∀ i, i < len → (Lit.int k (zs.getD i 0)).wf = true) := by
  rcases h with ⟨rfl, rfl, rfl, rfl⟩ | ⟨x, rfl, h1, h2, h3, h4, h5⟩
  · exact ⟨0, 0, by omega, by omega, by intro i hi; omega, by intro i hi; omega⟩
  · obtain ⟨b, o, s⟩ := x
    refine ⟨b, o, fun hl => ?_, fun hl => ?_, fun i hi => ?_, fun i hi => ?_⟩
    · have := World.cell?_spot (h4 0 (by omega))
      simp [Addr.add] at this; subst this; rfl
    · have := h4 0 (by omega)
      exact World.block_lt_of_cell? w _ this
    · have h0 := World.cell?_spot (h4 0 (by omega))
      simp [Addr.add] at h0; subst h0
      have := h4 i (by omega)
      rw [Addr.add_mid] at this
      exact this
    · apply h5
      have hi' : i < zs.length := by omega
      simp only [List.getD, List.getElem?_eq_getElem hi', Option.getD_some]
      exact List.getElem_mem _

set_option maxRecDepth 100000 in
set_option maxHeartbeats 1000000 in
theorem walk (a0 : Option Addr) (len cap : Nat) (zs : List Int) (x y : Int) (w : World) (a : Addr) (hg : w.cell? ⟨0, 0, none⟩ = some (.iface 43 (.pointer (some a)))) (w0 : IsRow .u8 w a0 len cap zs) (wx : (Lit.int .u64 x).wf = true) (wy : (Lit.int .u64 y).wf = true) :
    Calls Ybad.prog 3 #[.slice a0 len cap, .int .u64 x, .int .u64 y] w fun e w' => e = .returned (.bool true) ∧ Below w.heap.size w w' := by
  obtain ⟨b, off, v1, v2, v3, v4⟩ := row_view w0
  have rx := wf_u64 wx
  have ry := wf_u64 wy
  by_cases h1 : 1024 < len
  · clear w0 v1 v2 v3 v4 wx wy rx ry hg
    go_enter Ybad.func3, Ybad.ntmps3
    go_wp2
    go_ret
    exact ⟨rfl, Below.refl _ _⟩
  rcases Nat.eq_zero_or_pos len with rfl | hp
  · exact walk_nil a0 cap x y w a hg
  obtain rfl := v1 hp
  have hx := Int.emod_nonneg x (show (len : Int) + 1 ≠ 0 by omega)
  have hx' := Int.emod_lt_of_pos x (show 0 < (len : Int) + 1 by omega)
  have hy := Int.emod_nonneg y (show (len : Int) + 1 ≠ 0 by omega)
  have hy' := Int.emod_lt_of_pos y (show 0 < (len : Int) + 1 by omega)
  obtain ⟨o, ho⟩ : ∃ o : Nat, x % ((len : Int) + 1) = o := ⟨(x % ((len : Int) + 1)).toNat, by omega⟩
  obtain ⟨e, he⟩ : ∃ e : Nat, y % ((len : Int) + 1) = e := ⟨(y % ((len : Int) + 1)).toNat, by omega⟩
  by_cases hlt : e < o + 4
  · exact walk_no b off len cap o e (fun i => zs.getD i 0) x y w a hg hp (by omega) rx.1 rx.2 ry.1 ry.2 (v2 hp) v3 ho he (by omega) (by omega) hlt
  · exact walk_ok b off len cap o e (fun i => zs.getD i 0) x y w hp (by omega) rx.1 rx.2 ry.1 ry.2 (v2 hp) v3 (fun i hi => wf_u8 (v4 i hi)) ho he (by omega) (by omega) (by omega)

/-- The door's own heap meets the condition. -/
theorem door_met (os : Os) (args : Array Value) : laidMetH Ybad.prog Rows.lawS4900ADecodeRow.laid ((World.doorLaid Ybad.prog 400 os).forCall (fun _ _ => 0) ⟨#[], args, []⟩).memory :=
  laidMetH_of_parts3 (fuel := 8) (laidMet_of_run' 8 (by kernel_rfl) (by kernel_rfl)) (by kernel_rfl) (by kernel_rfl)

theorem var_below {W W' : World} {n : String} {cs : Array Value} {g : Nat} (hg : Ybad.prog.globalNamed n = some g) (hb : Below W.heap.size W W') (h : W.var? Ybad.prog n = some cs) : W'.var? Ybad.prog n = some cs := by
  unfold World.var? at h ⊢
  simp only [hg, Option.bind_some] at h ⊢
  have hlt : g < W.heap.size := by
    rcases Nat.lt_or_ge g W.heap.size with h' | h'
    · exact h'
    · simp [Array.getElem?_eq_none h'] at h
  rw [hb.block g hlt]
  exact h

set_option maxRecDepth 100000 in
theorem lifted (os : Os) (started : os.Started) (H : Type) (enc : TypeId × Value → H) :
    ReturnsInHanded {} Ybad.checked os 3 .any (fun w args => (Rows.lawS4900ADecodeSpec.pre enc Ybad.prog Ybad.f3 [] false w args ∧ laidMetH Ybad.prog Rows.lawS4900ADecodeRow.laid w) ∧ sizedMet enc Ybad.prog Ybad.f3 (OpenSpec.ofChange Rows.lawS4900ADecodeSpec) false w args)
      (Rows.lawS4900ADecodeSpec.post enc Ybad.prog Ybad.f3 false true false false) := by
  refine returnsInHanded_of_change_and (C := Ybad.checked) (X := fun w _ => laidMetH Ybad.prog Rows.lawS4900ADecodeRow.laid w) (fun _ _ _ hh h => h.of_heap hh) own started (by kernel_rfl) Ybad.func3
    (ChangeSpec.witness_shaped (enc := enc) (C := Ybad.checked) (os := os) (X := fun w _ => laidMetH Ybad.prog Rows.lawS4900ADecodeRow.laid w) false (World.doorLaid Ybad.prog 400 os) #[.slice none 0 0, .int .u64 0, .int .u64 0] 8 rfl (World.shaped_of_RefB (by kernel_rfl) (by kernel_rfl)) (by kernel_rfl) (by kernel_rfl) (by kernel_rfl) (door_met os _)) ?_
  intro W base args ds gs before hval0 hW _ _ hL _
  have hval : ∀ (j : Nat) t v, Ybad.f3.params[j]? = some t → args[j]? = some v → Value.okWide Ybad.prog W .any base t v := hval0
  have hW' := hW
  obtain ⟨p, q, hA0, hV0, rfl, hfz, hnd⟩ := hW
  have hA : DataW.TrodAll enc Ybad.prog W 0 (fun _ => true) true Ybad.f3.params.toList args.toList ds p := hA0
  have hV : DataW.TrodVars enc Ybad.prog W (fun _ => true) ["example.com/nameprobe/nameprobe/internal/dnswire.ErrRdata"] gs q := hV0
  rw [Ybad.params3] at hA hval
  obtain ⟨v0, vs0, d0, ds0, p0, q0, hargs, rfl, rfl, h0, r0⟩ := trodAll_cons hA
  obtain ⟨v1, vs1, d1, ds1, p1, q1, rfl, rfl, rfl, h1, r1⟩ := trodAll_cons r0
  obtain ⟨v2, vs2, d2, ds2, p2, q2, rfl, rfl, rfl, h2, r2⟩ := trodAll_cons r1
  obtain ⟨rfl, rfl, rfl⟩ := trodAll_nil r2
  obtain rfl : args = #[v0, v1, v2] := by cases args; simp_all
  obtain ⟨a0, len, cap, rfl⟩ := okWide_slice Ybad.underlying22 (hval 0 22 v0 rfl rfl)
  have k1 := h0
  have lt1 : ∀ x ∈ p0, x.block < W.heap.size := by obtain ⟨m, hm⟩ := k1; exact DataW.trod_lt m _ _ _ hm
  obtain ⟨zs, w0⟩ : ∃ zs, IsRow .u8 W a0 len cap zs := by
    obtain ⟨fuel, hf⟩ := h0
    rcases open_ints Ybad.underlying22 Ybad.underlying5 (by kernel_rfl) hf with ⟨hcs, _⟩ | ⟨x, l, c, zs, hcs, _, hl, hm, hz, _, hcell, hwz⟩
    · simp [Value.cells] at hcs
      obtain ⟨rfl, rfl, rfl⟩ := hcs
      exact ⟨[], .inl ⟨rfl, rfl, rfl, rfl⟩⟩
    · simp [Value.cells] at hcs
      obtain ⟨rfl, rfl, rfl⟩ := hcs
      exact ⟨zs, .inr ⟨_, rfl, hl, hm, by simpa using hz, hcell, hwz⟩⟩
  obtain ⟨x, rfl, rfl, rfl, wx⟩ := open_int Ybad.underlying23 (hval 1 23 v1 rfl rfl) h1
  obtain ⟨y, rfl, rfl, rfl, wy⟩ := open_int Ybad.underlying23 (hval 2 23 v2 rfl rfl) h2
  have hL' : laidMet Ybad.prog [("example.com/nameprobe/nameprobe/internal/dnswire.ErrRdata", Rows.laid_example_com_nameprobe_nameprobe_internal_dnswire_ErrRdata)] W := hL
  obtain ⟨a, s, hv, _, _, _⟩ := laid_sentinel hL' gErr tErr Ybad.underlying31 row43 Ybad.underlying43 Ybad.underlying64 rfl rfl Ybad.underlying9 cells64 cells9
  obtain ⟨rfl, rfl⟩ := hV.unique (vars_read1 enc gErr tErr Ybad.underlying31 hv trivial _)
  have hg : W.cell? ⟨0, 0, none⟩ = some (.iface 43 (.pointer (some a))) := by simpa using World.var?_cell gErr hv 0
  clear hA0 hval0 hV0
  refine (walk a0 len cap zs x y W a hg w0 wx wy).mono fun e W' ⟨he, bel⟩ => ?_
  subst he
  exact ⟨_, rfl, _, _, _, [], _, [.cell 0 0], hW', trodAll_mk1 (shut_bool Ybad.underlying4 _), (trodAll_cons_mk (Below.trod laidOut (by kernel_rfl) (of_decide_eq_true (by kernel_rfl)) k1 bel lt1) (trodAll_cons_mk (shut_int Ybad.underlying23 wx) (trodAll_cons_mk (shut_int Ybad.underlying23 wy) trodAll_mk0))), vars_read1 enc gErr tErr Ybad.underlying31 (var_below gErr bel hv) trivial _, bel.frame _, fun h => by cases h⟩

theorem row_holds : Rows.LawS4900ADecodeSaid :=
  OpenClaim.holds_of_wide 3 Ybad.f3 rfl rfl rfl rfl rfl rfl rfl ⟨rfl, rfl, rfl, rfl, rfl⟩ rfl rfl rfl rfl rfl (by kernel_rfl) Ybad.func3 (by kernel_rfl)
    (of_decide_eq_true (by kernel_rfl)) (by unfold Func.isWrapper; first | (rw [if_pos (by decide +kernel)]; kernel_rfl) | (rw [if_neg (by decide +kernel)]; exact ⟨rfl, rfl⟩))
    (fun os started H enc _ => lifted os started H enc)

/-- ████ THE CARD ████ -/
theorem card_holds : Rows.LawS4900ADecodeCardSaid :=
  Claim7.holds_tied_plain_at .later [] [.sentinel] true (true, "ef82410b32a051358c64be41c9439b4490917759f79d945b55204b23f431cf71") true
    row_holds (fun _ h => by cases h) (by kernel_rfl) (fun _ h => by cases h) lawS4900ADecode_row_tie rfl ⟨rfl, rfl⟩ (by kernel_rfl) rfl
    (fun f fn hf hfn => by
      obtain rfl : f = 3 := Option.some.inj ((show Ybad.prog.funcNamed "example.com/nameprobe/nameprobe/internal/dnswire.LawS4900ADecode" = some 3 by kernel_rfl).symm.trans hf) |>.symm
      obtain rfl : fn = Ybad.f3 := (Option.some.inj (Ybad.func3.symm.trans hfn)).symm
      exact ⟨by kernel_rfl, fun j t ht => by
        rw [Ybad.params3] at ht
        rcases j with _ | _ | _ | j
        · have h3 : t = 22 := by simpa using ht.symm
          subst h3
          exact (show Ybad.prog.wantsStandIn 22 = false by kernel_rfl)
        · have h3 : t = 23 := by simpa using ht.symm
          subst h3
          exact (show Ybad.prog.wantsStandIn 23 = false by kernel_rfl)
        · have h3 : t = 23 := by simpa using ht.symm
          subst h3
          exact (show Ybad.prog.wantsStandIn 23 = false by kernel_rfl)
        · simp at ht⟩)
    (by kernel_rfl)
end Go.Proofs.YbulkcwlmDoor
