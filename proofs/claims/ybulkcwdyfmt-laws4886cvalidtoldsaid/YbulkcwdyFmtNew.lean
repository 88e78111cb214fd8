/-
  newStampFormat, NewStampFormat at 1 to 1024 processes and bounds 1 to 16.
-/
import Derived.Test.YbulkcwdyFmtTab
import Derived.Test.YbulkcwdyFmtLen
namespace Go.Proofs.YbulkcwdyFmt
open Go.RowKit Go.Extern.Stop Go.Stop Go.Extern

/-- (StampFormat).pairTable at whatever widths. -/
theorem tab_any (F : Interp) (pr P L pb cb : Int) (pt : Value) (w : World) (hF : F.answers w.tape) (hr0 : 1 ≤ pr) (hr : pr ≤ 1048576) (hP0 : 1 ≤ P) (hP : P ≤ 16) (hL0 : 1 ≤ L) (hL : L ≤ 16) (h0 : 0 ≤ pb) (h1 : pb ≤ 4) (h2 : 0 ≤ cb) (h3 : cb ≤ 4) :
    Calls Ybaf.prog 17 #[.agg #[.int .i64 pr, .int .i64 P, .int .i64 L, .int .i64 pb, .int .i64 cb, pt]] w fun e w' => (∃ a, e = .returned (.pointer a)) ∧ Below w.heap.size w w' := by
  by_cases h : pb + cb = 4
  · exact (tab_some F pr P L pb cb pt w hF hr0 hr hP0 hP hL0 hL h0 h2 h).mono fun e w' ⟨he, hb⟩ => ⟨⟨_, he⟩, hb⟩
  · exact (tab_none pr P L pb cb pt w h0 h1 h2 h3 h).mono fun e w' ⟨he, hb⟩ => ⟨⟨_, he⟩, hb⟩

/-- What the two makers hand back: a format of the given numbers, and no error. -/
def NewEnd (pr P L : Int) (e : Ending) : Prop := ∃ (pb cb : Int) (a : Option Addr), e = .returned (.tuple #[.agg #[.int .i64 pr, .int .i64 P, .int .i64 L, .int .i64 pb, .int .i64 cb, .pointer a], .nilIface])

theorem six {X : World} {B : Nat} (h : ∀ i, i < 6 → (X.cell? ⟨B, i, none⟩).isSome = true) (v0 v1 v2 v3 v4 v5 : Value) :
    ((((((X.setCell ⟨B, 0, none⟩ v0).setCell ⟨B, 1, none⟩ v1).setCell ⟨B, 2, none⟩ v2).setCell ⟨B, 3, none⟩ v3).setCell ⟨B, 4, none⟩ v4).setCell ⟨B, 5, none⟩ v5).cell? ⟨B, 0, none⟩ = some v0 ∧
    ((((((X.setCell ⟨B, 0, none⟩ v0).setCell ⟨B, 1, none⟩ v1).setCell ⟨B, 2, none⟩ v2).setCell ⟨B, 3, none⟩ v3).setCell ⟨B, 4, none⟩ v4).setCell ⟨B, 5, none⟩ v5).cell? ⟨B, 1, none⟩ = some v1 ∧
    ((((((X.setCell ⟨B, 0, none⟩ v0).setCell ⟨B, 1, none⟩ v1).setCell ⟨B, 2, none⟩ v2).setCell ⟨B, 3, none⟩ v3).setCell ⟨B, 4, none⟩ v4).setCell ⟨B, 5, none⟩ v5).cell? ⟨B, 2, none⟩ = some v2 ∧
    ((((((X.setCell ⟨B, 0, none⟩ v0).setCell ⟨B, 1, none⟩ v1).setCell ⟨B, 2, none⟩ v2).setCell ⟨B, 3, none⟩ v3).setCell ⟨B, 4, none⟩ v4).setCell ⟨B, 5, none⟩ v5).cell? ⟨B, 3, none⟩ = some v3 ∧
    ((((((X.setCell ⟨B, 0, none⟩ v0).setCell ⟨B, 1, none⟩ v1).setCell ⟨B, 2, none⟩ v2).setCell ⟨B, 3, none⟩ v3).setCell ⟨B, 4, none⟩ v4).setCell ⟨B, 5, none⟩ v5).cell? ⟨B, 4, none⟩ = some v4 ∧
    ((((((X.setCell ⟨B, 0, none⟩ v0).setCell ⟨B, 1, none⟩ v1).setCell ⟨B, 2, none⟩ v2).setCell ⟨B, 3, none⟩ v3).setCell ⟨B, 4, none⟩ v4).setCell ⟨B, 5, none⟩ v5).cell? ⟨B, 5, none⟩ = some v5 := by
  have h0 := h 0 (by omega); have h1 := h 1 (by omega); have h2 := h 2 (by omega); have h3 := h 3 (by omega); have h4 := h 4 (by omega); have h5 := h 5 (by omega)
  refine ⟨?_, ?_, ?_, ?_, ?_, ?_⟩ <;> simp [World.cell?_setCell_same', World.cell?_setCell_other, h0, h1, h2, h3, h4, h5]

theorem res13 (tmps : Array Value) (Y : World) (B : Nat) (v0 v1 v2 v3 v4 v5 : Value) (h6 : tmps.getD 6 undef = .pointer (some ⟨B, 0, none⟩)) (h7 : tmps.getD 7 undef = .nilIface)
    (c0 : Y.cell? ⟨B, 0, none⟩ = some v0) (c1 : Y.cell? ⟨B, 1, none⟩ = some v1) (c2 : Y.cell? ⟨B, 2, none⟩ = some v2) (c3 : Y.cell? ⟨B, 3, none⟩ = some v3) (c4 : Y.cell? ⟨B, 4, none⟩ = some v4) (c5 : Y.cell? ⟨B, 5, none⟩ = some v5) :
    (results Ybaf.f13 tmps).run Ybaf.prog Y = .ok (.tuple #[.agg #[v0, v1, v2, v3, v4, v5], .nilIface]) Y := by
  have h6' : tmps[6]?.getD undef = .pointer (some ⟨B, 0, none⟩) := by simpa using h6
  have h7' : tmps[7]?.getD undef = .nilIface := by simpa using h7
  simp only [results, Ybaf.results13]
  go_simp

theorem res7 (tmps : Array Value) (Y : World) (B : Nat) (v0 v1 v2 v3 v4 v5 : Value) (h6 : tmps.getD 6 undef = .pointer (some ⟨B, 0, none⟩)) (h7 : tmps.getD 7 undef = .nilIface)
    (c0 : Y.cell? ⟨B, 0, none⟩ = some v0) (c1 : Y.cell? ⟨B, 1, none⟩ = some v1) (c2 : Y.cell? ⟨B, 2, none⟩ = some v2) (c3 : Y.cell? ⟨B, 3, none⟩ = some v3) (c4 : Y.cell? ⟨B, 4, none⟩ = some v4) (c5 : Y.cell? ⟨B, 5, none⟩ = some v5) :
    (results Ybaf.f7 tmps).run Ybaf.prog Y = .ok (.tuple #[.agg #[v0, v1, v2, v3, v4, v5], .nilIface]) Y := by
  have h6' : tmps[6]?.getD undef = .pointer (some ⟨B, 0, none⟩) := by simpa using h6
  have h7' : tmps[7]?.getD undef = .nilIface := by simpa using h7
  simp only [results, Ybaf.results7]
  go_simp

set_option maxRecDepth 100000 in
set_option maxHeartbeats 4000000 in
theorem new_any (F : Interp) (pr P L : Int) (w : World) (hF : F.answers w.tape) (hr0 : 1 ≤ pr) (hr : pr ≤ 1048576) (hP0 : 1 ≤ P) (hP : P ≤ 16) (hL0 : 1 ≤ L) (hL : L ≤ 16) :
    Calls Ybaf.prog 13 #[.int .i64 pr, .int .i64 P, .int .i64 L] w fun e w' => NewEnd pr P L e ∧ Below w.heap.size w w' := by
  go_enter Ybaf.func13, Ybaf.ntmps13
  go_wp2
  refine wp_loop_rounds 3 ?_
  rw [rounds_succ]
  go_wp2
  rw [rounds_succ]
  go_wp2
  rw [rounds_succ]
  go_wp2_with fail
  refine (len_any (P - 1) _ (by omega) (by omega)).mono ?_
  rintro e w' ⟨⟨pb, hpb0, hpb1, rfl⟩, rfl⟩
  go_wp2_with fail
  refine (len_any (L - 1) _ (by omega) (by omega)).mono ?_
  rintro e w' ⟨⟨cb, hcb0, hcb1, rfl⟩, rfl⟩
  go_wp2_with fail
  refine (tab_any F pr P L pb cb _ _ (by exact hF) hr0 hr hP0 hP hL0 hL hpb0 hpb1 hcb0 hcb1).mono ?_
  rintro e w' ⟨⟨a, rfl⟩, hb⟩
  obtain ⟨hc, hf⟩ := bcell hb
  simp only [World.size_alloc] at hc hf
  have hz := hb.size
  simp only [World.size_alloc] at hz
  go_wp2
  have hbel : Below w.heap.size w w' := ((((((Below.refl _ _).alloc (Nat.le_refl _) _).alloc (by simp) _).alloc (by simp; omega) _).alloc (by simp; omega) _).alloc (by simp; omega) _).trans (hb.mono (by simp; omega))
  have q : ∀ i, i < 6 → ((w'.setCell ⟨w.heap.size + 1 + 1 + 1 + 1, 5, none⟩ (.pointer a)).cell? ⟨w.heap.size, i, none⟩).isSome = true := by
    intro i hi
    rw [World.cell?_setCell_other _ _ _ _ (by simp), hc _ _ (by omega)]
    obtain rfl | rfl | rfl | rfl | rfl | rfl : i = 0 ∨ i = 1 ∨ i = 2 ∨ i = 3 ∨ i = 4 ∨ i = 5 := by omega
    all_goals go_simp
  obtain ⟨c0, c1, c2, c3, c4, c5⟩ := six q (.int .i64 pr) (.int .i64 P) (.int .i64 L) (.int .i64 pb) (.int .i64 cb) (.pointer a)
  refine bodyPost_ret (v := .tuple #[.agg #[.int .i64 pr, .int .i64 P, .int .i64 L, .int .i64 pb, .int .i64 cb, .pointer a], .nilIface]) (res13 _ _ w.heap.size _ _ _ _ _ _ rfl rfl c0 c1 c2 c3 c4 c5) rfl ⟨⟨pb, cb, a, rfl⟩, ?_⟩
  exact ((((((hbel.setCell (by simp; omega) _).setCell (by simp) _).setCell (by simp) _).setCell (by simp) _).setCell (by simp) _).setCell (by simp) _).setCell (by simp) _

set_option maxHeartbeats 1000000 in
theorem newStamp (F : Interp) (pr P L : Int) (w : World) (hF : F.answers w.tape) (hr0 : 1 ≤ pr) (hr : pr ≤ 1048576) (hP0 : 1 ≤ P) (hP : P ≤ 16) (hL0 : 1 ≤ L) (hL : L ≤ 16) :
    Calls Ybaf.prog 7 #[.int .i64 pr, .int .i64 P, .int .i64 L] w fun e w' => NewEnd pr P L e ∧ Below w.heap.size w w' := by
  go_enter Ybaf.func7, Ybaf.ntmps7
  go_wp2_with fail
  refine (new_any F pr P L _ (by exact hF) hr0 hr hP0 hP hL0 hL).mono ?_
  rintro e w' ⟨⟨pb, cb, a, rfl⟩, hb⟩
  obtain ⟨hc, hf⟩ := bcell hb
  simp only [World.size_alloc] at hc hf
  have hz := hb.size
  simp only [World.size_alloc] at hz
  go_wp2
  have hbel : Below w.heap.size w w' := ((Below.refl _ _).alloc (Nat.le_refl _) _).trans (hb.mono (by simp))
  have q : ∀ i, i < 6 → (w'.cell? ⟨w.heap.size, i, none⟩).isSome = true := by
    intro i hi
    rw [hc _ _ (by omega)]
    obtain rfl | rfl | rfl | rfl | rfl | rfl : i = 0 ∨ i = 1 ∨ i = 2 ∨ i = 3 ∨ i = 4 ∨ i = 5 := by omega
    all_goals go_simp
  obtain ⟨c0, c1, c2, c3, c4, c5⟩ := six q (.int .i64 pr) (.int .i64 P) (.int .i64 L) (.int .i64 pb) (.int .i64 cb) (.pointer a)
  refine bodyPost_ret (v := .tuple #[.agg #[.int .i64 pr, .int .i64 P, .int .i64 L, .int .i64 pb, .int .i64 cb, .pointer a], .nilIface]) (res7 _ _ w.heap.size _ _ _ _ _ _ rfl rfl c0 c1 c2 c3 c4 c5) rfl ⟨⟨pb, cb, a, rfl⟩, ?_⟩
  exact (((((hbel.setCell (by simp) _).setCell (by simp) _).setCell (by simp) _).setCell (by simp) _).setCell (by simp) _).setCell (by simp) _

end Go.Proofs.YbulkcwdyFmt
