/-
  (StampFormat).Stamp.
-/
import Derived.Test.YbulkcwdyFmtNew
namespace Go.Proofs.YbulkcwdyFmt
open Go.RowKit Go.Extern.Stop Go.Stop Go.Extern

theorem info38 : (Ybaf.prog.info? 38).map (fun i => (i.zero, i.size, i.bytes)) = some (some (.agg #[.int .u32 0, .int .u32 0]), 2, 8) := by kernel_rfl
theorem mk28 (n : Nat) (hn : n ≤ 1048576) : ∃ E : Array Value, E.size = 2 * n ∧ ∀ w, (Instr.makeSlice 28 (.int .i64 (n : Int)) (.int .i64 (n : Int))).run Ybaf.prog w = .ok (.slice (some ⟨w.heap.size, 0, none⟩) n n) (w.alloc (.cells E 38)) := by
  obtain ⟨i, hi, h0, h1, h2⟩ := info_parts info38
  have h := fun w => run_make (P := Ybaf.prog) w 28 38 i _ Ybaf.underlying28 hi h0 .i64 .i64 (n : Int) (n : Int) (by omega) (Int.le_refl _) (by rw [h2]; omega) (by omega)
  refine ⟨_, ?_, fun w => by simpa using h w⟩
  rw [size_madeCells, h1]; omega

/-- The zero stamp and an error. -/
def BadEnd (e : Ending) : Prop := ∃ a, e = .returned (.tuple #[.agg #[.int .i64 0, .slice none 0 0, .pointer none, .bool false], .iface 66 (.pointer (some a))])

theorem res6 (tmps : Array Value) (Y : World) (B : Nat) (v0 v1 v2 v3 v4 : Value) (h8 : tmps.getD 8 undef = .pointer (some ⟨B, 0, none⟩)) (h9 : tmps.getD 9 undef = v4)
    (c0 : Y.cell? ⟨B, 0, none⟩ = some v0) (c1 : Y.cell? ⟨B, 1, none⟩ = some v1) (c2 : Y.cell? ⟨B, 2, none⟩ = some v2) (c3 : Y.cell? ⟨B, 3, none⟩ = some v3) :
    (results Ybaf.f6 tmps).run Ybaf.prog Y = .ok (.tuple #[.agg #[v0, v1, v2, v3], v4]) Y := by
  have h6' : tmps[8]?.getD undef = .pointer (some ⟨B, 0, none⟩) := by simpa using h8
  have h7' : tmps[9]?.getD undef = v4 := by simpa using h9
  simp only [results, Ybaf.results6]
  go_simp

theorem four {X : World} {B : Nat} (h : ∀ i, i < 4 → (X.cell? ⟨B, i, none⟩).isSome = true) (v0 v1 v2 v3 : Value) :
    ((((X.setCell ⟨B, 0, none⟩ v0).setCell ⟨B, 1, none⟩ v1).setCell ⟨B, 2, none⟩ v2).setCell ⟨B, 3, none⟩ v3).cell? ⟨B, 0, none⟩ = some v0 ∧
    ((((X.setCell ⟨B, 0, none⟩ v0).setCell ⟨B, 1, none⟩ v1).setCell ⟨B, 2, none⟩ v2).setCell ⟨B, 3, none⟩ v3).cell? ⟨B, 1, none⟩ = some v1 ∧
    ((((X.setCell ⟨B, 0, none⟩ v0).setCell ⟨B, 1, none⟩ v1).setCell ⟨B, 2, none⟩ v2).setCell ⟨B, 3, none⟩ v3).cell? ⟨B, 2, none⟩ = some v2 ∧
    ((((X.setCell ⟨B, 0, none⟩ v0).setCell ⟨B, 1, none⟩ v1).setCell ⟨B, 2, none⟩ v2).setCell ⟨B, 3, none⟩ v3).cell? ⟨B, 3, none⟩ = some v3 := by
  have h0 := h 0 (by omega); have h1 := h 1 (by omega); have h2 := h 2 (by omega); have h3 := h 3 (by omega)
  refine ⟨?_, ?_, ?_, ?_⟩ <;> simp [World.cell?_setCell_same', World.cell?_setCell_other, h0, h1, h2, h3]

set_option maxRecDepth 100000 in
set_option maxHeartbeats 4000000 in
/-- No process of the format. -/
theorem stamp_proc (F : Interp) (pr P L pb cb : Int) (pt : Value) (proc : Int) (sp sc : Value) (w : World) (hF : F.answers w.tape) (hr0 : 1 ≤ pr) (hr : pr ≤ 1048576) (h : proc < 0 ∨ pr ≤ proc) :
    Calls Ybaf.prog 6 #[.agg #[.int .i64 pr, .int .i64 P, .int .i64 L, .int .i64 pb, .int .i64 cb, pt], .int .i64 proc, sp, sc] w fun e w' => BadEnd e ∧ Below w.heap.size w w' := by
  go_enter Ybaf.func6, Ybaf.ntmps6
  go_wp2_with fail
  refine (proc_bad F pr proc _ (by exact hF) hr0 hr h).mono ?_
  rintro e w' ⟨a, rfl, hb⟩
  obtain ⟨hc, hf⟩ := bcell hb
  simp only [World.size_alloc] at hc hf
  have hz := hb.size
  simp only [World.size_alloc] at hz
  go_wp2
  have hbel : Below w.heap.size w w' := (((Below.refl _ _).alloc (Nat.le_refl _) _).alloc (by simp) _).trans (hb.mono (by simp; omega))
  have q : ∀ i, i < 4 → (w'.cell? ⟨w.heap.size + 1, i, none⟩).isSome = true := by
    intro i hi
    rw [hc _ _ (by omega)]
    obtain rfl | rfl | rfl | rfl : i = 0 ∨ i = 1 ∨ i = 2 ∨ i = 3 := by omega
    all_goals go_simp
  obtain ⟨c0, c1, c2, c3⟩ := four q (.int .i64 0) (.slice none 0 0) (.pointer none) (.bool false)
  refine bodyPost_ret (v := .tuple #[.agg #[.int .i64 0, .slice none 0 0, .pointer none, .bool false], .iface 66 (.pointer (some a))]) (res6 _ _ (w.heap.size + 1) _ _ _ _ _ rfl rfl c0 c1 c2 c3) rfl ⟨⟨a, rfl⟩, ?_⟩
  exact (((hbel.setCell (by simp) _).setCell (by simp) _).setCell (by simp) _).setCell (by simp) _

set_option maxRecDepth 100000 in
set_option maxHeartbeats 4000000 in
/-- A slice of another length. -/
theorem stamp_len (F : Interp) (pr P L pb cb : Int) (pt : Value) (proc : Int) (a1 a2 : Option Addr) (n1 c1 n2 c2 : Nat) (w : World) (hF : F.answers w.tape) (h0 : 0 ≤ proc) (h1 : proc < pr)
    (h : ¬ ((n1 : Int) = pr ∧ (n2 : Int) = pr)) :
    Calls Ybaf.prog 6 #[.agg #[.int .i64 pr, .int .i64 P, .int .i64 L, .int .i64 pb, .int .i64 cb, pt], .int .i64 proc, .slice a1 n1 c1, .slice a2 n2 c2] w fun e w' => BadEnd e ∧ Below w.heap.size w w' := by
  have hcase : (((n1 : Int) != pr) = true) ∨ (((n1 : Int) != pr) = false ∧ ((n2 : Int) != pr) = true) := by
    by_cases e : (n1 : Int) = pr
    · right; simp [e]; intro e2; exact h ⟨e, e2⟩
    · left; simpa using e
  clear h
  rcases hcase with hd | ⟨hd, hd2⟩
  all_goals
    go_enter Ybaf.func6, Ybaf.ntmps6
    go_wp2_with (go_at_call 9; refine (proc_ok pr proc _ h0 h1).mono ?_; rintro e w' ⟨rfl, rfl⟩)
    refine (errorf_len F pr pr pr n1 n2 (w.heap.size + 1 + 1) _ (by exact hF) (by go_simp) (by go_simp) (by go_simp) (by go_simp) (by go_simp)).mono ?_
    rintro e w' ⟨rfl, hb⟩
    obtain ⟨hc, hf⟩ := bcell hb
    simp only [World.size_alloc] at hc hf
    have hz := hb.size
    simp only [World.size_alloc] at hz
    go_wp2
    have hbel : Below w.heap.size w w' := ((((Below.refl _ _).alloc (Nat.le_refl _) _).alloc (by simp) _).alloc (by simp; omega) _).trans (hb.mono (by simp; omega))
    have q : ∀ i, i < 4 → (w'.cell? ⟨w.heap.size + 1, i, none⟩).isSome = true := by
      intro i hi
      rw [hc _ _ (by omega)]
      obtain rfl | rfl | rfl | rfl : i = 0 ∨ i = 1 ∨ i = 2 ∨ i = 3 := by omega
      all_goals go_simp
    obtain ⟨c0, c1, c2, c3⟩ := four q (.int .i64 0) (.slice none 0 0) (.pointer none) (.bool false)
    refine bodyPost_ret (v := .tuple #[.agg #[.int .i64 0, .slice none 0 0, .pointer none, .bool false], _]) (res6 _ _ (w.heap.size + 1) _ _ _ _ _ rfl rfl c0 c1 c2 c3) rfl ⟨⟨_, rfl⟩, ?_⟩
    exact (((hbel.setCell (by simp) _).setCell (by simp) _).setCell (by simp) _).setCell (by simp) _

end Go.Proofs.YbulkcwdyFmt
