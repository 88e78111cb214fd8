/-
  zzs4886cfmt; (BoundedStamp).procs.
-/
import Derived.Test.YbulkcwdyFmtNew
namespace Go.Proofs.YbulkcwdyFmt
open Go.RowKit Go.Extern.Stop Go.Stop Go.Extern

def CfEnd (pr P L : Int) (e : Ending) : Prop := ∃ (pb cb : Int) (a : Option Addr), e = .returned (.tuple #[.agg #[.int .i64 pr, .int .i64 P, .int .i64 L, .int .i64 pb, .int .i64 cb, .pointer a], .int .i64 pr, .int .i64 P, .int .i64 L, .bool true])

theorem res5 (tmps : Array Value) (Y : World) (B : Nat) (v0 v1 v2 v3 v4 v5 u1 u2 u3 u4 : Value) (h6 : tmps.getD 6 undef = .pointer (some ⟨B, 0, none⟩)) (h7 : tmps.getD 7 undef = u1) (h8 : tmps.getD 8 undef = u2) (h9 : tmps.getD 9 undef = u3) (h10 : tmps.getD 10 undef = u4)
    (c0 : Y.cell? ⟨B, 0, none⟩ = some v0) (c1 : Y.cell? ⟨B, 1, none⟩ = some v1) (c2 : Y.cell? ⟨B, 2, none⟩ = some v2) (c3 : Y.cell? ⟨B, 3, none⟩ = some v3) (c4 : Y.cell? ⟨B, 4, none⟩ = some v4) (c5 : Y.cell? ⟨B, 5, none⟩ = some v5) :
    (results Ybaf.f5 tmps).run Ybaf.prog Y = .ok (.tuple #[.agg #[v0, v1, v2, v3, v4, v5], u1, u2, u3, u4]) Y := by
  have h6' : tmps[6]?.getD undef = .pointer (some ⟨B, 0, none⟩) := by simpa using h6
  have h7' : tmps[7]?.getD undef = u1 := by simpa using h7
  have h8' : tmps[8]?.getD undef = u2 := by simpa using h8
  have h9' : tmps[9]?.getD undef = u3 := by simpa using h9
  have h10' : tmps[10]?.getD undef = u4 := by simpa using h10
  simp only [results, Ybaf.results5]
  go_simp

set_option maxRecDepth 100000 in
set_option maxHeartbeats 1000000 in
theorem cf_any (F : Interp) (n p c : Int) (w : World) (hF : F.answers w.tape) (hn0 : 0 ≤ n) (hn : n ≤ 255) (hp0 : 0 ≤ p) (hp : p ≤ 255) (hc0 : 0 ≤ c) (hcc : c ≤ 255) :
    Calls Ybaf.prog 5 #[.int .u8 n, .int .u8 p, .int .u8 c] w fun e w' => CfEnd (1 + n % 8) (1 + p % 16) (1 + c % 16) e ∧ Below w.heap.size w w' := by
  go_enter Ybaf.func5, Ybaf.ntmps5
  go_wp2_with fail
  refine (newStamp F (1 + n % 8) (1 + p % 16) (1 + c % 16) _ (by exact hF) (by omega) (by omega) (by omega) (by omega) (by omega) (by omega)).mono ?_
  rintro e w' ⟨⟨pb, cb, a, rfl⟩, hb⟩
  obtain ⟨hc, hf⟩ := bcell hb
  simp only [World.size_alloc] at hc hf
  have hz := hb.size
  simp only [World.size_alloc] at hz
  have hbel : Below w.heap.size w w' := ((Below.refl _ _).alloc (Nat.le_refl _) _).trans (hb.mono (by simp))
  have hz0 : w.heap.size < w'.heap.size := by omega
  go_wp2
  go_region
  go_wp2
  have q : ∀ i, i < 6 → (w'.cell? ⟨w.heap.size, i, none⟩).isSome = true := by
    intro i hi
    rw [hc _ _ (by omega)]
    obtain rfl | rfl | rfl | rfl | rfl | rfl : i = 0 ∨ i = 1 ∨ i = 2 ∨ i = 3 ∨ i = 4 ∨ i = 5 := by omega
    all_goals go_simp
  obtain ⟨c0, c1, c2, c3, c4, c5⟩ := six q (.int .i64 (1 + n % 8)) (.int .i64 (1 + p % 16)) (.int .i64 (1 + c % 16)) (.int .i64 pb) (.int .i64 cb) (.pointer a)
  have hl : ∀ (X : World) (o : Obj) (i : Nat) (v : Value), w.heap.size < X.heap.size → X.cell? ⟨w.heap.size, i, none⟩ = some v → (X.alloc o).drew.cell? ⟨w.heap.size, i, none⟩ = some v := fun X o i v h1 h2 => (World.cell?_alloc_past o _ i h1).trans h2
  have hs : ∀ v0 v1 v2 v3 v4 v5 : Value, w.heap.size < ((((((w'.setCell ⟨w.heap.size, 0, none⟩ v0).setCell ⟨w.heap.size, 1, none⟩ v1).setCell ⟨w.heap.size, 2, none⟩ v2).setCell ⟨w.heap.size, 3, none⟩ v3).setCell ⟨w.heap.size, 4, none⟩ v4).setCell ⟨w.heap.size, 5, none⟩ v5).heap.size := fun v0 v1 v2 v3 v4 v5 => by simpa [World.setCell] using hz0
  refine bodyPost_ret (v := .tuple #[.agg #[.int .i64 (1 + n % 8), .int .i64 (1 + p % 16), .int .i64 (1 + c % 16), .int .i64 pb, .int .i64 cb, .pointer a], .int .i64 (1 + n % 8), .int .i64 (1 + p % 16), .int .i64 (1 + c % 16), .bool true]) (res5 _ _ w.heap.size _ _ _ _ _ _ _ _ _ _ rfl rfl rfl rfl rfl (hl _ _ _ _ (hs _ _ _ _ _ _) c0) (hl _ _ _ _ (hs _ _ _ _ _ _) c1) (hl _ _ _ _ (hs _ _ _ _ _ _) c2) (hl _ _ _ _ (hs _ _ _ _ _ _) c3) (hl _ _ _ _ (hs _ _ _ _ _ _) c4) (hl _ _ _ _ (hs _ _ _ _ _ _) c5)) rfl ⟨⟨pb, cb, a, rfl⟩, ?_⟩
  exact (((((((hbel.setCell (by simp) _).setCell (by simp) _).setCell (by simp) _).setCell (by simp) _).setCell (by simp) _).setCell (by simp) _).alloc (Nat.le_of_lt (hs _ _ _ _ _ _)) _).drew

/-- A stamp that is not packed holds as many processes as entries. -/
theorem procs_any (p : Int) (a : Option Addr) (n c : Nat) (w : World) :
    Calls Ybaf.prog 8 #[.agg #[.int .i64 p, .slice a n c, .pointer none, .bool false]] w fun e w' => e = .returned (.int .i64 n) ∧ w' = w.alloc (.cells #[.int .i64 p, .slice a n c, .pointer none, .bool false] 31) := by
  go_enter Ybaf.func8, Ybaf.ntmps8
  go_wp2
  go_ret
  exact ⟨rfl, rfl⟩

end Go.Proofs.YbulkcwdyFmt
