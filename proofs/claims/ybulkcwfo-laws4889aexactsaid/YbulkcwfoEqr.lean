/-
  '!=' on two records; steps of a quiet walk over whole records.
-/
import Derived.Test.YbulkcwfoBump
namespace Go.Proofs.Ybulkcwfo
open Go.RowKit

theorem key3 (d : Nat) (n : Int) (h : (Lit.int .i64 n).wf = true) : Yba.prog.keyLits (d + 1) 3 [.int .i64 n] = some [.int .i64 n] := by
  unfold Program.keyLits
  simp [Yba.underlying3, h]
theorem cells3' : Yba.prog.cellsOf 3 = 1 := by kernel_rfl
theorem cells45 : Yba.prog.cellsOf 45 = 34 := by kernel_rfl
theorem rc_p0 (e : Int × Int × Int) : ((rc e).drop 0).take 32 = hc e.1 := by
  unfold rc; rw [List.drop_zero, List.take_append_of_le_length (by rw [hc_length]; omega), List.take_of_length_le (by rw [hc_length]; omega)]
theorem rc_p1 (e : Int × Int × Int) : ((rc e).drop 32).take 1 = [.int .i64 e.2.1] := by
  unfold rc; rw [List.drop_append_of_le_length (by rw [hc_length]; omega), List.drop_of_length_le (by rw [hc_length]; omega)]; rfl
theorem rc_p2 (e : Int × Int × Int) : ((rc e).drop 33).take 1 = [.int .i64 e.2.2] := by
  unfold rc
  rw [List.drop_append, hc_length, List.drop_of_length_le (by rw [hc_length]; omega)]; rfl
theorem key45 (d : Nat) (e : Int × Int × Int) (h0 : 0 ≤ e.1) (h1 : e.1 ≤ 255) (h2 : (Lit.int .i64 e.2.1).wf = true) (h3 : (Lit.int .i64 e.2.2).wf = true) : ∃ l, Yba.prog.keyLits (d + 3) 45 (rc e) = some l := by
  unfold Program.keyLits
  simp only [Yba.underlying45, cells45, rc_length]
  rw [if_pos ⟨trivial, by kernel_rfl⟩]
  simp only [List.mapM_cons, List.mapM_nil, cells30, cells3', rc_p0, rc_p1, rc_p2, key30 d e.1 h0 h1, key3 (d + 1) _ h2, key3 (d + 1) _ h3]
  exact ⟨_, rfl⟩

theorem eq45 (e : Int × Int × Int) (h0 : 0 ≤ e.1) (h1 : e.1 ≤ 255) (h2 : (Lit.int .i64 e.2.1).wf = true) (h3 : (Lit.int .i64 e.2.2).wf = true) (w : World) : (Op.equalIn 10000 45 (.agg (rc e).toArray) (.agg (rc e).toArray)).run Yba.prog w = .ok true w := by
  obtain ⟨l, hl⟩ := key45 0 e h0 h1 h2 h3
  obtain ⟨r, h4, h5⟩ := run_equalIn_deep (P := Yba.prog) 9996 4 45 (by kernel_rfl) w 3 3 (.agg (rc e).toArray) (.agg (rc e).toArray) l l (by kernel_rfl) (by kernel_rfl) (by simpa [Value.cells] using hl) (by simpa [Value.cells] using hl)
  rw [h4]
  congr 1
  exact h5.2 rfl
theorem guard45 (x y : Operand) (e : Int × Int × Int) (w : World) : (eqGuard .neq 45 x y (.agg (rc e).toArray) (.agg (rc e).toArray)).run Yba.prog w = .ok () w := by kernel_rfl
theorem neq45 (e : Int × Int × Int) (h0 : 0 ≤ e.1) (h1 : e.1 ≤ 255) (h2 : (Lit.int .i64 e.2.1).wf = true) (h3 : (Lit.int .i64 e.2.2).wf = true) (w : World) : (binOp .neq 45 (.agg (rc e).toArray) (.agg (rc e).toArray)).run Yba.prog w = .ok (.bool false) w := by
  rw [run_neq_struct, eq45 e h0 h1 h2 h3]; rfl

/-- Two records that are one. -/
def SameR (x y : Value) : Prop := ∃ e : Int × Int × Int, 0 ≤ e.1 ∧ e.1 ≤ 255 ∧ (Lit.int .i64 e.2.1).wf = true ∧ (Lit.int .i64 e.2.2).wf = true ∧ x = .agg (rc e).toArray ∧ y = .agg (rc e).toArray
theorem sameR (e : Int × Int × Int) (h0 : 0 ≤ e.1) (h1 : e.1 ≤ 255) (h2 : (Lit.int .i64 e.2.1).wf = true) (h3 : (Lit.int .i64 e.2.2).wf = true) : SameR (.agg (rc e).toArray) (.agg (rc e).toArray) := ⟨e, h0, h1, h2, h3, rfl, rfl⟩
theorem op_neq45 (ρ : Operand → Value) (d : Option Tmp) (x y : Operand) (t t' : TypeId) (p : String) (af : Array Edge) (g : Option (Nat × Bool)) (w : World) (h : SameR (ρ x) (ρ y)) :
    (execOp ρ { dst := d, op := .binOp .neq 45 x y t', type := t, pos := p, after := af, guard := g }).run Yba.prog w = .ok (.value (.bool false)) w := by
  obtain ⟨e, h0, h1, h2, h3, hx, hy⟩ := h
  have g1 := guard45 x y e w
  have g2 := neq45 e h0 h1 h2 h3 w
  unfold execOp
  simp only [hx, hy, Sem.run_bind, g1, g2, Result.andThen_ok, Sem.run_pure]

theorem quiet_load45 {ops : Array Oper} {C : World → Prop} {Q : Act → Prop} {a : Act} {o : Oper} {rest : List Oper} (hg : o.guard = none) (x : Operand) (ho : o.op = .load 45 x) (b off : Nat) (hx : a.eval x = .pointer (some ⟨b, off, none⟩))
    (e : Int × Int × Int) (hc' : ∀ w, C w → w.rangeAt b off (rc e)) (h : wpQuiet Yba.prog ops C Q rest (a.put o.dst (.agg (rc e).toArray))) : wpQuiet Yba.prog ops C Q (o :: rest) a :=
  wpQuiet_val hg _ (fun w hw => by
    have := run_loadAt_mid (P := Yba.prog) w b off 45 (rc e) _ (hc' w hw) Yba.underlying45 rfl (by rw [rc_length]; kernel_rfl)
    unfold execOp
    simp only [ho, hx, Sem.run_bind, this, Result.andThen_ok, Sem.run_pure]) h
theorem quiet_build1 {ops : Array Oper} {C : World → Prop} {Q : Act → Prop} {a : Act} {o : Oper} {rest : List Oper} (hg : o.guard = none) (x : Operand) (ho : o.op = .build 45 #[(0, x)]) (k : Int) (hx : a.eval x = .agg (hc k).toArray)
    (h : wpQuiet Yba.prog ops C Q rest (a.put o.dst (.agg (rc (k, 0, 0)).toArray))) : wpQuiet Yba.prog ops C Q (o :: rest) a :=
  wpQuiet_val hg _ (fun w _ => by
    have hr : (Instr.build 45 #[(0, .agg (hc k).toArray)]).run Yba.prog w = .ok (.agg (rc (k, 0, 0)).toArray) w := by kernel_rfl
    unfold execOp
    simp only [ho, List.map_toArray, List.map_cons, List.map_nil, hx, Sem.run_bind, hr, Result.andThen_ok, Sem.run_pure]) h
theorem quiet_neq45 {ops : Array Oper} {C : World → Prop} {Q : Act → Prop} {a : Act} {o : Oper} {rest : List Oper} (hg : o.guard = none) (x y : Operand) (t : TypeId) (ho : o.op = .binOp .neq 45 x y t) (e : Int × Int × Int) (hx : a.eval x = .agg (rc e).toArray) (hy : a.eval y = .agg (rc e).toArray)
    (h0 : 0 ≤ e.1) (h1 : e.1 ≤ 255) (h2 : (Lit.int .i64 e.2.1).wf = true) (h3 : (Lit.int .i64 e.2.2).wf = true) (h : wpQuiet Yba.prog ops C Q rest (a.put o.dst (.bool false))) : wpQuiet Yba.prog ops C Q (o :: rest) a :=
  wpQuiet_val hg _ (fun w _ => by
    have g1 := guard45 x y e w
    have g2 := neq45 e h0 h1 h2 h3 w
    unfold execOp
    simp only [ho, hx, hy, Sem.run_bind, g1, g2, Result.andThen_ok, Sem.run_pure]) h

/-- A whole record, as it lies. -/
theorem own_rec {w : World} {base g n cap : Nat} {es : List (Int × Int × Int)} (h : w.ownsRow base 45 34 (.slice (some ⟨g, 0, none⟩) n cap) n (flat es)) (i : Nat) (e : Int × Int × Int) (he : es[i]? = some e) : w.rangeAt g (i * 34) (rc e) := by
  intro j u hj
  have hlt : j < 34 := by have := (List.getElem?_eq_some_iff.1 hj).1; rw [rc_length] at this; exact this
  exact own_cells h _ u (by rw [flat_get es i j e he hlt]; exact hj)

end Go.Proofs.Ybulkcwfo
