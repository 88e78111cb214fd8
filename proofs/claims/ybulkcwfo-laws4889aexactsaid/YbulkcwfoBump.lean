/-
  A record's count is written; '!=' on two hashes in a region that draws its order, behind a guard; where a key comes first.
-/
import Derived.Test.YbulkcwfoLib
namespace Go.Proofs.Ybulkcwfo
open Go.RowKit

theorem rc_set (e : Int × Int × Int) (c : Int) : (rc e).set 32 (.int .i64 c) = rc (e.1, c, e.2.2) := by
  unfold rc
  rw [List.set_append_right _ _ (by rw [hc_length]; omega), hc_length]; rfl
theorem flat_set (es : List (Int × Int × Int)) (i : Nat) (e : Int × Int × Int) (c : Int) (he : es[i]? = some e) : flat (es.set i (e.1, c, e.2.2)) = (flat es).set (i * 34 + 32) (.int .i64 c) := by
  induction es generalizing i with
  | nil => simp at he
  | cons a es ih =>
    cases i with
    | zero =>
      simp at he; subst he
      simp only [flat, List.set_cons_zero, List.flatMap_cons]
      rw [List.set_append_left _ _ (by rw [rc_length]; omega), show 0 * 34 + 32 = 32 from rfl, rc_set]
    | succ i =>
      have := ih i (by simpa using he)
      simp only [flat, List.set_cons_succ, List.flatMap_cons] at this ⊢
      rw [List.set_append_right _ _ (by rw [rc_length]; omega), rc_length, this]
      congr 2; omega

theorem own_free {w : World} {base g n cap : Nat} {xs : List Value} (h : w.ownsRow base 45 34 (.slice (some ⟨g, 0, none⟩) n cap) n xs) (j : Nat) : w.frozen? ⟨g, j, none⟩ = false := by
  rcases h.2 with ⟨h, _⟩ | ⟨g', cap', cur, hv, _, hg, _⟩
  · cases h
  · cases hv
    simp [World.frozen?, hg]
theorem own_count {w : World} {bit g n cap : Nat} {es : List (Int × Int × Int)} (h : It w bit (.slice (some ⟨g, 0, none⟩) n cap) es) (hlen : es.length = n) (i : Nat) (e : Int × Int × Int) (he : es[i]? = some e) : w.cell? ⟨g, i * 34 + 32, none⟩ = some (.int .i64 e.2.1) := by
  have hO := h.own
  rw [hlen] at hO
  refine own_cells hO _ _ ?_
  rw [flat_get es i 32 e he (by omega)]
  unfold rc
  rw [List.getElem?_append_right (by rw [hc_length]; omega), hc_length]; rfl

theorem It.bump {w : World} {bit g n cap : Nat} {es : List (Int × Int × Int)} (h : It w bit (.slice (some ⟨g, 0, none⟩) n cap) es) (i : Nat) (e : Int × Int × Int) (he : es[i]? = some e) (c : Int) :
    It (w.setCell ⟨g, i * 34 + 32, none⟩ (.int .i64 c)) bit (.slice (some ⟨g, 0, none⟩) n cap) (es.set i (e.1, c, e.2.2)) := by
  have hbg : bit + 1 ≤ g := (h.own.lt g rfl).1
  have hil : i < es.length := (List.getElem?_eq_some_iff.1 he).1
  refine ⟨?_, (World.frozen?_setCell _ _ _ _).trans h.free, ?_, ?_⟩
  · rw [World.cell?_setCell_other _ _ _ _ (by intro e; injection e with e1; omega)]; exact h.cell
  · rw [List.length_set, flat_set es i e c he, List.length_set]; exact h.own.1
  · rcases h.own.2 with ⟨h2, _⟩ | ⟨g', cap', cur, hv, h3, hg, h4, h5, h6, h7⟩
    · cases h2
    · injection hv with hv1 hv2 hv3
      injection hv1 with hv1
      injection hv1 with hv1
      subst hv1; subst hv3
      refine .inr ⟨g, cap, cur.setIfInBounds (i * 34 + 32) (.int .i64 c), by rw [List.length_set, hv2], h3, ?_, by rw [List.length_set]; exact h4, h5, by simpa using h6, ?_⟩
      · simp [World.setCell, Array.getElem?_modify, hg]
      · rw [List.length_set, flat_set es i e c he, ← h7]
        rw [Array.toList_setIfInBounds, List.take_set]

/-- Where a key comes first. -/
theorem first_at (es : List (Int × Int × Int)) (k : Int) : (∃ (i : Nat) (e : Int × Int × Int), es[i]? = some e ∧ e.1 = k ∧ ∀ (j : Nat) (e' : Int × Int × Int), j < i → es[j]? = some e' → e'.1 ≠ k) ∨ ∀ (j : Nat) (e : Int × Int × Int), es[j]? = some e → e.1 ≠ k := by
  induction es with
  | nil => exact .inr fun j e h => by simp at h
  | cons a es ih =>
    by_cases ha : a.1 = k
    · exact .inl ⟨0, a, rfl, ha, fun j e' h => by omega⟩
    · rcases ih with ⟨i, e, h1, h2, h3⟩ | h
      · refine .inl ⟨i + 1, e, by simpa using h1, h2, fun j e' hj hj' => ?_⟩
        cases j with
        | zero => simp at hj'; subst hj'; exact ha
        | succ j => exact h3 j e' (by omega) (by simpa using hj')
      · refine .inr fun j e hj => ?_
        cases j with
        | zero => simp at hj; subst hj; exact ha
        | succ j => exact h j e (by simpa using hj)

/-! ### Steps of a quiet walk behind a guard. -/
theorem wpQuiet_valw {P : Program} {ops : Array Oper} {C : World → Prop} {Q : Act → Prop} {a : Act} {o : Oper} {rest : List Oper} (hg : Region.wanted o (yielded ops a.tmps) = true) (v : Value)
    (hrun : ∀ w, C w → (execOp a.eval o).run P w = .ok (.value v) w) (h : wpQuiet P ops C Q rest (a.put o.dst v)) : wpQuiet P ops C Q (o :: rest) a := by
  unfold wpQuiet
  rw [if_pos hg]
  exact ⟨v, fun w hw => by unfold Oper.quietAt; rw [hrun w hw]; exact ⟨rfl, rfl⟩, h⟩
theorem quietw_load30 {ops : Array Oper} {C : World → Prop} {Q : Act → Prop} {a : Act} {o : Oper} {rest : List Oper} (hg : Region.wanted o (yielded ops a.tmps) = true) (x : Operand) (ho : o.op = .load 30 x) (b off : Nat) (hx : a.eval x = .pointer (some ⟨b, off, none⟩))
    (k : Int) (hc' : ∀ w, C w → w.rangeAt b off (hc k)) (h : wpQuiet Yba.prog ops C Q rest (a.put o.dst (.agg (hc k).toArray))) : wpQuiet Yba.prog ops C Q (o :: rest) a :=
  wpQuiet_valw hg _ (fun w hw => by
    have := run_loadAt_mid (P := Yba.prog) w b off 30 (hc k) (.array 32 5) (hc' w hw) Yba.underlying30 rfl (by rw [hc_length]; kernel_rfl)
    unfold execOp
    simp only [ho, hx, Sem.run_bind, this, Result.andThen_ok, Sem.run_pure]) h
theorem quietw_neq30 {ops : Array Oper} {C : World → Prop} {Q : Act → Prop} {a : Act} {o : Oper} {rest : List Oper} (hg : Region.wanted o (yielded ops a.tmps) = true) (x y : Operand) (t : TypeId) (ho : o.op = .binOp .neq 30 x y t) (k : Int) (hx : a.eval x = .agg (hc k).toArray) (hy : a.eval y = .agg (hc k).toArray)
    (hk0 : 0 ≤ k) (hk1 : k ≤ 255) (h : wpQuiet Yba.prog ops C Q rest (a.put o.dst (.bool false))) : wpQuiet Yba.prog ops C Q (o :: rest) a :=
  wpQuiet_valw hg _ (fun w _ => by
    have h1 := guard30 .neq (.inr rfl) x y k k w
    have h2 : (binOp .neq 30 (.agg (hc k).toArray) (.agg (hc k).toArray)).run Yba.prog w = .ok (.bool false) w := by
      rw [run_neq_struct, eq30 k k hk0 hk1 hk0 hk1]; simp [Result.andThen]
    unfold execOp
    simp only [ho, hx, hy, Sem.run_bind, h1, h2, Result.andThen_ok, Sem.run_pure]) h

end Go.Proofs.Ybulkcwfo
