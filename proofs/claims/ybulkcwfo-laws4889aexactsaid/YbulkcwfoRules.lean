/-
  Operations on whole hashes and whole records, as rules at the level of the operation.
-/
import Derived.Test.YbulkcwfoFirst
namespace Go.Proofs.Ybulkcwfo
open Go.RowKit

/-- A hash; a record; a whole number. -/
def IsH (v : Value) : Prop := ∃ k, v = .agg (hc k).toArray
def IsR (v : Value) : Prop := ∃ e, v = .agg (rc e).toArray
def IsI (v : Value) : Prop := ∃ n, v = .int .i64 n
theorem isH (k : Int) : IsH (.agg (hc k).toArray) := ⟨k, rfl⟩
theorem isR (e : Int × Int × Int) : IsR (.agg (rc e).toArray) := ⟨e, rfl⟩
theorem isI (n : Int) : IsI (.int .i64 n) := ⟨n, rfl⟩
def aggOf : Value → Array Value
  | .agg a => a
  | _ => #[]
theorem aggOf_agg (a : Array Value) : aggOf (.agg a) = a := rfl
def mkR (x y z : Value) : Array Value := aggOf x ++ #[y, z]
theorem mkR_mk (k c n : Int) : mkR (.agg (hc k).toArray) (.int .i64 c) (.int .i64 n) = (rc (k, c, n)).toArray := by
  simp [mkR, aggOf, rc]

theorem op_build1 (ρ : Operand → Value) (d : Option Tmp) (x : Operand) (t : TypeId) (p : String) (af : Array Edge) (g : Option (Nat × Bool)) (w : World) (h : IsH (ρ x)) :
    (execOp ρ { dst := d, op := .build 45 #[(0, x)], type := t, pos := p, after := af, guard := g }).run Yba.prog w = .ok (.value (.agg (mkR (ρ x) (.int .i64 0) (.int .i64 0)))) w := by
  obtain ⟨k, hk⟩ := h
  have hr : (Instr.build 45 #[(0, .agg (hc k).toArray)]).run Yba.prog w = .ok (.agg (rc (k, 0, 0)).toArray) w := by kernel_rfl
  unfold execOp
  simp only [List.map_toArray, List.map_cons, List.map_nil, hk, Sem.run_bind, hr, Result.andThen_ok, Sem.run_pure, mkR_mk]
theorem op_build3 (ρ : Operand → Value) (d : Option Tmp) (x y z : Operand) (t : TypeId) (p : String) (af : Array Edge) (g : Option (Nat × Bool)) (w : World) (h : IsH (ρ x)) (h2 : IsI (ρ y)) (h3 : IsI (ρ z)) :
    (execOp ρ { dst := d, op := .build 45 #[(0, x), (1, y), (2, z)], type := t, pos := p, after := af, guard := g }).run Yba.prog w = .ok (.value (.agg (mkR (ρ x) (ρ y) (ρ z)))) w := by
  obtain ⟨k, hk⟩ := h
  obtain ⟨c, hc'⟩ := h2
  obtain ⟨n, hn⟩ := h3
  have hr : (Instr.build 45 #[(0, .agg (hc k).toArray), (1, .int .i64 c), (2, .int .i64 n)]).run Yba.prog w = .ok (.agg (rc (k, c, n)).toArray) w := by kernel_rfl
  unfold execOp
  simp only [List.map_toArray, List.map_cons, List.map_nil, hk, hc', hn, Sem.run_bind, hr, Result.andThen_ok, Sem.run_pure, mkR_mk]
theorem op_slice1 (ρ : Operand → Value) (d : Option Tmp) (x : Operand) (t : TypeId) (p : String) (af : Array Edge) (g : Option (Nat × Bool)) (w : World) (h : IsR (ρ x)) :
    (execOp ρ { dst := d, op := .buildSlice 41 1 #[(0, x)], type := t, pos := p, after := af, guard := g }).run Yba.prog w = .ok (.value (.slice (some ⟨w.heap.size, 0, none⟩) 1 1)) (w.alloc (.cells (aggOf (ρ x)) 45)) := by
  obtain ⟨⟨k, c, n⟩, hk⟩ := h
  have hr : (Instr.buildSlice 41 1 #[(0, .agg (rc (k, c, n)).toArray)]).run Yba.prog w = .ok (.slice (some ⟨w.heap.size, 0, none⟩) 1 1) (w.alloc (.cells (rc (k, c, n)).toArray 45)) := by kernel_rfl
  unfold execOp
  simp only [List.map_toArray, List.map_cons, List.map_nil, hk, Sem.run_bind, hr, Result.andThen_ok, Sem.run_pure, aggOf_agg]


/-- The n cells behind a pointer; that they are there. -/
def rowAt (w : World) (v : Value) (n : Nat) : List Value :=
  match v with
  | .pointer (some a) => (List.range n).map fun j => (w.cell? ⟨a.block, a.off + j, none⟩).getD undef
  | _ => []
def HasRow (w : World) (v : Value) (n : Nat) : Prop := ∃ b o, v = .pointer (some ⟨b, o, none⟩) ∧ ∀ j, j < n → (w.cell? ⟨b, o + j, none⟩).isSome = true
theorem rowAt_length (w : World) (b o n : Nat) : (rowAt w (.pointer (some ⟨b, o, none⟩)) n).length = n := by simp [rowAt]
theorem rowAt_range {w : World} {b o n : Nat} (h : ∀ j, j < n → (w.cell? ⟨b, o + j, none⟩).isSome = true) : w.rangeAt b o (rowAt w (.pointer (some ⟨b, o, none⟩)) n) := by
  intro j v hv
  have hj : j < n := by have := (List.getElem?_eq_some_iff.1 hv).1; rwa [rowAt_length] at this
  simp [rowAt, hj] at hv
  obtain ⟨u, hu⟩ := Option.isSome_iff_exists.1 (h j hj)
  rw [hu] at hv ⊢
  simpa using hv
theorem rowAt_eq {w : World} {b o : Nat} {cs : List Value} (h : w.rangeAt b o cs) : rowAt w (.pointer (some ⟨b, o, none⟩)) cs.length = cs := by
  refine List.ext_getElem? fun j => ?_
  by_cases hj : j < cs.length
  · have := h j _ (List.getElem?_eq_getElem hj)
    simp [rowAt, hj, this]
  · rw [List.getElem?_eq_none (by rw [rowAt_length]; omega), List.getElem?_eq_none (by omega)]
theorem hasRow_of {w : World} {b o : Nat} {cs : List Value} (h : w.rangeAt b o cs) : HasRow w (.pointer (some ⟨b, o, none⟩)) cs.length := ⟨b, o, rfl, h.isSome⟩
theorem hasRow_drew (w : World) (v : Value) (n : Nat) : HasRow w.drew v n = HasRow w v n := rfl
theorem hasRow_drewN (w : World) (v : Value) (n q : Nat) : HasRow (w.drewN q) v n = HasRow w v n := rfl
theorem rowAt_drew (w : World) (v : Value) (n : Nat) : rowAt w.drew v n = rowAt w v n := rfl
theorem rowAt_drewN (w : World) (v : Value) (n q : Nat) : rowAt (w.drewN q) v n = rowAt w v n := rfl
theorem hasRow_alloc {w : World} {v : Value} {n : Nat} (o : Obj) (h : HasRow w v n) : HasRow (w.alloc o) v n := by
  obtain ⟨b, off, rfl, hj⟩ := h
  exact ⟨b, off, rfl, fun j hjn => by
    obtain ⟨u, hu⟩ := Option.isSome_iff_exists.1 (hj j hjn)
    rw [World.cell?_alloc_lt _ _ _ (World.block_lt_of_cell? w _ hu)]; exact hj j hjn⟩
theorem rowAt_alloc {w : World} {v : Value} {n : Nat} (o : Obj) (h : HasRow w v n) : rowAt (w.alloc o) v n = rowAt w v n := by
  obtain ⟨b, off, rfl, hj⟩ := h
  refine List.map_congr_left fun j hjn => ?_
  obtain ⟨u, hu⟩ := Option.isSome_iff_exists.1 (hj j (by simpa using hjn))
  show ((w.alloc o).cell? ⟨b, off + j, none⟩).getD undef = (w.cell? ⟨b, off + j, none⟩).getD undef
  rw [World.cell?_alloc_lt _ _ _ (World.block_lt_of_cell? w _ hu)]

theorem op_load30 (ρ : Operand → Value) (d : Option Tmp) (x : Operand) (t : TypeId) (p : String) (af : Array Edge) (g : Option (Nat × Bool)) (w : World) (h : HasRow w (ρ x) 32) :
    (execOp ρ { dst := d, op := .load 30 x, type := t, pos := p, after := af, guard := g }).run Yba.prog w = .ok (.value (.agg (rowAt w (ρ x) 32).toArray)) w := by
  obtain ⟨b, o, hv, hj⟩ := h
  have hr := run_loadAt_mid (P := Yba.prog) w b o 30 _ (.array 32 5) (rowAt_range hj) Yba.underlying30 rfl (by rw [rowAt_length]; kernel_rfl)
  unfold execOp
  simp only [hv, Sem.run_bind, hr, Result.andThen_ok, Sem.run_pure]
theorem op_load45 (ρ : Operand → Value) (d : Option Tmp) (x : Operand) (t : TypeId) (p : String) (af : Array Edge) (g : Option (Nat × Bool)) (w : World) (h : HasRow w (ρ x) 34) :
    (execOp ρ { dst := d, op := .load 45 x, type := t, pos := p, after := af, guard := g }).run Yba.prog w = .ok (.value (.agg (rowAt w (ρ x) 34).toArray)) w := by
  obtain ⟨b, o, hv, hj⟩ := h
  have hr := run_loadAt_mid (P := Yba.prog) w b o 45 _ _ (rowAt_range hj) Yba.underlying45 rfl (by rw [rowAt_length]; kernel_rfl)
  unfold execOp
  simp only [hv, Sem.run_bind, hr, Result.andThen_ok, Sem.run_pure]

end Go.Proofs.Ybulkcwfo
