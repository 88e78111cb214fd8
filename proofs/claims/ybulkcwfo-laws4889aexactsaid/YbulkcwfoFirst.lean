/-
  The records of an iteration in memory; (*iteration).first.
-/
import Derived.Test.YbulkcwfoEq
import Derived.Deep.QuietTactic
import Derived.BigQuiet
namespace Go.Proofs.Ybulkcwfo
open Go.RowKit

/-- The 34 cells of a record. -/
def rc (e : Int × Int × Int) : List Value := hc e.1 ++ [.int .i64 e.2.1, .int .i64 e.2.2]
theorem rc_length (e : Int × Int × Int) : (rc e).length = 34 := by simp [rc, hc_length]
theorem rc_one (e : Int × Int × Int) : ∀ v ∈ rc e, v.oneCell' = true := by
  intro v hv
  simp [rc] at hv
  rcases hv with h | rfl | rfl
  · exact hc_one _ v h
  · rfl
  · rfl
def flat (es : List (Int × Int × Int)) : List Value := es.flatMap rc
theorem flat_length (es : List (Int × Int × Int)) : (flat es).length = es.length * 34 := by
  induction es with
  | nil => rfl
  | cons e es ih => simp [flat, rc_length] at ih ⊢; omega
theorem flat_get (es : List (Int × Int × Int)) (i j : Nat) (e : Int × Int × Int) (he : es[i]? = some e) (hj : j < 34) : (flat es)[i * 34 + j]? = (rc e)[j]? := by
  induction es generalizing i with
  | nil => simp at he
  | cons a es ih =>
    cases i with
    | zero =>
      simp at he; subst he
      simp only [flat, List.flatMap_cons]
      rw [List.getElem?_append_left (by rw [rc_length]; omega)]; simp
    | succ i =>
      simp only [flat, List.flatMap_cons]
      rw [List.getElem?_append_right (by rw [rc_length]; omega), rc_length]
      have := ih i (by simpa using he)
      rw [← this]; congr 1; omega
theorem rc_hash (e : Int × Int × Int) (j : Nat) (hj : j < 32) : (rc e)[j]? = (hc e.1)[j]? := by
  unfold rc; rw [List.getElem?_append_left (by rw [hc_length]; omega)]

/-- The iteration at block 'bit' holds the records es: its slice's value is v. -/
structure It (w : World) (bit : Nat) (v : Value) (es : List (Int × Int × Int)) : Prop where
  cell : w.cell? ⟨bit, 6, none⟩ = some v
  free : w.frozen? ⟨bit, 6, none⟩ = false
  own : w.ownsRow (bit + 1) 45 34 v es.length (flat es)

theorem own_cells {w : World} {base : Nat} {g n cap : Nat} {xs : List Value} (h : w.ownsRow base 45 34 (.slice (some ⟨g, 0, none⟩) n cap) n xs) (j : Nat) (u : Value) (hj : xs[j]? = some u) : w.cell? ⟨g, j, none⟩ = some u := by
  have := h.cells (g := g) rfl j u hj
  rw [Addr.add_mid, Nat.zero_add] at this
  exact this

/-- The hash of record i, as it lies. -/
theorem own_hash {w : World} {base g n cap : Nat} {es : List (Int × Int × Int)} (h : w.ownsRow base 45 34 (.slice (some ⟨g, 0, none⟩) n cap) n (flat es)) (i : Nat) (e : Int × Int × Int) (he : es[i]? = some e) : w.rangeAt g (i * 34) (hc e.1) := by
  intro j u hj
  have hlt : j < 32 := by have := (List.getElem?_eq_some_iff.1 hj).1; rw [hc_length] at this; exact this
  exact own_cells h _ u (by rw [flat_get es i j e he (by omega), rc_hash e j hlt]; exact hj)

/-! ### Two steps of a quiet walk that the walk's own words do not take: the load of a whole hash, '==' on two hashes. -/
theorem wpQuiet_val {P : Program} {ops : Array Oper} {C : World → Prop} {Q : Act → Prop} {a : Act} {o : Oper} {rest : List Oper} (hg : o.guard = none) (v : Value)
    (hrun : ∀ w, C w → (execOp a.eval o).run P w = .ok (.value v) w) (h : wpQuiet P ops C Q rest (a.put o.dst v)) : wpQuiet P ops C Q (o :: rest) a := by
  unfold wpQuiet
  rw [if_pos (by simp [Region.wanted, hg])]
  exact ⟨v, fun w hw => by unfold Oper.quietAt; rw [hrun w hw]; exact ⟨rfl, rfl⟩, h⟩
theorem quiet_load30 {ops : Array Oper} {C : World → Prop} {Q : Act → Prop} {a : Act} {o : Oper} {rest : List Oper} (hg : o.guard = none) (x : Operand) (ho : o.op = .load 30 x) (b off : Nat) (hx : a.eval x = .pointer (some ⟨b, off, none⟩))
    (k : Int) (hc' : ∀ w, C w → w.rangeAt b off (hc k)) (h : wpQuiet Yba.prog ops C Q rest (a.put o.dst (.agg (hc k).toArray))) : wpQuiet Yba.prog ops C Q (o :: rest) a :=
  wpQuiet_val hg _ (fun w hw => by
    have := run_loadAt_mid (P := Yba.prog) w b off 30 (hc k) (.array 32 5) (hc' w hw) Yba.underlying30 rfl (by rw [hc_length]; kernel_rfl)
    unfold execOp
    simp only [ho, hx, Sem.run_bind, this, Result.andThen_ok, Sem.run_pure]) h
theorem guard30 (op : BinOp) (hop : op = .eql ∨ op = .neq) (x y : Operand) (k l : Int) (w : World) : (eqGuard op 30 x y (.agg (hc k).toArray) (.agg (hc l).toArray)).run Yba.prog w = .ok () w := by
  rcases hop with rfl | rfl <;> kernel_rfl
theorem quiet_eql30 {ops : Array Oper} {C : World → Prop} {Q : Act → Prop} {a : Act} {o : Oper} {rest : List Oper} (hg : o.guard = none) (x y : Operand) (t : TypeId) (ho : o.op = .binOp .eql 30 x y t) (k l : Int) (hx : a.eval x = .agg (hc k).toArray) (hy : a.eval y = .agg (hc l).toArray)
    (hk0 : 0 ≤ k) (hk1 : k ≤ 255) (hl0 : 0 ≤ l) (hl1 : l ≤ 255) (r : Bool) (hr : (k == l) = r) (h : wpQuiet Yba.prog ops C Q rest (a.put o.dst (.bool r))) : wpQuiet Yba.prog ops C Q (o :: rest) a :=
  wpQuiet_val hg _ (fun w _ => by
    have h1 := guard30 .eql (.inl rfl) x y k l w
    have h2 : (binOp .eql 30 (.agg (hc k).toArray) (.agg (hc l).toArray)).run Yba.prog w = .ok (.bool r) w := by
      rw [run_eql_struct, eq30 k l hk0 hk1 hl0 hl1, hr]; rfl
    unfold execOp
    simp only [ho, hx, hy, Sem.run_bind, h1, h2, Result.andThen_ok, Sem.run_pure]) h

set_option maxRecDepth 100000 in
set_option maxHeartbeats 1000000 in
theorem first_hit (bit g n cap : Nat) (es : List (Int × Int × Int)) (k : Int) (i : Nat) (w : World) (hk0 : 0 ≤ k) (hk1 : k ≤ 255) (hI : It w bit (.slice (some ⟨g, 0, none⟩) n cap) es) (hn : n ≤ 1048576) (hlen : es.length = n)
    (hwf : ∀ e ∈ es, 0 ≤ e.1 ∧ e.1 ≤ 255) (hi : i < n) (hhit : ∀ e, es[i]? = some e → e.1 = k) (hmiss : ∀ j e, j < i → es[j]? = some e → e.1 ≠ k) :
    Calls Yba.prog 10 #[.pointer (some ⟨bit, 0, none⟩), .agg (hc k).toArray] w fun e w' => e = .returned (.pointer (some ⟨g, i * 34, none⟩)) ∧ ∃ q, w' = (w.alloc (.cells (hc k).toArray 30)).drewN q := by
  have hc6 := hI.cell
  have HO : Hid (w.ownsRow (bit + 1) 45 34 (.slice (some ⟨g, 0, none⟩) n cap) n (flat es)) := by have := hI.own; rw [hlen] at this; exact this
  have HW := hide hwf
  have HH := hide hhit
  have HM := hide hmiss
  have HL := hide hlen
  have hbit : bit < w.heap.size := World.block_lt_of_cell? w _ hc6
  clear hI hwf hhit hmiss hlen
  go_enter Yba.func10, Yba.ntmps10
  go_wp2
  go_loopw [11] (fun ix wr => ∃ j q : Nat, j ≤ i ∧ ix = .int .i64 j ∧ wr = (w.alloc (.cells (hc k).toArray 30)).drewN q) (fun ix _ => i + 1 - (intOf ix).toNat)
  case atStart => exact ⟨0, 0, Nat.zero_le _, rfl, rfl⟩
  case round =>
    obtain ⟨j, q, hj, rfl, rfl⟩ := hrel
    obtain ⟨ej, hej⟩ : ∃ e, es[j]? = some e := ⟨_, List.getElem?_eq_getElem (by have := HL.out; omega)⟩
    have HEJ := hide hej
    have kb := HW.out ej (List.mem_of_getElem? hej)
    have l1 : (w.alloc (.cells (hc k).toArray 30)).rangeAt g (j * 34) (hc ej.1) := World.rangeAt_alloc (own_hash HO.out j ej hej) (.cells (hc k).toArray 30)
    have l2 : (w.alloc (.cells (hc k).toArray 30)).rangeAt w.heap.size 0 (hc k) := fun j v hv => by rw [Nat.zero_add, World.cell?_alloc_at _ _ _ _ rfl]; simpa using hv
    clear hej
    by_cases hji : j < i
    · have hb : (ej.1 == k) = false := by simpa using HM.out j ej hji HEJ.out
      have hjn : j < n := by omega
      go_wp2
      refine wp_region_quiet_lit (by kernel_rfl) (by kernel_rfl) ?_
      repeat (go_big_quiet_step (fail))
      refine quiet_load30 rfl _ rfl g (j * 34) rfl ej.1 (fun w' ⟨n, hn⟩ => by rw [hn]; exact l1) ?_
      refine quiet_load30 rfl _ rfl w.heap.size 0 rfl k (fun w' ⟨n, hn⟩ => by rw [hn]; exact l2) ?_
      refine quiet_eql30 rfl _ _ _ rfl ej.1 k rfl rfl kb.1 kb.2 hk0 hk1 false hb ?_
      refine wpQuiet_nil ?_
      rintro _ ⟨nq, rfl⟩
      simp only [Act.put, List.setIfInBounds_toArray, List.set_cons_zero, List.set_cons_succ]
      go_wp2
      go_roundw
      case rel => exact ⟨j + 1, _, by omega, by go_num, rfl⟩
      case measure => simp [intOf]; omega
    · have eji : i = j := by omega
      subst eji
      have hb : (ej.1 == k) = true := by simpa using HH.out ej HEJ.out
      go_wp2
      refine wp_region_quiet_lit (by kernel_rfl) (by kernel_rfl) ?_
      repeat (go_big_quiet_step (fail))
      refine quiet_load30 rfl _ rfl g (i * 34) rfl ej.1 (fun w' ⟨n, hn⟩ => by rw [hn]; exact l1) ?_
      refine quiet_load30 rfl _ rfl w.heap.size 0 rfl k (fun w' ⟨n, hn⟩ => by rw [hn]; exact l2) ?_
      refine quiet_eql30 rfl _ _ _ rfl ej.1 k rfl rfl kb.1 kb.2 hk0 hk1 true hb ?_
      refine wpQuiet_nil ?_
      rintro _ ⟨nq, rfl⟩
      simp only [Act.put, List.setIfInBounds_toArray, List.set_cons_zero, List.set_cons_succ]
      go_wp2
      go_ret
      exact ⟨rfl, _, rfl⟩

set_option maxRecDepth 100000 in
set_option maxHeartbeats 1000000 in
theorem first_miss (bit g n cap : Nat) (ao : Option Addr) (es : List (Int × Int × Int)) (k : Int) (w : World) (hk0 : 0 ≤ k) (hk1 : k ≤ 255) (hao : Hid (0 < n → ao = some ⟨g, 0, none⟩)) (hI : It w bit (.slice ao n cap) es) (hn : n ≤ 1048576) (hlen : es.length = n)
    (hwf : ∀ e ∈ es, 0 ≤ e.1 ∧ e.1 ≤ 255) (hmiss : ∀ j e, j < n → es[j]? = some e → e.1 ≠ k) :
    Calls Yba.prog 10 #[.pointer (some ⟨bit, 0, none⟩), .agg (hc k).toArray] w fun e w' => e = .returned (.pointer none) ∧ ∃ q, w' = (w.alloc (.cells (hc k).toArray 30)).drewN q := by
  have hc6 := hI.cell
  have HO : Hid (w.ownsRow (bit + 1) 45 34 (.slice ao n cap) n (flat es)) := by have := hI.own; rw [hlen] at this; exact this
  have HW := hide hwf
  have HM := hide hmiss
  have HL := hide hlen
  have hbit : bit < w.heap.size := World.block_lt_of_cell? w _ hc6
  clear hI hwf hmiss hlen
  go_enter Yba.func10, Yba.ntmps10
  go_wp2
  go_loopw [11] (fun ix wr => ∃ j q : Nat, j ≤ n ∧ ix = .int .i64 j ∧ wr = (w.alloc (.cells (hc k).toArray 30)).drewN q) (fun ix _ => n - (intOf ix).toNat)
  case atStart => exact ⟨0, 0, Nat.zero_le _, rfl, rfl⟩
  case round =>
    obtain ⟨j, q, hj, rfl, rfl⟩ := hrel
    by_cases hjn : j < n
    · obtain rfl := hao.out (by omega)
      obtain ⟨ej, hej⟩ : ∃ e, es[j]? = some e := ⟨_, List.getElem?_eq_getElem (by have := HL.out; omega)⟩
      have HEJ := hide hej
      have kb := HW.out ej (List.mem_of_getElem? hej)
      have l1 : (w.alloc (.cells (hc k).toArray 30)).rangeAt g (j * 34) (hc ej.1) := World.rangeAt_alloc (own_hash HO.out j ej hej) (.cells (hc k).toArray 30)
      have l2 : (w.alloc (.cells (hc k).toArray 30)).rangeAt w.heap.size 0 (hc k) := fun j v hv => by rw [Nat.zero_add, World.cell?_alloc_at _ _ _ _ rfl]; simpa using hv
      clear hej
      have hb : (ej.1 == k) = false := by simpa using HM.out j ej hjn HEJ.out
      go_wp2
      refine wp_region_quiet_lit (by kernel_rfl) (by kernel_rfl) ?_
      repeat (go_big_quiet_step (fail))
      refine quiet_load30 rfl _ rfl g (j * 34) rfl ej.1 (fun w' ⟨n, hn⟩ => by rw [hn]; exact l1) ?_
      refine quiet_load30 rfl _ rfl w.heap.size 0 rfl k (fun w' ⟨n, hn⟩ => by rw [hn]; exact l2) ?_
      refine quiet_eql30 rfl _ _ _ rfl ej.1 k rfl rfl kb.1 kb.2 hk0 hk1 false hb ?_
      refine wpQuiet_nil ?_
      rintro _ ⟨nq, rfl⟩
      simp only [Act.put, List.setIfInBounds_toArray, List.set_cons_zero, List.set_cons_succ]
      go_wp2
      go_roundw
      case rel => exact ⟨j + 1, _, by omega, by go_num, rfl⟩
      case measure => simp [intOf]; omega
    · go_wp2
      go_ret
      exact ⟨rfl, _, rfl⟩

end Go.Proofs.Ybulkcwfo
