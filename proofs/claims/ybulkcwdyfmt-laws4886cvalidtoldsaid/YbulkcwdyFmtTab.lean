/-
  (StampFormat).pairTable.
-/
import Derived.Test.YbulkcwdyFmtDec
import Derived.Deep.RegionWith
import Derived.Deep.CutRange
import Derived.Laws.Tables
namespace Go.Proofs.YbulkcwdyFmt
open Go.RowKit Go.Extern.Stop Go.Stop Go.Extern

theorem tab_built (pr : Int) : ∃ C : Array Value, C.size = 1281 ∧ ∀ w, (Instr.build 55 #[(0, .int .i64 pr)]).run Ybaf.prog w = .ok (.agg C) w := by
  have hs : (Ybaf.prog.built 55 [(0, .int .i64 pr)]).isSome = true := by kernel_rfl
  have hz : (Ybaf.prog.built 55 [(0, .int .i64 pr)]).map (·.size) = some 1281 := by kernel_rfl
  obtain ⟨C, hC⟩ := Option.isSome_iff_exists.1 hs
  rw [hC] at hz
  exact ⟨C, by simpa using hz, fun w => run_build w 55 _ C hC⟩

theorem wpList_tab {P : Program} {w : World} {ops : Array Oper} {rest : List Oper} {o : Oper} {a : Act} {Q : Exit → Act → World → Prop}
    (hg : o.guard = none) (x : Operand) (ho : o.op = .build 55 #[(0, x)]) (pr : Int) (hx : a.eval x = .int .i64 pr) (C : Array Value) (hC : ∀ w, (Instr.build 55 #[(0, .int .i64 pr)]).run P w = .ok (.agg C) w)
    (h : wpList P ops Q rest (a.put o.dst (.agg C)) w) : wpList P ops Q (o :: rest) a w := by
  refine wpList_plain hg fun K hK' => ?_
  unfold Oper.wp execOp
  have hm : (#[((0 : Nat), x)] : Array (Nat × Operand)).map (fun (i, y) => (i, a.eval y)) = #[(0, .int .i64 pr)] := by simp [hx]
  simp only [ho, hm, Sem.run_bind, hC, Result.andThen_ok]
  exact hK' _ _ h

/-- No table: the entries do not take 4 bits. -/
theorem tab_none (pr P L pb cb : Int) (pt : Value) (w : World) (h0 : 0 ≤ pb) (h1 : pb ≤ 4) (h2 : 0 ≤ cb) (h3 : cb ≤ 4) (h : ¬ pb + cb = 4) :
    Calls Ybaf.prog 17 #[.agg #[.int .i64 pr, .int .i64 P, .int .i64 L, .int .i64 pb, .int .i64 cb, pt]] w fun e w' => e = .returned (.pointer none) ∧ Below w.heap.size w w' := by
  have hb : (pb + cb != 4) = true := by simpa using h
  go_enter Ybaf.func17, Ybaf.ntmps17
  go_wp2
  go_ret
  exact ⟨rfl, (Below.refl _ _).alloc (Nat.le_refl _) _⟩

theorem u8_bd (x : Int) : 0 ≤ IntKind.u8.wrap x ∧ IntKind.u8.wrap x ≤ 255 := by
  rw [show IntKind.u8.wrap x = x % 256 from by simp [IntKind.wrap, IntKind.bits, IntKind.signed]]; omega
theorem Tab.allocD {T n : Nat} {w : World} (h : Tab T n w) (o : Obj) : Tab T n (w.alloc o).drew := by
  obtain ⟨c, h1, h2⟩ := h
  exact ⟨c, (Below.heap_alloc _ _ _ (lt_of_some h1)).trans h1, h2⟩
theorem decEnd_val {e : Ending} (h : DecEnd e) : ∃ (V : Value) (b : Bool), e = .returned V ∧ (∀ w, (eqGuard .neq 33 (.tmp 30) (.const .nilIface) V .nilIface).run Ybaf.prog w = .ok () w) ∧ (∀ w, (binOp .neq 33 V .nilIface).run Ybaf.prog w = .ok (.bool b) w) := by
  rcases h with rfl | ⟨a, rfl⟩
  · exact ⟨_, false, rfl, fun w => by kernel_rfl, fun w => by kernel_rfl⟩
  · exact ⟨_, true, rfl, fun w => by kernel_rfl, fun w => by kernel_rfl⟩

theorem round_kept {w wr w' : World} {o bx : Obj} {i : Nat} {u : Value} (hB : Below w.heap.size w wr) (hbox : wr.heap[w.heap.size]? = some bx) (hT : Tab (w.heap.size + 1) 1281 wr) (hK : KeptT (w.heap.size + 1) 1281 (wr.alloc o).drew w') :
    Below w.heap.size w (w'.setCell ⟨w.heap.size + 1, i, none⟩ u) ∧ (w'.setCell ⟨w.heap.size + 1, i, none⟩ u).heap[w.heap.size]? = some bx ∧ Tab (w.heap.size + 1) 1281 (w'.setCell ⟨w.heap.size + 1, i, none⟩ u) := by
  have hl := lt_of_some hbox
  have hsz : (wr.alloc o).drew.heap.size = wr.heap.size + 1 := World.size_alloc wr o
  have hkb : ∀ k, k < wr.heap.size → k ≠ w.heap.size + 1 → w'.heap[k]? = wr.heap[k]? := fun k hk hne => by
    rw [hK.gb.block k (by rw [hsz]; omega) (by simpa using hne)]
    exact Below.heap_alloc wr o k hk
  refine ⟨?_, ?_, ?_⟩
  · refine Below.setCell ⟨?_, ?_, ?_, ?_, fun k hk => ?_⟩ (by simp) u
    · exact hK.gb.os.trans hB.os
    · exact hK.gb.tape.trans hB.tape
    · exact hK.gb.output.trans hB.output
    · have := hK.gb.size; have := hB.size; omega
    · rw [hkb k (by have := hB.size; omega) (by omega)]; exact hB.block k hk
  · rw [Below.heap_setCell _ _ _ _ (by simp), hkb _ hl (by omega)]; exact hbox
  · obtain ⟨c, h1, h2⟩ := hK.tab (hT.allocD o)
    exact ⟨c.setIfInBounds i u, by simp [World.setCell, Array.getElem?_modify, h1], by simpa using h2⟩

set_option maxRecDepth 100000 in
set_option maxHeartbeats 4000000 in
theorem tab_some (F : Interp) (pr P L pb cb : Int) (pt : Value) (w : World) (hF : F.answers w.tape) (hr0 : 1 ≤ pr) (hr : pr ≤ 1048576) (hP0 : 1 ≤ P) (hP : P ≤ 16) (hL0 : 1 ≤ L) (hL : L ≤ 16) (h0 : 0 ≤ pb) (h2 : 0 ≤ cb) (h : pb + cb = 4) :
    Calls Ybaf.prog 17 #[.agg #[.int .i64 pr, .int .i64 P, .int .i64 L, .int .i64 pb, .int .i64 cb, pt]] w fun e w' => e = .returned (.pointer (some ⟨w.heap.size + 1, 0, none⟩)) ∧ Below w.heap.size w w' := by
  have hb : (pb + cb != 4) = false := by simpa using h
  have hpb : pb ≤ 4 := by omega
  have hcb : cb ≤ 4 := by omega
  have HH := hide h
  clear h
  obtain ⟨C, hC, hrun⟩ := tab_built pr
  go_enter Ybaf.func17, Ybaf.ntmps17
  go_wp2_with (refine wpList_tab rfl _ rfl pr rfl C hrun ?_)
  go_loopw [15] (fun ix wr => ∃ k : Nat, k ≤ 256 ∧ ix = .int .i64 k ∧ Below w.heap.size w wr ∧ wr.heap[w.heap.size]? = some (.cells #[.int .i64 pr, .int .i64 P, .int .i64 L, .int .i64 pb, .int .i64 cb, pt] 25 (0, 0)) ∧ Tab (w.heap.size + 1) 1281 wr) (fun ix _ => 256 - (intOf ix).toNat)
  case atStart => exact ⟨0, by omega, rfl, ((Below.refl _ _).alloc (Nat.le_refl _) _).alloc (by simp) _, (Below.heap_alloc _ _ _ (by simp)).trans (heap_alloc_new _ _), ⟨C, by simpa using heap_alloc_new (w.alloc (.cells #[.int .i64 pr, .int .i64 P, .int .i64 L, .int .i64 pb, .int .i64 cb, pt] 25)) (.cells C 55), hC⟩⟩
  case round =>
    clear hrun hC
    obtain ⟨k, hk, rfl, hbel, hbox, htab⟩ := hrel
    by_cases hlt : k < 256
    · have HB := hide hbel
      have HX := hide hbox
      have HT := hide htab
      have k0 := boxc hbox 0
      have k1 := boxc hbox 1
      have k2 := boxc hbox 2
      have k3 := boxc hbox 3
      have k4 := boxc hbox 4
      have k5 := boxc hbox 5
      simp at k0 k1 k2 k3 k4 k5
      have hz : w.heap.size + 1 < wr.heap.size := by obtain ⟨c, h1, _⟩ := htab; exact lt_of_some h1
      have hz0 : w.heap.size < wr.heap.size := by omega
      have hF2 := answers_below hF hbel
      clear hbel hbox htab
      go_wp2
      go_region_with (go_at_call 20; refine (dec_any F pr P L pb cb pt wr.heap.size (w.heap.size + 1) 1281 (1 + k * 4) (IntKind.u8.wrap k) _ (by exact hF2) hr0 hr hP0 hP hL0 hL h0 h2 HH.out (by go_simp) (u8_bd _).1 (u8_bd _).2 (by simp) (by simp; omega) (by omega) (Tab.allocD HT.out _) (by omega)).mono ?_; rintro e w' ⟨hd, hK⟩; obtain ⟨V, b, rfl, hv1, hv2⟩ := decEnd_val hd; obtain ⟨x, hx⟩ := (hK.tab (Tab.allocD HT.out _)).cell (1025 + k) (by omega); have fx := (hK.tab (Tab.allocD HT.out _)).free (1025 + k))
      all_goals
        go_wp2
        go_roundw
        case rel =>
          go_light
          exact ⟨k + 1, by omega, by go_num, round_kept HB.out HX.out HT.out hK⟩
        case measure => simp [intOf]; omega
    · go_wp2
      go_ret
      exact ⟨rfl, hbel⟩

end Go.Proofs.YbulkcwdyFmt
