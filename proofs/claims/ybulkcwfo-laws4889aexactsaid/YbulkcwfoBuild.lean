/-
  zzs4889akey, zzs4889abuild, (*iteration).firstCount.
-/
import Derived.Test.YbulkcwfoCounts
namespace Go.Proofs.Ybulkcwfo
open Go.RowKit
attribute [local go_sem ↓] op_build1 op_build3 op_slice1 op_load30
attribute [local go_sem] isH isR isI mkR_mk aggOf_agg hasRow_drew hasRow_drewN rowAt_drew rowAt_drewN hasRow_alloc rowAt_alloc

/-- The call of the hash's maker, as one step of a region that draws. -/
theorem step_hash {ops : Array Oper} {o : Oper} {a : Act} {w : World} {K : Act → World → Prop} {Q : Exit → Act → World → Prop} {E : Prop}
    (hg : o.guard = none) (x : Operand) (hop : o.op = Op.call { callee := Callee.value (.func 7), args := #[x], argTypes := #[5] }) (k : Int) (hx : a.eval x = .int .u8 k)
    (hK : ∀ w', Below w.heap.size w w' → K (a.put o.dst (.agg (hc k).toArray)) w') : if Region.wanted o (yielded ops a.tmps) = true then Oper.wp Yba.prog o a w K Q else E := by
  have hw : Region.wanted o (yielded ops a.tmps) = true := by simp [Region.wanted, hg]
  rw [if_pos hw]
  have hrun : (execOp a.eval o).run Yba.prog w = .ok (.enter 7 #[.int .u8 k]) w := by
    have he : ∀ args w, (callFunc 7 args).run Yba.prog w = .ok (.enter 7 args) w := by
      intro args w
      have h1 : Yba.f7.name ≠ "runtime.NumGoroutine" := by simpa using (show (Yba.f7.name == "runtime.NumGoroutine") = false from by kernel_rfl)
      have h2 : ∃ c, Yba.f7.body = some c := ⟨_, rfl⟩
      obtain ⟨c, hc⟩ := h2
      simp [callFunc, Yba.func7, h1, hc, mark]
    have hf : a.eval (.func 7) = .func (.func 7) #[] #[] := rfl
    unfold execOp
    simp only [hop, resolve, List.map_toArray, List.map_cons, List.map_nil, hx, hf, Deferred.ofValue, Sem.run_bind, Sem.run_pure, Result.andThen_ok, invoke]
    simp [he]
  unfold Oper.wp
  rw [hrun]
  exact (hash_any k w).mono fun e w' ⟨he, hb⟩ => by subst he; exact hK w' hb

/-- The entries as they lie: three cells each. -/
def Lies (w : World) (b o : Nat) (es : List (Int × Int × Int)) : Prop := ∀ j e, es[j]? = some e → w.cell? ⟨b, o + j * 3, none⟩ = some (.int .u8 e.1) ∧ w.cell? ⟨b, o + j * 3 + 1, none⟩ = some (.int .i64 e.2.1) ∧ w.cell? ⟨b, o + j * 3 + 2, none⟩ = some (.int .i64 e.2.2)

/-- What is owned is a slice: nil, or from its row's head on. -/
theorem own_shape {w : World} {base n : Nat} {v : Value} {xs : List Value} (h : w.ownsRow base 45 34 v n xs) : ∃ (ao : Option Addr) (g cap : Nat), v = .slice ao n cap ∧ (0 < n → ao = some ⟨g, 0, none⟩) ∧ n ≤ maxLen := by
  obtain ⟨_, h | ⟨g, cap, cur, hv, _, _, h4, h5, _⟩⟩ := h
  · exact ⟨none, 0, 0, by rw [h.1, h.2], by omega, by omega⟩
  · exact ⟨_, g, cap, hv, fun _ => rfl, by omega⟩

theorem take_snoc {es : List (Int × Int × Int)} {j : Nat} {e : Int × Int × Int} (h : es[j]? = some e) : es.take (j + 1) = es.take j ++ [e] := by
  obtain ⟨hj, he⟩ := List.getElem?_eq_some_iff.1 h
  rw [List.take_succ_eq_append_getElem hj, he]

theorem behind_hash {wr w1 : World} {bit n : Nat} {v : Value} {xs : List Value} {ek ec en : Int} (c6 : wr.cell? ⟨bit, 6, none⟩ = some v) (f6 : wr.frozen? ⟨bit, 6, none⟩ = false) (HOW : Hid (wr.ownsRow (bit + 1) 45 34 v n xs)) (hbw : bit < wr.heap.size)
    (hb1 : Below (wr.alloc (.cells #[.int .u8 ek, .int .i64 ec, .int .i64 en] 28)).drew.heap.size (wr.alloc (.cells #[.int .u8 ek, .int .i64 ec, .int .i64 en] 28)).drew w1) :
    (wr.heap.size < w1.heap.size ∧ bit < w1.heap.size) ∧ w1.cell? ⟨wr.heap.size, 0, none⟩ = some (.int .u8 ek) ∧ w1.cell? ⟨wr.heap.size, 1, none⟩ = some (.int .i64 ec) ∧ w1.cell? ⟨wr.heap.size, 2, none⟩ = some (.int .i64 en) ∧ w1.cell? ⟨bit, 6, none⟩ = some v ∧ w1.frozen? ⟨bit, 6, none⟩ = false ∧ Hid (w1.ownsRow (bit + 1) 45 34 v n xs) := by
  have hs : (wr.alloc (.cells #[.int .u8 ek, .int .i64 ec, .int .i64 en] 28)).drew.heap.size = wr.heap.size + 1 := World.size_alloc wr _
  refine ⟨?_, ?_, ?_, ?_, ?_, ?_, ?_⟩
  · have := hb1.size; rw [hs] at this; omega
  · exact (hb1.cell (p := ⟨wr.heap.size, 0, none⟩) (by rw [hs]; simp)).trans (by simp [World.cell?_alloc_at])
  · exact (hb1.cell (p := ⟨wr.heap.size, 1, none⟩) (by rw [hs]; simp)).trans (by simp [World.cell?_alloc_at])
  · exact (hb1.cell (p := ⟨wr.heap.size, 2, none⟩) (by rw [hs]; simp)).trans (by simp [World.cell?_alloc_at])
  · exact (hb1.cell (p := ⟨bit, 6, none⟩) (by rw [hs]; simp; omega)).trans ((World.cell?_alloc_past _ _ _ hbw).trans c6)
  · exact (hb1.frozen (p := ⟨bit, 6, none⟩) (by rw [hs]; simp; omega)).trans ((World.frozen?_alloc_past _ _ _ hbw).trans f6)
  · refine World.ownsRow.kept (HOW.out.alloc (.cells #[.int .u8 ek, .int .i64 ec, .int .i64 en] 28)) (row := none) (w' := w1) ⟨hb1.os, hb1.tape, hb1.output, hb1.size, fun k hk _ => hb1.block k hk⟩ ?_
    cases h : v.ownBlock with
    | none => exact .inl rfl
    | some _ => exact .inr (by simp)
theorem behind_append {w1 w2 : World} {bit : Nat} {v : Value} {o : Obj} (s6 : w1.cell? ⟨bit, 6, none⟩ = some v) (t6 : w1.frozen? ⟨bit, 6, none⟩ = false) (hneb : Hid (some bit ≠ v.ownBlock)) (hgrow : (w1.alloc o).grownBy w2 v.ownBlock) :
    w2.cell? ⟨bit, 6, none⟩ = some v ∧ w2.frozen? ⟨bit, 6, none⟩ = false := by
  have hb : bit < w1.heap.size := World.block_lt_of_cell? w1 _ s6
  exact ⟨hgrow.cell ((World.cell?_alloc_past _ _ _ hb).trans s6) hneb.out, (World.frozen?_of_block (hgrow.block bit (by simp; omega) hneb.out)).trans ((World.frozen?_alloc_past _ _ _ hb).trans t6)⟩

theorem round_built {w wr w1 w2 : World} {v : Value} {es : List (Int × Int × Int)} {j g' cap' : Nat} {ek ec en : Int} {o : Obj} (hI : It wr w.heap.size v (es.take j)) (hB : Below w.heap.size w wr) (he : es[j]? = some (ek, ec, en)) (htl : (es.take j).length = j)
    (hb1 : Below (wr.alloc (.cells #[.int .u8 ek, .int .i64 ec, .int .i64 en] 28)).drew.heap.size (wr.alloc (.cells #[.int .u8 ek, .int .i64 ec, .int .i64 en] 28)).drew w1)
    (hown : w2.ownsRow (w.heap.size + 1) 45 34 (.slice (some ⟨g', 0, none⟩) (j + 1) cap') (j + 1) (flat (es.take j) ++ rc (ek, ec, en))) (hgrow : (w1.alloc o).grownBy w2 v.ownBlock) (q1 : w2.cell? ⟨w.heap.size, 6, none⟩ = some v) (q2 : w2.frozen? ⟨w.heap.size, 6, none⟩ = false) (hbw : w.heap.size < wr.heap.size) :
    It (w2.setCell ⟨w.heap.size, 6, none⟩ (.slice (some ⟨g', 0, none⟩) (j + 1) cap')) w.heap.size (.slice (some ⟨g', 0, none⟩) (j + 1) cap') (es.take (j + 1)) ∧ Below w.heap.size w (w2.setCell ⟨w.heap.size, 6, none⟩ (.slice (some ⟨g', 0, none⟩) (j + 1) cap')) := by
  have hs : (wr.alloc (.cells #[.int .u8 ek, .int .i64 ec, .int .i64 en] 28)).drew.heap.size = wr.heap.size + 1 := World.size_alloc wr _
  refine ⟨⟨World.cell?_setCell_same _ _ _ q1, (World.frozen?_setCell _ _ _ _).trans q2, ?_⟩, ?_⟩
  · have := ownsRow_setCell_below hown (a := ⟨w.heap.size, 6, none⟩) (by simp) (.slice (some ⟨g', 0, none⟩) (j + 1) cap')
    rw [take_snoc he, flat_snoc, List.length_append, htl]
    exact this
  · refine Below.setCell (Below.grown (w := w1.alloc o) ?_ hgrow ?_ (fun r hr => by have := (hI.own.lt r hr).1; omega)) (by simp) _
    · refine Below.alloc ((hB.alloc hB.size _).drew.trans (hb1.mono (by rw [hs]; omega))) ?_ _
      have := hb1.size; rw [hs] at this; omega
    · have := hb1.size; rw [hs] at this; simp; omega

set_option maxRecDepth 100000 in
set_option maxHeartbeats 8000000 in
theorem build_any (ao : Option Addr) (b o len cap : Nat) (es : List (Int × Int × Int)) (w : World) (hlen : es.length = len) (hl : len ≤ 1024) (hao : Hid (0 < len → ao = some ⟨b, o, none⟩)) (hb : 0 < len → b < w.heap.size) (hL : Lies w b o es) :
    Calls Yba.prog 6 #[.slice ao len cap] w fun e w' => ∃ v, e = .returned (.pointer (some ⟨w.heap.size, 0, none⟩)) ∧ It w' w.heap.size v es ∧ Below w.heap.size w w' := by
  have HLE := hide hlen
  have HLI := hide hL
  clear hlen hL
  obtain ⟨i0, z0, hi, hz0, hz1, hz2, hz3⟩ := info45
  go_enter Yba.func6, Yba.ntmps6
  go_wp2
  go_loopw [10] (fun ix wr => ∃ (j : Nat) (v : Value), j ≤ len ∧ ix = .int .i64 j ∧ It wr w.heap.size v (es.take j) ∧ Below w.heap.size w wr) (fun ix _ => len - (intOf ix).toNat)
  case atStart => exact ⟨0, .slice none 0 0, Nat.zero_le _, rfl, ⟨by go_simp, by go_simp, World.ownsRow_nil _ _ _ _⟩, (Below.refl _ _).alloc (Nat.le_refl _) _⟩
  case round =>
    obtain ⟨j, v, hj, rfl, hI, hB⟩ := hrel
    have HI := hide hI
    have HB := hide hB
    by_cases hjl : j < len
    · obtain rfl := hao.out (by omega)
      have hb' := hb (by omega)
      obtain ⟨⟨ek, ec, en⟩, hej⟩ : ∃ e, es[j]? = some e := ⟨_, List.getElem?_eq_getElem (by have := HLE.out; omega)⟩
      have HEJ := hide hej
      obtain ⟨d0, d1, d2⟩ := HLI.out j _ hej
      have e0 : wr.cell? ⟨b, o + j * 3, none⟩ = some (.int .u8 ek) := (hB.cell (p := ⟨b, o + j * 3, none⟩) hb').trans d0
      have e1 : wr.cell? ⟨b, o + j * 3 + 1, none⟩ = some (.int .i64 ec) := (hB.cell (p := ⟨b, o + j * 3 + 1, none⟩) hb').trans d1
      have e2 : wr.cell? ⟨b, o + j * 3 + 2, none⟩ = some (.int .i64 en) := (hB.cell (p := ⟨b, o + j * 3 + 2, none⟩) hb').trans d2
      obtain ⟨vo, g, vcap, hv, hvo, _⟩ := own_shape hI.own
      have htl : (es.take j).length = j := by rw [List.length_take]; have := HLE.out; omega
      rw [htl] at hv hvo
      have c6 := hI.cell
      have f6 := hI.free
      have hbw : w.heap.size < wr.heap.size := World.block_lt_of_cell? wr _ c6
      have HOW : Hid (wr.ownsRow (w.heap.size + 1) 45 34 v j (flat (es.take j))) := by have := hI.own; rw [htl] at this; exact this
      have hneb : Hid (some w.heap.size ≠ v.ownBlock) := fun he => by have := (hI.own.lt _ he.symm).1; omega
      clear hI hB hej d0 d1 d2 hv hvo
      go_wp2
      go_region_law (first | (refine step_hash rfl _ rfl ek rfl ?_; intro w1 hb1; obtain ⟨⟨z1, z2⟩, s0, s1, s2, s6, t6, ho1⟩ := behind_hash c6 f6 HOW hbw hb1) | (refine step_append_lies _ rfl _ _ 41 rfl (w.heap.size + 1) 45 i0 z0 34 48 Yba.underlying41 hi hz0 hz1 hz2 hz3 (by decide) v j (flat (es.take j)) rfl (ho1.out.alloc _) ⟨w1.heap.size, 0, none⟩ 1 1 (rc (ek, ec, en)) rfl (by rw [rc_length]) (fun j u hj => by rw [Addr.add_mid, Nat.zero_add]; exact (World.cell?_alloc_at _ _ _ _ rfl).trans (by simpa using hj)) (rc_one _) (by decide) (by unfold maxLen; omega) (by omega) (by simp; omega) _ rfl ?_; intro g' cap' w2 hown hgrow hat hlt; obtain ⟨q1, q2⟩ := behind_append s6 t6 hneb hgrow))
      all_goals
        have R := round_built (cap' := cap') HI.out HB.out HEJ.out htl hb1 hown hgrow q1 q2 hbw
        clear hown hgrow hb1 ho1 s0 s1 s2 s6 t6 q1 q2
        go_wp2
        go_roundw
        case rel => exact ⟨j + 1, _, by omega, by go_num, R.1, R.2⟩
        case measure => simp [intOf]; omega
    · obtain rfl : len = j := by omega
      have ht : es.take len = es := by rw [List.take_of_length_le (by have := HLE.out; omega)]
      rw [ht] at hI
      go_wp2
      go_ret
      exact ⟨v, rfl, hI, hB⟩

end Go.Proofs.Ybulkcwfo
