/-
  (*decoder).keyLayout.
-/
import Derived.Test.YbulkcwlmDoorU16
namespace Go.Proofs.YbulkcwlmDoor
open Go.RowKit

theorem res5 {fn : Func} {t u v x y : Tmp} (h : fn.results = #[.tmp t, .tmp u, .tmp v, .tmp x, .tmp y]) (tmps : Array Value) (P : Program) (w : World) :
    (results fn tmps).run P w = .ok (.tuple #[tmps.getD t undef, tmps.getD u undef, tmps.getD v undef, tmps.getD x undef, tmps.getD y undef]) w := by
  simp [results, h]

set_option maxHeartbeats 1000000 in
theorem key_no (bd o e : Nat) (a : Addr) (w : World) (hb1 : w.cell? ⟨bd, 1, none⟩ = some (.int .i64 o)) (hg : w.cell? ⟨0, 0, none⟩ = some (.iface 43 (.pointer (some a)))) (ho : o ≤ 1024) (he : e ≤ 1024) (hlt : e < o + 4) :
    Calls Ybad.prog 5 #[.pointer (some ⟨bd, 0, none⟩), .int .i64 e] w fun r w' => r = .returned (.tuple #[.int .u16 0, .int .u8 0, .int .u8 0, .slice none 0 0, .iface 43 (.pointer (some a))]) ∧ ∃ q, w' = w.drewN q := by
  go_enter Ybad.func5, Ybad.ntmps5
  go_wp2
  go_quiet (fail)
  go_wp2
  try simp only [Exit.inBlock, Exit.then]
  refine bodyPost_ret (res5 rfl _ _ _) rfl ?_
  exact ⟨by simp, _, rfl⟩

theorem step_copy {ops : Array Oper} {o : Oper} {a : Act} {w : World} {K : Act → World → Prop} {Q : Exit → Act → World → Prop} {E : Prop} (hg : o.guard = none) (s x : Operand)
    (hop : o.op = Op.call { callee := Callee.builtin Builtin.append, args := #[s, x], argTypes := #[22, 22] }) (hs : a.eval s = .slice none 0 0) (ao : Option Addr) (m c b off : Nat) (f : Nat → Int) (hx : a.eval x = .slice ao m c)
    (hao : 0 < m → ao = some ⟨b, off, none⟩) (hz : ∀ i, i < m → w.cell? ⟨b, off + i, none⟩ = some (.int .u8 (f i))) (hm : m ≤ 1024) (hK : ∀ v w1, Cop w w1 v m f → K (a.put o.dst v) w1) :
    if Region.wanted o (yielded ops a.tmps) = true then Oper.wp Ybad.prog o a w K Q else E := by
  have hw : Region.wanted o (yielded ops a.tmps) = true := by simp [Region.wanted, hg]
  rw [if_pos hw]
  obtain ⟨v, w1, hr, hc⟩ := run_copy w o.type ao m c b off f hao hz hm
  unfold Oper.wp
  simp [execOp, hop, resolve, invoke, builtin, hs, hx, hr, Result.andThen]
  exact hK v w1 hc

theorem Cop.cell {w w1 : World} {v : Value} {m : Nat} {f : Nat → Int} (h : Cop w w1 v m f) (b o : Nat) (hb : b < w.heap.size) : w1.cell? ⟨b, o, none⟩ = w.cell? ⟨b, o, none⟩ := by
  rcases h with ⟨_, _, rfl⟩ | ⟨_, cap, A, _, _, _, rfl, _⟩
  · rfl
  · rw [World.cell?_alloc_past _ _ _ (by simpa using hb)]; rfl
theorem Cop.frozen {w w1 : World} {v : Value} {m : Nat} {f : Nat → Int} (h : Cop w w1 v m f) (b o : Nat) (hb : b < w.heap.size) : w1.frozen? ⟨b, o, none⟩ = w.frozen? ⟨b, o, none⟩ := by
  rcases h with ⟨_, _, rfl⟩ | ⟨_, cap, A, _, _, _, rfl, _⟩
  · rfl
  · rw [World.frozen?_alloc_past _ _ _ (by simpa using hb)]; rfl

theorem size5 (w : World) : (sizeOf (Ybad.prog.elem 22)).run Ybad.prog w = .ok 1 w := by
  obtain ⟨i, hi, h0, h1, h2⟩ := info_parts info5
  have he : Ybad.prog.elem 22 = 5 := by kernel_rfl
  rw [he]
  simp [sizeOf, typeInfo, hi, h1]
theorem run_sub (g n cap o e : Nat) (hoe : o + 4 ≤ e) (hec : e ≤ cap) : ∃ ao : Option Addr, (0 < e - (o + 4) → ao = some ⟨g, o + 4, none⟩) ∧
    ∀ w, (Instr.slice 22 (.slice (some ⟨g, 0, none⟩) n cap) (some (.int .i64 ((o : Int) + 2 + 2))) (some (.int .i64 (e : Int))) none).run Ybad.prog w = .ok (.slice ao (e - (o + 4)) (cap - (o + 4))) w := by
  have he : Ybad.prog.underlying 22 = some (.slice (Ybad.prog.elem 22)) := by
    rw [show Ybad.prog.elem 22 = 5 by kernel_rfl]; exact Ybad.underlying22
  refine ⟨if cap = o + 4 then some ⟨g, 0, none⟩ else some ⟨g, o + 4, none⟩, fun h => by rw [if_neg (by omega)], fun w => ?_⟩
  rw [run_slice_lh w 22 _ n cap he .i64 .i64 _ _ (by omega) (by omega) (by omega), size5]
  have e1 : ((o : Int) + 2 + 2).toNat = o + 4 := by omega
  simp [Result.andThen, sliced, e1, Addr.add_mid]

set_option maxHeartbeats 2000000 in
theorem key_ok (bd g n cap o e : Nat) (f : Nat → Int) (w : World) (hb0 : w.cell? ⟨bd, 0, none⟩ = some (.slice (some ⟨g, 0, none⟩) n cap)) (hb1 : w.cell? ⟨bd, 1, none⟩ = some (.int .i64 o)) (hf : w.frozen? ⟨bd, 1, none⟩ = false)
    (hoe : o + 4 ≤ e) (hen : e ≤ n) (hn : n ≤ 1024) (hnc : n ≤ cap) (hz : ∀ i, i < n → w.cell? ⟨g, i, none⟩ = some (.int .u8 (f i))) (hzb : ∀ i, i < n → 0 ≤ f i ∧ f i ≤ 255) (hgb : g ≠ bd) :
    Calls Ybad.prog 5 #[.pointer (some ⟨bd, 0, none⟩), .int .i64 e] w fun r w' => ∃ v q1 q2 w1, r = .returned (.tuple #[.int .u16 (f o * 256 + f (o + 1)), .int .u8 (f (o + 2)), .int .u8 (f (o + 3)), v, .nilIface]) ∧
      Cop (((w.drewN q1).setCell ⟨bd, 1, none⟩ (.int .i64 (o + 2))).drewN q2) w1 v (e - (o + 4)) (fun i => f (o + 4 + i)) ∧ w' = w1.setCell ⟨bd, 1, none⟩ (.int .i64 e) := by
  have HZ := hide hz
  have HB := hide hzb
  have hbl : bd < w.heap.size := World.block_lt_of_cell? w _ hb1
  have x0 := hz o (by omega)
  have x1 := hz (o + 1) (by omega)
  have x2 := hz (o + 2) (by omega)
  have x3 := hz (o + 3) (by omega)
  have b0 := hzb o (by omega)
  have b1 := hzb (o + 1) (by omega)
  clear hz hzb
  generalize hf0 : f o = y0 at x0 b0
  generalize hf1 : f (o + 1) = y1 at x1 b1
  generalize f (o + 2) = y2 at x2
  generalize f (o + 3) = y3 at x3
  clear hf0 hf1
  obtain ⟨b00, b01⟩ := b0
  obtain ⟨b10, b11⟩ := b1
  obtain ⟨ao, hao, hsl⟩ := run_sub g n cap o e hoe (by omega)
  have HAO := hide hao
  clear hao
  have hwr : IntKind.i64.wrap ((o : Int) + 2 + 2) = (o : Int) + 2 + 2 := by rw [IntKind.wrap_i64]; omega
  have hslA : ∀ w, (Instr.sliceAt 22 (.slice (some ⟨g, 0, none⟩) n cap) (some (.int .i64 ((o : Int) + 2 + 2))) (some (.int .i64 (e : Int))) none).run Ybad.prog w = .ok (.slice ao (e - (o + 4)) (cap - (o + 4))) w := fun w => by
    simp only [Instr.sliceAt, Sem.run_bind, run_underlying Ybad.underlying22, Result.andThen_ok]
    exact hsl w
  go_enter Ybad.func5, Ybad.ntmps5
  go_wp2_with (go_at_call 6; refine (u16_any bd g n cap o y0 y1 _ hb0 hb1 hf (by omega) hn x0 x1 b00 b01 b10 b11).mono ?_; rintro r w' ⟨rfl, q, rfl⟩)
  go_quiet (fail)
  go_wp2
  have HX : Hid (∀ i, i < e - (o + 4) → (((w.drewN q).setCell ⟨bd, 1, none⟩ (.int .i64 (o + 2))).drewN nq).drew.cell? ⟨g, o + 4 + i, none⟩ = some (.int .u8 (f (o + 4 + i)))) := by
    intro i hi
    have h1 : (((w.drewN q).setCell ⟨bd, 1, none⟩ (.int .i64 (o + 2))).drewN nq).drew.cell? ⟨g, o + 4 + i, none⟩ = ((w.drewN q).setCell ⟨bd, 1, none⟩ (.int .i64 (o + 2))).cell? ⟨g, o + 4 + i, none⟩ := rfl
    rw [h1, World.cell?_setCell_other _ _ _ _ (by intro e; injection e with e1; exact hgb e1.symm)]
    exact HZ.out _ (by omega)
  have hd0 : (((w.drewN q).setCell ⟨bd, 1, none⟩ (.int .i64 (o + 2))).drewN nq).drew.cell? ⟨bd, 0, none⟩ = some (.slice (some ⟨g, 0, none⟩) n cap) := by
    have h1 : (((w.drewN q).setCell ⟨bd, 1, none⟩ (.int .i64 (o + 2))).drewN nq).drew.cell? ⟨bd, 0, none⟩ = ((w.drewN q).setCell ⟨bd, 1, none⟩ (.int .i64 (o + 2))).cell? ⟨bd, 0, none⟩ := rfl
    rw [h1, World.cell?_setCell_other _ _ _ _ (by intro e; cases e)]
    exact hb0
  have hd1 : (((w.drewN q).setCell ⟨bd, 1, none⟩ (.int .i64 (o + 2))).drewN nq).drew.cell? ⟨bd, 1, none⟩ = some (.int .i64 (o + 2)) := by
    have h1 : (((w.drewN q).setCell ⟨bd, 1, none⟩ (.int .i64 (o + 2))).drewN nq).drew.cell? ⟨bd, 1, none⟩ = ((w.drewN q).setCell ⟨bd, 1, none⟩ (.int .i64 (o + 2))).cell? ⟨bd, 1, none⟩ := rfl
    rw [h1]
    exact World.cell?_setCell_same _ _ _ (by rw [show (w.drewN q).cell? ⟨bd, 1, none⟩ = _ from hb1])
  have hd2 : (((w.drewN q).setCell ⟨bd, 1, none⟩ (.int .i64 (o + 2))).drewN nq).drew.frozen? ⟨bd, 1, none⟩ = false := by
    have h1 : (((w.drewN q).setCell ⟨bd, 1, none⟩ (.int .i64 (o + 2))).drewN nq).drew.frozen? ⟨bd, 1, none⟩ = ((w.drewN q).setCell ⟨bd, 1, none⟩ (.int .i64 (o + 2))).frozen? ⟨bd, 1, none⟩ := rfl
    rw [h1, World.frozen?_setCell]
    exact hf
  have hsz : bd < (((w.drewN q).setCell ⟨bd, 1, none⟩ (.int .i64 (o + 2))).drewN nq).drew.heap.size := World.block_lt_of_cell? _ _ hd1
  have HD0 := hide hd0
  have HD1 := hide hd1
  have HD2 := hide hd2
  have HS := hide hsz
  clear hsz hd2
  go_region_held3 (fun w' => w'.cell? ⟨bd, 0, none⟩ = some (.slice (some ⟨g, 0, none⟩) n cap) ∧ w'.cell? ⟨bd, 1, none⟩ = some (.int .i64 (o + 2))) (first | exact ⟨HD0.out, HD1.out⟩ | exact ⟨c0, c1⟩ | go_keep)
    (first | (refine step_copy rfl _ _ rfl rfl _ (e - (o + 4)) _ g (o + 4) (fun i => f (o + 4 + i)) rfl HAO.out HX.out (by omega) ?_; intro v w1 hc; have HC := hide hc; have c0 := (hc.cell bd 0 HS.out).trans HD0.out; have c1 := (hc.cell bd 1 HS.out).trans HD1.out; have f1 := (hc.frozen bd 1 HS.out).trans HD2.out; clear hc))
  go_wp2
  try simp only [Exit.inBlock, Exit.then]
  refine bodyPost_ret (res5 rfl _ _ _) rfl ?_
  exact ⟨v, q, nq + 1, w1, by simp, HC.out, rfl⟩
end Go.Proofs.YbulkcwlmDoor
