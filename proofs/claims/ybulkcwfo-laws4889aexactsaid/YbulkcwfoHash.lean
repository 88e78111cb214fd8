/-
  zzs4889ahash.
-/
import Derived.Test.YbulkcwfoProg
import Derived.WalkKit
import Derived.Below
import Derived.Deep.MidRow
import Derived.Laws.CopyOwn
namespace Go.Proofs.Ybulkcwfo
open Go.RowKit

theorem hide {p : Prop} (h : p) : Hid p := h

/-- The 32 cells of the hash of a key. -/
def hc (k : Int) : List Value := .int .u8 k :: (List.replicate 30 (.int .u8 0) ++ [.int .u8 (bits .xor .u8 k 90)])
theorem hc_length (k : Int) : (hc k).length = 32 := by simp [hc]
theorem hc_one (k : Int) : ∀ v ∈ hc k, v.oneCell' = true := by
  intro v hv
  simp [hc] at hv
  rcases hv with rfl | rfl | rfl <;> rfl

/-- The zero hash's cells. -/
def z32 : Array Value := (List.replicate 32 (Value.int .u8 0)).toArray
theorem z32_size : z32.size = 32 := by simp [z32]
theorem z32_get0 : z32[0]? = some (.int .u8 0) := rfl
theorem z32_get31 : z32[31]? = some (.int .u8 0) := rfl
theorem z32_set (k : Int) : (z32.setIfInBounds 0 (.int .u8 k)).setIfInBounds 31 (.int .u8 (bits .xor .u8 k 90)) = (hc k).toArray := rfl

theorem run_alloc30 (w : World) : (Instr.alloc 30 true (.tuple #[])).run Yba.prog w = .ok (.pointer (some ⟨w.heap.size, 0, none⟩)) (w.alloc (.cells z32 30)) := by kernel_rfl

theorem wpList_alloc {P : Program} {w : World} {ops : Array Oper} {rest : List Oper} {o : Oper} {a : Act} {Q : Exit → Act → World → Prop}
    (hg : o.guard = none) (T : TypeId) (ho : o.op = .alloc T) (Z : Array Value) (hZ : ∀ w, (Instr.alloc T true (.tuple #[])).run P w = .ok (.pointer (some ⟨w.heap.size, 0, none⟩)) (w.alloc (.cells Z T)))
    (h : wpList P ops Q rest (a.put o.dst (.pointer (some ⟨w.heap.size, 0, none⟩))) (w.alloc (.cells Z T))) : wpList P ops Q (o :: rest) a w := by
  refine wpList_plain hg fun K hK' => ?_
  unfold Oper.wp execOp
  simp only [ho, Sem.run_bind, hZ, Result.andThen_ok]
  exact hK' _ _ h

set_option maxRecDepth 100000 in
set_option maxHeartbeats 1000000 in
theorem hash_any (k : Int) (w : World) :
    Calls Yba.prog 7 #[.int .u8 k] w fun e w' => e = .returned (.agg (hc k).toArray) ∧ Below w.heap.size w w' := by
  obtain ⟨Z, hZ⟩ : ∃ Z, Z = z32 := ⟨_, rfl⟩
  have hs : Z.size = 32 := by rw [hZ]; exact z32_size
  have g0 : Z[0]? = some (.int .u8 0) := by rw [hZ]; exact z32_get0
  have g31 : Z[31]? = some (.int .u8 0) := by rw [hZ]; exact z32_get31
  have hr := run_alloc30
  have hcs : ((Z.setIfInBounds 0 (.int .u8 k)).setIfInBounds 31 (.int .u8 (bits .xor .u8 k 90))) = (hc k).toArray := by rw [hZ]; exact z32_set k
  rw [← hZ] at hr
  have HR := hide hr
  have HCS := hide hcs
  have HG1 : Hid (((w.alloc (.cells Z 30)).alloc (.cells ((Z.setIfInBounds 0 (.int .u8 k)).setIfInBounds 31 (.int .u8 (bits .xor .u8 k 90))) 30)).heap[w.heap.size + 1]? = some (.cells ((Z.setIfInBounds 0 (.int .u8 k)).setIfInBounds 31 (.int .u8 (bits .xor .u8 k 90))) 30 (0, 0))) := by
    have := heap_alloc_new (w.alloc (.cells Z 30)) (.cells ((Z.setIfInBounds 0 (.int .u8 k)).setIfInBounds 31 (.int .u8 (bits .xor .u8 k 90))) 30)
    refine hide ?_
    simpa using this
  have HG0 : Hid (((w.alloc (.cells Z 30)).alloc (.cells ((Z.setIfInBounds 0 (.int .u8 k)).setIfInBounds 31 (.int .u8 (bits .xor .u8 k 90))) 30)).heap[w.heap.size]? = some (.cells Z 30 (0, 0))) :=
    (Below.heap_alloc _ _ _ (by simp)).trans (heap_alloc_new _ _)
  have HSZ : Hid ((Yba.prog.info? 30).map (·.size) = some ((Z.setIfInBounds 0 (.int .u8 k)).setIfInBounds 31 (.int .u8 (bits .xor .u8 k 90))).size) := by
    rw [show ((Z.setIfInBounds 0 (.int .u8 k)).setIfInBounds 31 (.int .u8 (bits .xor .u8 k 90))).size = 32 from by simp [hs]]; exact (show (Yba.prog.info? 30).map (·.size) = some 32 from by kernel_rfl)
  have HS2 : Hid (Z.size = ((Z.setIfInBounds 0 (.int .u8 k)).setIfInBounds 31 (.int .u8 (bits .xor .u8 k 90))).size) := hide (by simp)
  have HONE : Hid (((Z.setIfInBounds 0 (.int .u8 k)).setIfInBounds 31 (.int .u8 (bits .xor .u8 k 90))).all (·.oneCell') = true) := by rw [hcs]; exact all_oneCell_toArray (hc_one k)
  clear hr hZ hcs
  go_enter Yba.func7, Yba.ntmps7
  go_wp2_with (first | (refine wpList_alloc rfl 30 rfl Z HR.out ?_) | (refine wpList_load_row rfl 30 _ rfl (w.heap.size + 1) rfl 30 ((Z.setIfInBounds 0 (.int .u8 k)).setIfInBounds 31 (.int .u8 (bits .xor .u8 k 90))) (0, 0) (.array 32 5) HG1.out Yba.underlying30 rfl HSZ.out ?_) | (refine wpList_store_row rfl 30 _ _ rfl w.heap.size ((Z.setIfInBounds 0 (.int .u8 k)).setIfInBounds 31 (.int .u8 (bits .xor .u8 k 90))) rfl rfl 30 Z HG0.out HSZ.out HS2.out HONE.out ?_))
  refine bodyPost_ret (v := .agg ((Z.setIfInBounds 0 (.int .u8 k)).setIfInBounds 31 (.int .u8 (bits .xor .u8 k 90)))) (results_cell_row (by rfl) _ _ w.heap.size 30 ((Z.setIfInBounds 0 (.int .u8 k)).setIfInBounds 31 (.int .u8 (bits .xor .u8 k 90))) (0, 0) (.array 32 5) rfl (setRow_heap _ _ _ _ _ _ HG0.out) Yba.underlying30 rfl HSZ.out) rfl ⟨by rw [HCS.out], below_setRow (((Below.refl _ _).alloc (Nat.le_refl _) _).alloc (by simp) _) (Nat.le_refl _) _⟩

end Go.Proofs.Ybulkcwfo
