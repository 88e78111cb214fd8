/-
  zzs4886abuild.
-/
import Derived.Test.YbulkcwdyMem
import Derived.Lib.SlicesCompact
import Derived.Deep.RegionHeld3
import Derived.Carry
namespace Go.Proofs.Ybulkcwdy
open Go.RowKit Go.ChangeMaps

def sortd (zs : List Int) : List Int := zs.mergeSort fun x y => decide (x ≤ y)
def SortC : Prop := ∀ (b cap : Nat) (zs : List Int) (rest : List Value) (w : World), Row w b 3 (zs.map (Value.int .i64) ++ rest) → zs.length ≤ 1048576 →
  Calls Yba.prog 9 #[.slice (some ⟨b, 0, none⟩) zs.length cap] w fun e w' => e = .returned (.tuple #[]) ∧ Row w' b 3 ((sortd zs).map (Value.int .i64) ++ rest) ∧ Spare (One b) w w'
def CompactC : Prop := ∀ (b cap : Nat) (zs : List Int) (rest : List Value) (w : World), Row w b 3 (zs.map (Value.int .i64) ++ rest) → zs.length ≤ 1048576 → zs.length ≤ cap →
  Calls Yba.prog 13 #[.slice (some ⟨b, 0, none⟩) zs.length cap] w fun e w' => e = .returned (.slice (some ⟨b, 0, none⟩) (Lib.compact zs).length cap) ∧ (∃ rest', Row w' b 3 ((Lib.compact zs).map (Value.int .i64) ++ rest')) ∧ Spare (One b) w w'

theorem info3 : (Yba.prog.info? 3).map (fun i => (i.zero, i.size, i.bytes)) = some (some (.int .i64 0), 1, 8) := by kernel_rfl
theorem info34 : (Yba.prog.info? 34).map (fun i => (i.zero, i.size, i.bytes)) = some (some (.pointer none), 1, 8) := by kernel_rfl
theorem info9 : (Yba.prog.info? 9).map (fun i => (i.zero, i.size, i.bytes)) = some (some (.string ⟨#[]⟩), 1, 16) := by kernel_rfl
theorem info22 : (Yba.prog.info? 22).map (fun i => (i.zero, i.size, i.bytes)) = some (some (.slice none 0 0), 1, 24) := by kernel_rfl
theorem size3 : (Yba.prog.info? 3).map (·.size) = some 1 := by kernel_rfl

/-- A set: its box, its row. -/
def PSet (w : World) (pb rb : Nat) (ys : List Int) : Prop := ∃ cap rest, Row w pb 41 [.slice (some ⟨rb, 0, none⟩) ys.length cap] ∧ Row w rb 3 (ys.map (Value.int .i64) ++ rest)
theorem PSet.spare {S : Nat → Prop} {w w' : World} {pb rb : Nat} {ys : List Int} (h : PSet w pb rb ys) (hs : Spare S w w') (h1 : ¬ S pb) (h2 : ¬ S rb) : PSet w' pb rb ys := by
  obtain ⟨cap, rest, r1, r2⟩ := h
  exact ⟨cap, rest, r1.spare hs h1, r2.spare hs h2⟩

/-- The key of set i. -/
def kb (i : Nat) : ByteArray := ⟨#[UInt8.ofNat i, 0]⟩
def kv (i : Nat) : Value := .string (kb i)

structure Built (w : World) (B i N : Nat) (pl : Nat → List Int) (mb smb psb ksb osb : Nat) (pb rb ob : Nat → Nat) : Prop where
  o1 : B ≤ smb ∧ smb < mb ∧ mb < psb ∧ psb < ksb ∧ ksb < osb
  o2 : ∀ j, j < i → osb < rb j ∧ rb j < ob j ∧ ob j < pb j
  o3 : ∀ j k, j < k → k < i → pb j < rb k
  box : Row w mb 39 [.map (some smb), .pointer none, .map none, .slice none 0 0, .slice none 0 0]
  map : Mp w smb (ents kv (fun j => .pointer (some ⟨pb j, 0, none⟩)) i) i
  ps : Row w psb 34 ((List.range i).map (fun j => .pointer (some ⟨pb j, 0, none⟩)) ++ List.replicate (N - i) (.pointer none))
  ks : Row w ksb 9 ((List.range i).map kv ++ List.replicate (N - i) (.string ⟨#[]⟩))
  os : Row w osb 22 ((List.range i).map (fun j => .slice (some ⟨ob j, 0, none⟩) (pl j).length (pl j).length) ++ List.replicate (N - i) (.slice none 0 0))
  sets : ∀ j, j < i → PSet w (pb j) (rb j) (pl j)
  olds : ∀ j, j < i → Row w (ob j) 3 ((pl j).map (Value.int .i64))

theorem Built.spare {w w' : World} {B i N : Nat} {pl : Nat → List Int} {mb smb psb ksb osb : Nat} {pb rb ob : Nat → Nat} (h : Built w B i N pl mb smb psb ksb osb pb rb ob) (hs : Spare Non w w') : Built w' B i N pl mb smb psb ksb osb pb rb ob :=
  ⟨h.o1, h.o2, h.o3, h.box.spare hs id, h.map.spare hs id, h.ps.spare hs id, h.ks.spare hs id, h.os.spare hs id, fun j hj => (h.sets j hj).spare hs id id, fun j hj => (h.olds j hj).spare hs id⟩

theorem built0 {w w1 w2 w3 : World} {N psb ksb osb : Nat} (pl : Nat → List Int) (h1 : psb = ((w.alloc (.map #[] 0)).alloc (.cells #[.map (some w.heap.size), .pointer none, .map none, .slice none 0 0, .slice none 0 0] 39)).heap.size) (h2 : ksb = w1.heap.size) (h3 : osb = w2.heap.size)
    (R1 : Row w1 psb 34 (List.replicate N (.pointer none))) (S1 : Spare Non ((w.alloc (.map #[] 0)).alloc (.cells #[.map (some w.heap.size), .pointer none, .map none, .slice none 0 0, .slice none 0 0] 39)) w1)
    (R2 : Row w2 ksb 9 (List.replicate N (.string ⟨#[]⟩))) (S2 : Spare Non w1 w2) (R3 : Row w3 osb 22 (List.replicate N (.slice none 0 0))) (S3 : Spare Non w2 w3) :
    Built w3 w.heap.size 0 N pl (w.heap.size + 1) w.heap.size psb ksb osb (fun _ => 0) (fun _ => 0) (fun _ => 0) ∧ Spare Non w w3 := by
  have e1 : ((w.alloc (.map #[] 0)).alloc (.cells #[.map (some w.heap.size), .pointer none, .map none, .slice none 0 0, .slice none 0 0] 39)).heap.size = w.heap.size + 2 := by simp
  have l1 := R1.lt
  have l2 := R2.lt
  have s3 := (S1.off S2).off S3
  refine ⟨⟨⟨Nat.le_refl _, by omega, by omega, by omega, by omega⟩, fun j hj => by omega, fun j k _ hk => by omega, ?_, ?_, ?_, ?_, ?_, fun j hj => by omega, fun j hj => by omega⟩, ?_⟩
  · refine Row.spare (w := (w.alloc (.map #[] 0)).alloc (.cells #[.map (some w.heap.size), .pointer none, .map none, .slice none 0 0, .slice none 0 0] 39)) ?_ s3 id
    have := Row.alloc (w.alloc (.map #[] 0)) 39 [.map (some w.heap.size), .pointer none, .map none, .slice none 0 0, .slice none 0 0]
    simpa using this
  · refine Mp.spare (w := w.alloc (.map #[] 0)) ?_ ((Spare.alloc Non _ (.cells #[.map (some w.heap.size), .pointer none, .map none, .slice none 0 0, .slice none 0 0] 39)).off s3) id
    exact (MapKept.heap_alloc w _).1
  · exact (R1.spare (S2.off S3) id)
  · exact (R2.spare S3 id)
  · exact R3
  · exact ((Spare.alloc Non w (.map #[] 0)).off (Spare.alloc Non _ _)).off s3

def upd (f : Nat → Nat) (i v j : Nat) : Nat := if j = i then v else f j
theorem upd_lt {f : Nat → Nat} {i v j : Nat} (h : j < i) : upd f i v j = f j := by simp [upd, Nat.ne_of_lt h]
theorem upd_at (f : Nat → Nat) (i v : Nat) : upd f i v i = v := by simp [upd]
theorem range_upd {α : Type} (g : Nat → α) (g' : Nat → α) (i : Nat) (h : ∀ j, j < i → g' j = g j) : (List.range (i + 1)).map g' = (List.range i).map g ++ [g' i] := by
  rw [List.range_succ, List.map_append]
  congr 1
  exact List.map_congr_left fun j hj => h j (by simpa using hj)
theorem set_rep {α : Type} (xs : List α) (i N : Nat) (z v : α) (hx : xs.length = i) (hi : i < N) : (xs ++ List.replicate (N - i) z).set i v = (xs ++ [v]) ++ List.replicate (N - (i + 1)) z := by
  subst hx
  rw [List.set_append_right _ _ (Nat.le_refl _), Nat.sub_self, show N - xs.length = (N - (xs.length + 1)) + 1 by omega, List.replicate_succ, List.set_cons_zero]
  simp

theorem built_round {wr w7 w8 w9 w10 w11 : World} {B i N : Nat} {pl : Nat → List Int} {mb smb psb ksb osb : Nat} {pb rb ob : Nat → Nat} {b1 b2 b3 cap : Nat} {rest : List Value} (h : Built wr B i N pl mb smb psb ksb osb pb rb ob) (hi : i < N) (s7 : Spare Non wr w7)
    (hb : wr.heap.size ≤ b1 ∧ b1 < b2 ∧ b2 < b3) (r1 : Row w7 b1 3 ((pl i).map (Value.int .i64) ++ rest)) (r2 : Row w7 b2 3 ((pl i).map (Value.int .i64))) (r3 : Row w7 b3 41 [.slice (some ⟨b1, 0, none⟩) (pl i).length cap])
    (m8 : Mp w8 smb (ents kv (fun j => .pointer (some ⟨pb j, 0, none⟩)) i ++ [{ key := kv i, val := .pointer (some ⟨b3, 0, none⟩), born := i }]) (i + 1)) (s8 : Spare (One smb) w7 w8)
    (r9 : Row w9 psb 34 (((List.range i).map (fun j => Value.pointer (some ⟨pb j, 0, none⟩)) ++ List.replicate (N - i) (Value.pointer none)).set i (Value.pointer (some ⟨b3, 0, none⟩)))) (s9 : Spare (One psb) w8 w9)
    (r10 : Row w10 ksb 9 (((List.range i).map kv ++ List.replicate (N - i) (Value.string ⟨#[]⟩)).set i (kv i))) (s10 : Spare (One ksb) w9 w10)
    (r11 : Row w11 osb 22 (((List.range i).map (fun j => Value.slice (some ⟨ob j, 0, none⟩) (pl j).length (pl j).length) ++ List.replicate (N - i) (Value.slice none 0 0)).set i (Value.slice (some ⟨b2, 0, none⟩) (pl i).length (pl i).length))) (s11 : Spare (One osb) w10 w11) :
    Built w11 B (i + 1) N pl mb smb psb ksb osb (upd pb i b3) (upd rb i b1) (upd ob i b2) ∧ ∀ W : World, W.heap.size ≤ B → Spare Non W wr → Spare Non W w11 := by
  obtain ⟨o1, o2, o3, box, map, ps, ks, os, sets, olds⟩ := h
  have lt0 := os.lt
  have big : ∀ j, j < i → pb j < wr.heap.size := fun j hj => by obtain ⟨_, _, r, _⟩ := sets j hj; exact r.lt
  let S : Nat → Prop := fun k => k = smb ∨ k = psb ∨ k = ksb ∨ k = osb
  have t : Spare S wr w11 := (((s7.mono (fun _ _ x => absurd x id)).on (S := S) s8 (fun _ => .inl rfl)).on s9 (fun _ => .inr (.inl rfl))).on s10 (fun _ => .inr (.inr (.inl rfl))) |>.on s11 (fun _ => .inr (.inr (.inr rfl)))
  have t7 : Spare S w7 w11 := (((s8.mono (S' := S) (fun _ _ x => .inl x)).on s9 (fun _ => .inr (.inl rfl))).on s10 (fun _ => .inr (.inr (.inl rfl)))).on s11 (fun _ => .inr (.inr (.inr rfl)))
  have nS : ∀ k, osb < k → ¬ S k := fun k hk e => by rcases e with e | e | e | e <;> omega
  refine ⟨⟨o1, fun j hj => ?_, fun j k hjk hk => ?_, ?_, ?_, ?_, ?_, ?_, fun j hj => ?_, fun j hj => ?_⟩, fun W hW hs => ?_⟩
  · rcases Nat.lt_succ_iff_lt_or_eq.1 hj with hj | rfl
    · rw [upd_lt hj, upd_lt hj, upd_lt hj]; exact o2 j hj
    · rw [upd_at, upd_at, upd_at]; omega
  · rcases Nat.lt_succ_iff_lt_or_eq.1 hk with hk | rfl
    · rw [upd_lt (by omega), upd_lt hk]; exact o3 j k hjk hk
    · rw [upd_lt hjk, upd_at]; have := big j hjk; omega
  · exact box.spare t (fun e => by rcases e with e | e | e | e <;> omega)
  · have := (((m8.spare s9 (fun e => by have : smb = psb := e; omega)).spare s10 (fun e => by have : smb = ksb := e; omega)).spare s11 (fun e => by have : smb = osb := e; omega))
    have he : ents kv (fun j => .pointer (some ⟨upd pb i b3 j, 0, none⟩)) (i + 1) = ents kv (fun j => .pointer (some ⟨pb j, 0, none⟩)) i ++ [{ key := kv i, val := .pointer (some ⟨b3, 0, none⟩), born := i }] := by
      unfold ents
      rw [range_upd (fun j => ({ key := kv j, val := .pointer (some ⟨pb j, 0, none⟩), born := j } : MapEntry)) _ i (fun j hj => by show ({ key := kv j, val := .pointer (some ⟨upd pb i b3 j, 0, none⟩), born := j } : MapEntry) = _; rw [upd_lt hj])]
      show _ ++ [({ key := kv i, val := .pointer (some ⟨upd pb i b3 i, 0, none⟩), born := i } : MapEntry)] = _
      rw [upd_at]
    rw [he]
    exact this
  · have := (r9.spare s10 (fun e => by have : psb = ksb := e; omega)).spare s11 (fun e => by have : psb = osb := e; omega)
    rw [set_rep _ i N _ _ (by simp) hi] at this
    rw [range_upd (fun j => Value.pointer (some ⟨pb j, 0, none⟩)) _ i (fun j hj => by rw [upd_lt hj]), upd_at]
    exact this
  · have := r10.spare s11 (fun e => by have : ksb = osb := e; omega)
    rw [set_rep _ i N _ _ (by simp) hi] at this
    rw [range_upd kv _ i (fun j _ => rfl)]
    exact this
  · rw [set_rep _ i N _ _ (by simp) hi] at r11
    rw [range_upd (fun j => Value.slice (some ⟨ob j, 0, none⟩) (pl j).length (pl j).length) _ i (fun j hj => by rw [upd_lt hj]), upd_at]
    exact r11
  · rcases Nat.lt_succ_iff_lt_or_eq.1 hj with hj | rfl
    · rw [upd_lt hj, upd_lt hj]
      have := o2 j hj
      exact (sets j hj).spare t (nS _ (by omega)) (nS _ (by omega))
    · rw [upd_at, upd_at]
      exact ⟨cap, rest, r3.spare t7 (nS _ (by omega)), r1.spare t7 (nS _ (by omega))⟩
  · rcases Nat.lt_succ_iff_lt_or_eq.1 hj with hj | rfl
    · rw [upd_lt hj]
      have := o2 j hj
      exact (olds j hj).spare t (nS _ (by omega))
    · rw [upd_at]
      exact r2.spare t7 (nS _ (by omega))
  · exact hs.then t (fun _ _ x => x) (fun k hk e => by rcases e with e | e | e | e <;> omega)
end Go.Proofs.Ybulkcwdy
