/-
  What stands behind build and move.
-/
import Derived.Test.YbulkcwdyMv
namespace Go.Proofs.Ybulkcwdy
open Go.RowKit Go.ChangeMaps

theorem compact_sub (zs : List Int) : (Lib.compact zs).Sublist zs := by
  have h : (List.range zs.length).map (fun i => zs.toArray[i]!) = zs := by
    apply List.ext_getElem
    · simp
    · intro i h1 h2
      simp [h2]
  unfold Lib.compact Lib.compactUpTo
  have := (List.filter_sublist (p := Lib.keeps zs.toArray) (l := List.range zs.length)).map (fun i => zs.toArray[i]!)
  rw [h] at this
  exact this
theorem pl_mem {n : Nat} {sel : Nat → List Int} {i : Nat} {p : Int} (h : p ∈ pl n sel i) : 0 ≤ p ∧ p < n := by
  have h1 := (sortd_perm _).mem_iff.1 ((compact_sub _).mem h)
  unfold pre at h1
  split at h1
  · obtain ⟨x, _, rfl⟩ := List.mem_map.1 h1
    exact ⟨Int.emod_nonneg _ (by omega), Int.emod_lt_of_pos _ (by omega)⟩
  · simp at h1
theorem pl_length {n : Nat} {sel : Nat → List Int} {i : Nat} (h : (sel i).length ≤ 1024) : (pl n sel i).length ≤ 1024 := by
  have h1 := compact_len (sortd (pre n (sel i)))
  rw [sortd_length] at h1
  have h2 : (pre n (sel i)).length ≤ (sel i).length := by unfold pre; split <;> simp
  exact Nat.le_trans h1 (Nat.le_trans h2 h)
theorem pl_sorted (n : Nat) (sel : Nat → List Int) (i : Nat) : (pl n sel i).Pairwise (· ≤ ·) := (sortd_pairwise _).sublist (compact_sub _)

theorem Built.rank {w : World} {B N : Nat} {plf : Nat → List Int} {mb smb psb ksb osb : Nat} {pb rb ob : Nat → Nat} (h : Built w B N N plf mb smb psb ksb osb pb rb ob) : Rank N w.heap.size mb smb pb rb := by
  have h1 := h.o1
  have h2 := h.box.lt
  refine ⟨fun j hj => ?_, h.o3, by omega⟩
  obtain ⟨_, _, r, _⟩ := h.sets j hj
  have := h.o2 j hj
  have := r.lt
  omega

structure Aft (w0 w : World) (N E mvb mb smb ord psb ksb osb : Nat) (mv : List Int) (plf : Nat → List Int) (pb rb ob : Nat → Nat) (seen : List Nat) (os : List (Nat × Value)) : Prop where
  mvd : Mv w0 w N w0.heap.size E mb smb ord (fun i => mapd mv (plf i)) plf pb rb seen os
  hall : ∀ i, i < N → i ∈ seen
  rank : Rank N w0.heap.size mb smb pb rb
  map : Mp w smb (ents kv (fun j => .pointer (some ⟨pb j, 0, none⟩)) N) N
  ps : Row w psb 34 ((List.range N).map (fun j => .pointer (some ⟨pb j, 0, none⟩)))
  ks : Row w ksb 9 ((List.range N).map kv)
  os : Row w osb 22 ((List.range N).map (fun j => .slice (some ⟨ob j, 0, none⟩) (plf j).length (plf j).length))
  mvr : Row w mvb 3 (mv.map (Value.int .i64))
  olds : ∀ j, j < N → Row w (ob j) 3 ((plf j).map (Value.int .i64))

theorem Built.untouched {w : World} {B N : Nat} {plf : Nat → List Int} {mb smb psb ksb osb : Nat} {pb rb ob : Nat → Nat} (h : Built w B N N plf mb smb psb ksb osb pb rb ob) (k : Nat) (hk : k ≠ mb) (hk2 : k ≤ osb ∨ (∃ j, j < N ∧ k = ob j) ∨ (∀ j, j < N → pb j < k)) : ¬ Touch N mb pb rb k := by
  intro e
  rcases e with e | ⟨j, hj, e⟩
  · exact hk e
  · have h1 := h.o2 j hj
    rcases hk2 with h2 | ⟨j', hj', h2⟩ | h2
    · omega
    · have h3 := h.o2 j' hj'
      rcases Nat.lt_trichotomy j j' with h4 | h4 | h4
      · have := h.o3 j j' h4 hj'; omega
      · subst h4; omega
      · have := h.o3 j' j h4 hj; omega
    · have := h2 j hj; omega

theorem aft_mk {w3 w4 : World} {B N E mvb ord : Nat} {mv : List Int} {plf : Nat → List Int} {mb smb psb ksb osb : Nat} {pb rb ob : Nat → Nat} {seen : List Nat} {os : List (Nat × Value)} (h : Built w3 B N N plf mb smb psb ksb osb pb rb ob) (hmv : Row w3 mvb 3 (mv.map (Value.int .i64))) (hlt : mvb < B)
    (M : Mv w3 w4 N w3.heap.size E mb smb ord (fun i => mapd mv (plf i)) plf pb rb seen os) (hall : ∀ i, i < N → i ∈ seen) : Aft w3 w4 N E mvb mb smb ord psb ksb osb mv plf pb rb ob seen os := by
  have o1 := h.o1
  have hb := h.box.lt
  refine ⟨M, hall, h.rank, h.map.spare M.sp (h.untouched _ (by omega) (.inl (by omega))), ?_, ?_, ?_, hmv.spare M.sp (h.untouched _ (by omega) (.inl (by omega))), fun j hj => (h.olds j hj).spare M.sp (h.untouched _ (by have := h.o2 j hj; omega) (.inr (.inl ⟨j, hj, rfl⟩)))⟩
  · have := h.ps.spare M.sp (h.untouched _ (by omega) (.inl (by omega)))
    simpa using this
  · have := h.ks.spare M.sp (h.untouched _ (by omega) (.inl (by omega)))
    simpa using this
  · have := h.os.spare M.sp (h.untouched _ (by omega) (.inl (by omega)))
    simpa using this

theorem Aft.spare {w0 w w' : World} {N E mvb mb smb ord psb ksb osb : Nat} {mv : List Int} {plf : Nat → List Int} {pb rb ob : Nat → Nat} {seen : List Nat} {os : List (Nat × Value)} (h : Aft w0 w N E mvb mb smb ord psb ksb osb mv plf pb rb ob seen os) (hs : Spare Non w w') : Aft w0 w' N E mvb mb smb ord psb ksb osb mv plf pb rb ob seen os :=
  ⟨h.mvd.spare h.rank hs (fun _ _ e => absurd e id), h.hall, h.rank, h.map.spare hs id, h.ps.spare hs id, h.ks.spare hs id, h.os.spare hs id, h.mvr.spare hs id, fun j hj => (h.olds j hj).spare hs id⟩

theorem Aft.count {w0 w : World} {N E mvb mb smb ord psb ksb osb : Nat} {mv : List Int} {plf : Nat → List Int} {pb rb ob : Nat → Nat} {seen : List Nat} {os : List (Nat × Value)} (h : Aft w0 w N E mvb mb smb ord psb ksb osb mv plf pb rb ob seen os) :
    os.length = ((List.range N).filter fun i => !isS (mapd mv (plf i))).length := by
  have hp : seen.Perm (List.range N) := (List.perm_ext_iff_of_nodup h.mvd.nd List.nodup_range).2 (fun a => ⟨fun ha => by simpa using h.mvd.lt a ha, fun ha => h.hall a (by simpa using ha)⟩)
  have := congrArg List.length h.mvd.keys
  simp only [List.length_map] at this
  rw [this]
  exact (hp.filter _).length_eq
end Go.Proofs.Ybulkcwdy
