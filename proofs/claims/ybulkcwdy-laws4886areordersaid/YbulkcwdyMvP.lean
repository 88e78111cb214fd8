/-
  (*clockMaker).move: what holds between its rounds.
-/
import Derived.Test.YbulkcwdyIdx
namespace Go.Proofs.Ybulkcwdy
open Go.RowKit Go.ChangeMaps

def mapd (mv ps : List Int) : List Int := ps.map fun p => mv.getD p.toNat 0
def isS (zs : List Int) : Bool := decide (zs = sortd zs)
theorem mapd_length (mv ps : List Int) : (mapd mv ps).length = ps.length := by simp [mapd]

theorem sortd_pairwise (zs : List Int) : (sortd zs).Pairwise (· ≤ ·) := by
  have h := List.pairwise_mergeSort (le := fun x y : Int => decide (x ≤ y)) (fun a b c h1 h2 => by simp at *; omega) (fun a b => by simp; omega) zs
  exact h.imp (fun h => by simpa using h)
theorem sortd_perm (zs : List Int) : (sortd zs).Perm zs := List.mergeSort_perm zs _
theorem eq_sortd {l zs : List Int} (h : l.Pairwise (· ≤ ·)) (hp : l.Perm zs) : l = sortd zs :=
  List.Perm.eq_of_pairwise (le := fun x y : Int => x ≤ y) (fun _ _ _ _ h1 h2 => Int.le_antisymm h1 h2) h (sortd_pairwise zs) (hp.trans (sortd_perm zs).symm)
theorem pairwise_inOrder {zs : List Int} (h : InOrder zs zs.length) : zs.Pairwise (· ≤ ·) := by
  rw [List.pairwise_iff_getElem]
  intro i j hi hj hij
  have key : ∀ d i (hi : i < zs.length) (hj : i + d < zs.length), zs[i] ≤ zs[i + d] := by
    intro d
    induction d with
    | zero => intro i _ _; exact Int.le_refl _
    | succ d ih =>
      intro i hi hj
      have h1 := ih i hi (by omega)
      have h2 := h (i + d) (by omega)
      simp [show i + d < zs.length by omega, show i + d + 1 < zs.length by omega] at h2
      have : i + (d + 1) = i + d + 1 := by omega
      simp only [this]
      omega
  have := key (j - i) i hi (by omega)
  simpa [show i + (j - i) = j by omega] using this
theorem inOrder_iff (zs : List Int) : InOrder zs zs.length ↔ isS zs = true := by
  unfold isS
  rw [decide_eq_true_iff]
  constructor
  · exact fun h => eq_sortd (pairwise_inOrder h) (List.Perm.refl _)
  · intro h j hj
    have hp := sortd_pairwise zs
    rw [← h, List.pairwise_iff_getElem] at hp
    have := hp j (j + 1) (by omega) hj (by omega)
    simpa [hj, show j < zs.length by omega] using this
theorem order_ok {zs : List Int} {perm : List Nat} (hp : perm.Perm (List.range zs.length)) (hs : (perm.map fun i => zs.getD i 0).Pairwise (· ≤ ·)) : (perm.map fun i => zs.getD i 0) = sortd zs := by
  refine eq_sortd hs ((hp.map fun i => zs.getD i 0).trans (List.Perm.of_eq ?_))
  apply List.ext_getElem
  · simp
  · intro i h1 h2
    simp [h2]

def oEnts (os : List (Nat × Value)) : List MapEntry := os.zipIdx.map fun p => { key := .pointer (some ⟨p.1.1, 0, none⟩), val := p.1.2, born := p.2 }
theorem oEnts_snoc (os : List (Nat × Value)) (p : Nat × Value) : oEnts (os ++ [p]) = oEnts os ++ [{ key := .pointer (some ⟨p.1, 0, none⟩), val := p.2, born := os.length }] := by simp [oEnts, List.zipIdx_append]
theorem oEnts_mem {os : List (Nat × Value)} {e : MapEntry} (h : e ∈ oEnts os) : ∃ p ∈ os, e.key = .pointer (some ⟨p.1, 0, none⟩) ∧ e.val = p.2 := by
  simp only [oEnts, List.mem_map] at h
  obtain ⟨⟨p, k⟩, hp, rfl⟩ := h
  exact ⟨p, (List.mem_zipIdx' hp).2 ▸ List.getElem_mem _, rfl, rfl⟩
theorem mem_oEnts {os : List (Nat × Value)} {p : Nat × Value} (h : p ∈ os) : ∃ e ∈ oEnts os, e.key = .pointer (some ⟨p.1, 0, none⟩) := by
  obtain ⟨k, hk, rfl⟩ := List.getElem_of_mem h
  refine ⟨_, List.mem_map.2 ⟨(os[k], k), ?_, rfl⟩, rfl⟩
  rw [List.mem_zipIdx_iff_getElem?]
  simp
theorem oEnts_length (os : List (Nat × Value)) : (oEnts os).length = os.length := by simp [oEnts]

def Touch (N mb : Nat) (pb rb : Nat → Nat) (k : Nat) : Prop := k = mb ∨ ∃ i, i < N ∧ (k = pb i ∨ k = rb i)
structure Rank (N H mb smb : Nat) (pb rb : Nat → Nat) : Prop where
  a : ∀ j, j < N → mb < rb j ∧ rb j < pb j ∧ pb j < H
  b : ∀ j k, j < k → k < N → pb j < rb k
  m : smb < mb ∧ mb < H
theorem Rank.apart {N H mb smb : Nat} {pb rb : Nat → Nat} (h : Rank N H mb smb pb rb) {i j : Nat} (hi : i < N) (hj : j < N) (hij : i ≠ j) : pb i ≠ pb j ∧ rb i ≠ rb j ∧ pb i ≠ rb j ∧ rb i ≠ pb j := by
  have hi' := h.a i hi
  have hj' := h.a j hj
  rcases Nat.lt_or_gt_of_ne hij with h1 | h1
  · have := h.b i j h1 hj; omega
  · have := h.b j i h1 hi; omega
theorem Rank.inj {N H mb smb : Nat} {pb rb : Nat → Nat} (h : Rank N H mb smb pb rb) {i j : Nat} (hi : i < N) (hj : j < N) (e : pb i = pb j) : i = j := by
  rcases Nat.decEq i j with h1 | h1
  · exact absurd e (h.apart hi hj h1).1
  · exact h1

def OrdRow (w : World) (H : Nat) (zs : List Int) (v : Value) : Prop := ∃ (ordb : Nat) (perm : List Nat), v = .slice (some ⟨ordb, 0, none⟩) zs.length zs.length ∧ H ≤ ordb ∧ Row w ordb 3 (perm.map fun i : Nat => Value.int .i64 (i : Int)) ∧ perm.Perm (List.range zs.length) ∧ (perm.map fun i => zs.getD i 0) = sortd zs

structure Mv (w0 w : World) (N H E mb smb ord : Nat) (mp plf : Nat → List Int) (pb rb : Nat → Nat) (seen : List Nat) (os : List (Nat × Value)) : Prop where
  nd : seen.Nodup
  lt : ∀ x ∈ seen, x < N
  box : Row w mb 39 [.map (some smb), .pointer none, .map (some ord), .slice none 0 0, .slice none 0 0]
  ordm : Mp w ord (oEnts os) os.length
  keys : os.map (·.1) = (seen.filter fun i => !isS (mp i)).map pb
  done : ∀ i ∈ seen, ∃ rb', PSet w (pb i) rb' (sortd (mp i)) ∧ (rb' = rb i ∨ E ≤ rb')
  all : ∀ p ∈ os, ∃ i, i ∈ seen ∧ p.1 = pb i ∧ isS (mp i) = false ∧ OrdRow w E (mp i) p.2
  todo : ∀ i, i < N → i ∉ seen → PSet w (pb i) (rb i) (plf i)
  sp : Spare (Touch N mb pb rb) w0 w
  ord0 : H ≤ ord ∧ ord < E
  hH : w0.heap.size = H

theorem OrdRow.spare {S : Nat → Prop} {w w' : World} {E : Nat} {zs : List Int} {v : Value} (h : OrdRow w E zs v) (hs : Spare S w w') (hS : ∀ k, k < w.heap.size → E ≤ k → ¬ S k) : OrdRow w' E zs v := by
  obtain ⟨o, perm, he, h1, h2, h3⟩ := h
  exact ⟨o, perm, he, h1, h2.spare hs (hS o h2.lt h1), h3⟩

/-- A step that writes new blocks alone, or one that none of these is (the iterator's). -/
theorem Mv.spare {S : Nat → Prop} {w0 w w' : World} {N H E mb smb ord : Nat} {mp plf : Nat → List Int} {pb rb : Nat → Nat} {seen : List Nat} {os : List (Nat × Value)} (h : Mv w0 w N H E mb smb ord mp plf pb rb seen os) (K : Rank N H mb smb pb rb) (hs : Spare S w w')
    (hS : ∀ k, k < w.heap.size → S k → H ≤ k ∧ k < E ∧ k ≠ ord) : Mv w0 w' N H E mb smb ord mp plf pb rb seen os := by
  have km := K.m
  have ko := h.ord0
  have kE : ∀ k, k < w.heap.size → E ≤ k → ¬ S k := fun k h1 h2 e => by have := hS k h1 e; omega
  have kH : ∀ k, k < w.heap.size → k < H → ¬ S k := fun k h1 h2 e => by have := hS k h1 e; omega
  have ps : ∀ i rb' ys, i < N → PSet w (pb i) rb' ys → (rb' = rb i ∨ E ≤ rb') → PSet w' (pb i) rb' ys := fun i rb' ys hi hp hr => by
    have := K.a i hi
    have hp' := hp
    obtain ⟨_, _, r1, r2⟩ := hp'
    exact hp.spare hs (kH _ r1.lt (by omega)) (hr.elim (fun e => kH _ r2.lt (by omega)) (fun hr => kE _ r2.lt hr))
  refine ⟨h.nd, h.lt, h.box.spare hs (kH _ h.box.lt (by omega)), h.ordm.spare hs (fun e => (hS _ h.ordm.lt e).2.2 rfl), h.keys, fun i hi => ?_, fun p hp => ?_, fun i hi hn => ps i _ _ hi (h.todo i hi hn) (.inl rfl), ?_, h.ord0, h.hH⟩
  · obtain ⟨rb', h1, h2⟩ := h.done i hi
    exact ⟨rb', ps i rb' _ (h.lt i hi) h1 h2, h2⟩
  · obtain ⟨i, h1, h2, h3, h4⟩ := h.all p hp
    exact ⟨i, h1, h2, h3, h4.spare hs kE⟩
  · exact h.sp.then hs (fun _ _ e => e) (fun k hk e => by have := hS k (Nat.lt_of_lt_of_le hk h.sp.size) e; have := h.hH; omega)

/-- One set more. -/
theorem Mv.step {S : Nat → Prop} {w0 w w' : World} {N H E mb smb ord : Nat} {mp plf : Nat → List Int} {pb rb : Nat → Nat} {seen : List Nat} {os os' : List (Nat × Value)} {i : Nat} (h : Mv w0 w N H E mb smb ord mp plf pb rb seen os) (K : Rank N H mb smb pb rb) (hs : Spare S w w')
    (hS : ∀ k, k < w.heap.size → S k → k = pb i ∨ k = rb i ∨ k = ord) (hi : i < N) (hn : i ∉ seen) (hd : ∃ rb', PSet w' (pb i) rb' (sortd (mp i)) ∧ (rb' = rb i ∨ E ≤ rb')) (hm : Mp w' ord (oEnts os') os'.length)
    (hos : (isS (mp i) = true ∧ os' = os) ∨ (isS (mp i) = false ∧ ∃ v, os' = os ++ [(pb i, v)] ∧ OrdRow w' E (mp i) v)) : Mv w0 w' N H E mb smb ord mp plf pb rb (seen ++ [i]) os' := by
  have km := K.m
  have ki := K.a i hi
  have ko := h.ord0
  have kE : ∀ k, k < w.heap.size → E ≤ k → ¬ S k := fun k h1 h2 e => by have := hS k h1 e; omega
  have ps : ∀ j rb' ys, j < N → j ≠ i → PSet w (pb j) rb' ys → (rb' = rb j ∨ E ≤ rb') → PSet w' (pb j) rb' ys := fun j rb' ys hj hji hp hr => by
    have h1 := K.a j hj
    have h2 := K.apart hj hi hji
    have hp' := hp
    obtain ⟨_, _, r1, r2⟩ := hp'
    exact hp.spare hs (fun e => by have := hS _ r1.lt e; omega) (hr.elim (fun e' e => by have := hS _ r2.lt e; omega) (fun hr => kE _ r2.lt hr))
  have keys' : os'.map (·.1) = ((seen ++ [i]).filter fun i => !isS (mp i)).map pb := by
    rw [List.filter_append, List.map_append, ← h.keys]
    rcases hos with ⟨h1, rfl⟩ | ⟨h1, v, rfl, _⟩
    · simp [h1]
    · simp [h1]
  refine ⟨?_, fun x hx => ?_, h.box.spare hs (fun e => by have := hS _ h.box.lt e; omega), hm, keys', fun j hj => ?_, fun p hp => ?_, fun j hj hjn => ?_, ?_, h.ord0, h.hH⟩
  · rw [List.nodup_append]
    exact ⟨h.nd, by simp, fun a ha b hb => by rw [List.mem_singleton.1 hb]; exact fun e => hn (e ▸ ha)⟩
  · rcases List.mem_append.1 hx with hx | hx
    · exact h.lt x hx
    · rw [List.mem_singleton.1 hx]; exact hi
  · rcases List.mem_append.1 hj with hj | hj
    · obtain ⟨rb', h1, h2⟩ := h.done j hj
      exact ⟨rb', ps j rb' _ (h.lt j hj) (fun e => hn (e ▸ hj)) h1 h2, h2⟩
    · rw [List.mem_singleton.1 hj]; exact hd
  · have old : ∀ p ∈ os, ∃ i', i' ∈ seen ++ [i] ∧ p.1 = pb i' ∧ isS (mp i') = false ∧ OrdRow w' E (mp i') p.2 := fun p hp => by
      obtain ⟨j, h1, h2, h3, h4⟩ := h.all p hp
      exact ⟨j, by simp [h1], h2, h3, h4.spare hs kE⟩
    rcases hos with ⟨_, rfl⟩ | ⟨h1, v, rfl, h2⟩
    · exact old p hp
    · rcases List.mem_append.1 hp with hp | hp
      · exact old p hp
      · rw [List.mem_singleton.1 hp]; exact ⟨i, by simp, rfl, h1, h2⟩
  · exact ps j _ _ hj (fun e => hjn (by simp [e])) (h.todo j hj (fun e => hjn (by simp [e]))) (.inl rfl)
  · refine h.sp.then hs (fun _ _ e => e) (fun k hk e => ?_)
    have hk2 := h.hH
    rcases hS k (Nat.lt_of_lt_of_le hk h.sp.size) e with e | e | e
    · exact .inr ⟨i, hi, .inl e⟩
    · exact .inr ⟨i, hi, .inr e⟩
    · omega

theorem mv0 {w w1 : World} {N mb smb it : Nat} {mp plf : Nat → List Int} {pb rb : Nat → Nat} {vf : Nat → Value} (K : Rank N w.heap.size mb smb pb rb) (hbox : Row w mb 39 [.map (some smb), .pointer none, .map none, .slice none 0 0, .slice none 0 0])
    (hmap : Mp w smb (ents kv vf N) N) (hset : ∀ i, i < N → PSet w (pb i) (rb i) (plf i)) (S : Spare Non ((w.setCell ⟨mb, 2, none⟩ (.map (some w.heap.size))).alloc (.map #[] 0)) w1) (hit : it = ((w.setCell ⟨mb, 2, none⟩ (.map (some w.heap.size))).alloc (.map #[] 0)).heap.size) :
    Mv w w1 N w.heap.size (w.heap.size + 2) mb smb w.heap.size mp plf pb rb [] [] ∧ it = w.heap.size + 1 ∧ Mp w1 smb (ents kv vf N) N := by
  have km := K.m
  have s1 : Spare (One mb) w ((w.setCell ⟨mb, 2, none⟩ (.map (some w.heap.size))).alloc (.map #[] 0)) := (Spare.setCell w ⟨mb, 2, none⟩ _).off (Spare.alloc Non _ _)
  have s2 := s1.off S
  refine ⟨⟨by simp, by simp, ?_, ?_, rfl, by simp, by simp, fun i hi _ => ?_, ?_, ⟨Nat.le_refl _, by omega⟩, rfl⟩, ?_, ?_⟩
  · exact ((hbox.set 2 (.map (some w.heap.size))).spare (Spare.alloc Non _ (.map #[] 0)) id).spare S id
  · refine Mp.spare (w := ((w.setCell ⟨mb, 2, none⟩ (.map (some w.heap.size))).alloc (.map #[] 0))) (S := Non) ?_ S id
    have h := (MapKept.heap_alloc (w.setCell ⟨mb, 2, none⟩ (.map (some w.heap.size))) (.map #[] 0)).1
    rw [show (w.setCell ⟨mb, 2, none⟩ (.map (some w.heap.size))).heap.size = w.heap.size by simp [World.setCell]] at h
    exact h
  · have := K.a i hi
    exact (hset i hi).spare s2 (fun e => by have e' : pb i = mb := e; omega) (fun e => by have e' : rb i = mb := e; omega)
  · exact s2.mono (fun k _ e => .inl e)
  · rw [hit]
    simp [World.setCell]
  · exact hmap.spare s2 (fun e => by have e' : smb = mb := e; omega)

/-- The order of set i, looked up. -/
theorem Mv.look {w0 w : World} {N H E mb smb ord : Nat} {mp plf : Nat → List Int} {pb rb : Nat → Nat} {seen : List Nat} {os : List (Nat × Value)} (h : Mv w0 w N H E mb smb ord mp plf pb rb seen os) (K : Rank N H mb smb pb rb) (hall : ∀ i, i < N → i ∈ seen) {i : Nat} (hi : i < N) :
    ∃ r, (Instr.findKey 34 (.pointer (some ⟨pb i, 0, none⟩)) (oEnts os)).run Yba.prog w = .ok r w ∧ ((isS (mp i) = true ∧ r = none) ∨ (isS (mp i) = false ∧ ∃ k v, r = some (k, v) ∧ OrdRow w E (mp i) v)) := by
  obtain ⟨ti, hti, _, hts, _⟩ := info_parts (show (Yba.prog.info? 41).map (fun i => (i.zero, i.size, i.bytes)) = some (some (.agg #[.slice none 0 0]), 1, 24) by kernel_rfl)
  have rw' : ∀ j, j < N → ∃ t xs, Row w (pb j) t xs := fun j hj => by
    obtain ⟨_, ⟨_, _, r1, _⟩, _⟩ := h.done j (hall j hj)
    exact ⟨_, _, r1⟩
  obtain ⟨t, xs, hr⟩ := rw' i hi
  rcases find_ptr (P := Yba.prog) w Yba.underlying34 hti (by rw [hts]; decide) (pb i) hr (oEnts os) (fun e he => by
    obtain ⟨p, hp, h1, _⟩ := oEnts_mem he
    obtain ⟨j, h2, h3, _⟩ := h.all p hp
    exact ⟨p.1, h1, by rw [h3]; exact rw' j (h.lt j h2)⟩) with ⟨h1, h2⟩ | ⟨j, e, h1, h2, h3⟩
  · refine ⟨none, h1, .inl ⟨?_, rfl⟩⟩
    cases hb : isS (mp i) with
    | true => rfl
    | false =>
      have hm : pb i ∈ os.map (·.1) := by rw [h.keys]; exact List.mem_map.2 ⟨i, List.mem_filter.2 ⟨hall i hi, by simp [hb]⟩, rfl⟩
      obtain ⟨p, hp, hpe⟩ := List.mem_map.1 hm
      obtain ⟨e, he, hk⟩ := mem_oEnts hp
      exact absurd (by rw [hk, hpe]) (h2 e he)
  · obtain ⟨p, hp, h4, h5⟩ := oEnts_mem h2
    rw [h3] at h4
    simp at h4
    obtain ⟨i', h6, h7, h8, h9⟩ := h.all p hp
    obtain rfl := K.inj hi (h.lt i' h6) (h4.trans h7)
    exact ⟨_, h1, .inr ⟨h8, _, _, rfl, by rw [h5]; exact h9⟩⟩

theorem Mv.fresh {S : Nat → Prop} {w0 w w' : World} {N H E mb smb ord : Nat} {mp plf : Nat → List Int} {pb rb : Nat → Nat} {seen : List Nat} {os : List (Nat × Value)} {i : Nat} (h : Mv w0 w N H E mb smb ord mp plf pb rb seen os) (K : Rank N H mb smb pb rb) (hs : Spare S w w')
    (hS : ∀ k, k < w.heap.size → S k → k = pb i ∨ k = rb i) (hi : i < N) (hn : i ∉ seen) {t : TypeId} {xs : List Value} (hr : Row w' (pb i) t xs) : (Instr.findKey 34 (.pointer (some ⟨pb i, 0, none⟩)) (oEnts os)).run Yba.prog w' = .ok none w' := by
  obtain ⟨ti, hti, _, hts, _⟩ := info_parts (show (Yba.prog.info? 41).map (fun i => (i.zero, i.size, i.bytes)) = some (some (.agg #[.slice none 0 0]), 1, 24) by kernel_rfl)
  rcases find_ptr (P := Yba.prog) w' Yba.underlying34 hti (by rw [hts]; decide) (pb i) hr (oEnts os) (fun e he => by
    obtain ⟨p, hp, h1, _⟩ := oEnts_mem he
    obtain ⟨j, h2, h3, _⟩ := h.all p hp
    obtain ⟨_, ⟨_, _, r1, _⟩, _⟩ := h.done j h2
    have ap := K.apart (h.lt j h2) hi (fun e => hn (e ▸ h2))
    exact ⟨p.1, h1, by rw [h3]; exact ⟨_, _, r1.spare hs (fun e => by have := hS _ r1.lt e; omega)⟩⟩) with ⟨h1, _⟩ | ⟨j, e, _, h2, h3⟩
  · exact h1
  · obtain ⟨p, hp, h4, _⟩ := oEnts_mem h2
    rw [h3] at h4
    simp at h4
    obtain ⟨i', h6, h7, _, _⟩ := h.all p hp
    have := K.inj hi (h.lt i' h6) (h4.trans h7)
    exact absurd (this ▸ h6) hn

theorem Mv.end_sorted {w0 w w' : World} {N H E mb smb ord : Nat} {mp plf : Nat → List Int} {pb rb : Nat → Nat} {seen : List Nat} {os : List (Nat × Value)} {i cp : Nat} {rest : List Value} (h : Mv w0 w N H E mb smb ord mp plf pb rb seen os) (K : Rank N H mb smb pb rb) (hs : Spare (One (rb i)) w w')
    (hi : i < N) (hn : i ∉ seen) (RP : Row w (pb i) 41 [.slice (some ⟨rb i, 0, none⟩) (mp i).length cp]) (RR : Row w' (rb i) 3 ((mp i).map (Value.int .i64) ++ rest)) (hS : isS (mp i) = true) : Mv w0 w' N H E mb smb ord mp plf pb rb (seen ++ [i]) os := by
  have ki := K.a i hi
  have ko := h.ord0
  have he : mp i = sortd (mp i) := by simpa [isS] using hS
  refine h.step K hs (fun k _ e => .inr (.inl e)) hi hn ⟨rb i, ⟨cp, rest, ?_, ?_⟩, .inl rfl⟩ (h.ordm.spare hs (fun e => by have e' : ord = rb i := e; omega)) (.inl ⟨hS, rfl⟩)
  · rw [← he]; exact RP.spare hs (fun e => by have e' : pb i = rb i := e; omega)
  · rw [← he]; exact RR
theorem Mv.end_unsorted {w0 w w' w9 : World} {N H E mb smb ord : Nat} {mp plf : Nat → List Int} {pb rb : Nat → Nat} {seen : List Nat} {os : List (Nat × Value)} {i b5 ordb : Nat} {perm : List Nat} (h : Mv w0 w N H E mb smb ord mp plf pb rb seen os) (K : Rank N H mb smb pb rb) (hs : Spare (fun k => k = pb i ∨ k = rb i) w w')
    (hi : i < N) (hn : i ∉ seen) (RP : Row w' (pb i) 41 [.slice (some ⟨b5, 0, none⟩) (mp i).length (mp i).length]) (RR : Row w' b5 3 ((sortd (mp i)).map (Value.int .i64))) (RO : Row w' ordb 3 (perm.map fun i : Nat => Value.int .i64 (i : Int))) (hperm : perm.Perm (List.range (mp i).length)) (hpw : (perm.map fun j => (mp i).getD j 0).Pairwise (· ≤ ·))
    (hb5 : E ≤ b5) (hob : E ≤ ordb) (hm : Mp w9 ord (oEnts os ++ [{ key := .pointer (some ⟨pb i, 0, none⟩), val := .slice (some ⟨ordb, 0, none⟩) (mp i).length (mp i).length, born := os.length }]) (os.length + 1)) (h9 : Spare (One ord) w' w9) (hS : isS (mp i) = false) :
    Mv w0 w9 N H E mb smb ord mp plf pb rb (seen ++ [i]) (os ++ [(pb i, .slice (some ⟨ordb, 0, none⟩) (mp i).length (mp i).length)]) := by
  have ki := K.a i hi
  have ko := h.ord0
  have no : ∀ k, (k < H ∨ E ≤ k) → ¬ One ord k := fun k hk e => by have e' : k = ord := e; omega
  refine h.step (S := fun k => (k = pb i ∨ k = rb i) ∨ k = ord) K (hs.then h9 (fun _ _ e => .inl e) (fun _ _ e => .inr e)) (fun k _ e => by rcases e with (e | e) | e; exact .inl e; exact .inr (.inl e); exact .inr (.inr e)) hi hn ⟨b5, ⟨(mp i).length, [], ?_, ?_⟩, .inr hb5⟩ ?_ (.inr ⟨hS, _, rfl, ?_⟩)
  · rw [sortd_length]; exact RP.spare h9 (no _ (.inl (by omega)))
  · rw [List.append_nil]; exact RR.spare h9 (no _ (.inr hb5))
  · rw [oEnts_snoc, List.length_append]; exact hm
  · exact ⟨ordb, perm, rfl, hob, RO.spare h9 (no _ (.inr hob)), hperm, order_ok hperm hpw⟩
theorem seen_lt {N i : Nat} {seen : List Nat} (h1 : seen.Nodup) (h2 : ∀ x ∈ seen, x < N) (hi : i < N) (hn : i ∉ seen) : seen.length < N := by
  have h := List.Nodup.length_le_of_subset (l₁ := seen ++ [i]) (l₂ := List.range N) (by
    rw [List.nodup_append]
    exact ⟨h1, by simp, fun a ha b hb => by rw [List.mem_singleton.1 hb]; exact fun e => hn (e ▸ ha)⟩) (fun x hx => by
    rcases List.mem_append.1 hx with hx | hx
    · simpa using h2 x hx
    · rw [List.mem_singleton.1 hx]; simpa using hi)
  simp at h
  omega

theorem indices_at (k bx g cap : Nat) (zs : List Int) (rest : List Value) (hz : zs.length = k) (hk : 0 < k) (hk2 : k ≤ 1024) (w : World) (hb : Row w bx 22 [.slice (some ⟨g, 0, none⟩) k cap]) (hg : Row w g 3 (zs.map (Value.int .i64) ++ rest)) :
    Calls Yba.prog 14 #[.int .i64 (k : Int), .func (.func 15) #[] #[.pointer (some ⟨bx, 0, none⟩)]] w fun e w' => ∃ b, e = .returned (.slice (some ⟨b, 0, none⟩) k k) ∧ w.heap.size ≤ b ∧
      (∃ os : List Nat, Row w' b 3 (os.map fun i : Nat => Value.int .i64 (i : Int)) ∧ os.Perm (List.range k) ∧ (os.map fun i => zs.getD i 0).Pairwise (· ≤ ·)) ∧ Spare Non w w' := by
  obtain ⟨m, rfl⟩ : ∃ m, k = m + 1 := ⟨k - 1, by omega⟩
  exact indices_any m bx g cap zs rest hz (by omega) w hb hg
theorem Spare.redrew {S : Nat → Prop} {a b c : World} (h : Spare S a b) (h1 : c.os = b.os) (h2 : c.tape = b.tape) (h3 : c.output = b.output) (h4 : c.heap = b.heap) : Spare S a c :=
  ⟨h1.trans h.os, h2.trans h.tape, h3.trans h.output, by rw [h4]; exact h.size, by rw [h4]; exact h.block⟩
end Go.Proofs.Ybulkcwdy
