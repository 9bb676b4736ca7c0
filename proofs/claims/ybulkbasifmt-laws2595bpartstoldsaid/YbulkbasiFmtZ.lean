import Derived.Test.YbulkbasiFmtY
namespace Go.Proofs.YbulkbasiFmt
open Go.RowKit
set_option maxRecDepth 100000

def lkOf (n : Nat) : List (Nat × Nat) := (List.range n).map fun i => (2 * i + 2, i + 1)
theorem lkOf_length (n : Nat) : (lkOf n).length = n := by simp [lkOf]
theorem lkOf_take (n i : Nat) (h : i < n) : (lkOf n).take (i + 1) = (lkOf n).take i ++ [(2 * i + 2, i + 1)] := by
  rw [List.take_add_one]
  congr 1
  simp [lkOf, h]
def offsV (n i : Nat) : List Value := (List.range i).map fun j => .int .i64 (off (lkOf n) j : Int)
/-- The first list and the places of its keys, as they grow. -/
structure GrowOk (w : World) (N bl bo n i k : Nat) (lv ov : Value) : Prop where
  l : w.heap[bl]? = some (.cells #[lv] 24 (0, 0))
  lb : Buf w N lv (bytesK ((lkOf n).take i))
  o : w.heap[bo]? = some (.cells #[ov] 25 (0, 0))
  ob : w.ownsRow N 3 1 ov k (offsV n k)
  of : ∃ g c, ov = .slice (some ⟨g, 0, none⟩) k c
  nl : N ≤ bl
  no : N ≤ bo
theorem offsV_succ (n i : Nat) : offsV n i ++ [.int .i64 (off (lkOf n) i : Int)] = offsV n (i + 1) := by
  unfold offsV
  rw [List.range_succ, List.map_append]
  rfl
theorem GrowOk.kept {w w' : World} {N bl bo n i k : Nat} {lv ov : Value} (h : GrowOk w N bl bo n i k lv ov) (hg : w.grownBy w' none) : GrowOk w' N bl bo n i k lv ov :=
  ⟨(hg.block _ (lt_heap h.l) (by simp)).trans h.l, h.lb.kept0 hg, (hg.block _ (lt_heap h.o) (by simp)).trans h.o, h.ob.kept hg (by cases ov.ownBlock <;> simp), h.of, h.nl, h.no⟩
/-- Behind the append to the places. -/
theorem GrowOk.off {w w1 : World} {N bl bo n i k : Nat} {lv ov ov' : Value} (h : GrowOk w N bl bo n i k lv ov) (hg : w.grownBy w1 ov.ownBlock) (ho : w1.ownsRow N 3 1 ov' (k + 1) (offsV n (k + 1))) (hf : ∃ g c, ov' = .slice (some ⟨g, 0, none⟩) (k + 1) c) : GrowOk (w1.setCell ⟨bo, 0, none⟩ ov') N bl bo n i (k + 1) lv ov' ∧ (w1.setCell ⟨bo, 0, none⟩ ov').heap.size = w1.heap.size ∧ ∀ w0 : World, w0.heap.size ≤ N → w0.grownBy w none → w0.grownBy (w1.setCell ⟨bo, 0, none⟩ ov') none := by
  have ho0 := h.ob
  have hne : ∀ (j : Nat) (arr : Array Value) (t : TypeId) (fr : Nat × Nat), w.heap[j]? = some (.cells arr t fr) → t ≠ 3 → w1.heap[j]? = some (.cells arr t fr) := fun j arr t fr hj ht => by
    refine (hg.block j (lt_heap hj) (fun e => ?_)).trans hj
    obtain ⟨cur, hc⟩ := own_at ho0 e.symm
    rw [hc] at hj
    simp at hj
    exact ht hj.2.1.symm
  have hl1 := hne _ _ _ _ h.l (by decide)
  have ho1 := hne _ _ _ _ h.o (by decide)
  have hbb : bl ≠ bo := fun e => by
    have h1 := h.l
    rw [e, h.o] at h1
    simp at h1
  refine ⟨⟨(heap_setCell_other w1 ⟨bo, 0, none⟩ bl _ hbb).trans hl1, ?_, heap_setCell_same w1 bo 0 _ _ _ ho1, ?_, hf, h.nl, h.no⟩, by simp, fun w0 hN hw0 => ?_⟩
  · refine h.lb.far (fun g hgg => ?_)
    obtain ⟨cur, hc⟩ := own_at h.lb hgg
    have h1 := hne _ _ _ _ hc (by decide)
    have h2 : g ≠ bo := fun e => by
      rw [e, h.o] at hc
      simp at hc
    rw [hc]
    exact (heap_setCell_other w1 ⟨bo, 0, none⟩ g _ h2).trans h1
  · refine own_far ho (fun g hgg => ?_)
    obtain ⟨cur, hc⟩ := own_at ho hgg
    have h2 : g ≠ bo := fun e => by
      rw [e, ho1] at hc
      simp at hc
    exact heap_setCell_other w1 ⟨bo, 0, none⟩ g _ h2
  · have h1 := hw0.andThen hg (fun j hj => .inl (by have := (h.ob.lt j hj).1; omega))
    exact h1.andThen (gr_setCell w1 ⟨bo, 0, none⟩ ov').g (fun j hj => .inl (by have : bo = j := (by simpa using hj); have := h.no; omega))
/-- Behind the append to the list's bytes. -/
theorem GrowOk.key {w w1 : World} {N bl bo n i k : Nat} {lv ov lv' : Value} (h : GrowOk w N bl bo n i k lv ov) (hi : i < n) (ha : App w N lv (bytesK ((lkOf n).take i) ++ encK (2 * i + 2) (i + 1)) lv' w1) : GrowOk (w1.setCell ⟨bl, 0, none⟩ lv') N bl bo n (i + 1) k lv' ov ∧ w1.cell? ⟨bl, 0, none⟩ = some lv ∧ w1.frozen? ⟨bl, 0, none⟩ = false ∧ ∀ w0 : World, w0.heap.size ≤ N → w0.grownBy w none → w0.grownBy (w1.setCell ⟨bl, 0, none⟩ lv') none := by
  have hne : ∀ (j : Nat) (arr : Array Value) (t : TypeId) (fr : Nat × Nat), w.heap[j]? = some (.cells arr t fr) → t ≠ 5 → w1.heap[j]? = some (.cells arr t fr) := fun j arr t fr hj ht => by
    refine (ha.gr.block j (lt_heap hj) (fun e => ?_)).trans hj
    obtain ⟨cur, hc⟩ := own_at h.lb e.symm
    rw [hc] at hj
    simp at hj
    exact ht hj.2.1.symm
  have hl1 := hne _ _ _ _ h.l (by decide)
  have ho1 := hne _ _ _ _ h.o (by decide)
  have hbb : bo ≠ bl := fun e => by
    have h1 := h.l
    rw [← e, h.o] at h1
    simp at h1
  have e1 : bytesK ((lkOf n).take i) ++ encK (2 * i + 2) (i + 1) = bytesK ((lkOf n).take (i + 1)) := by
    rw [lkOf_take n i hi, bytesK_append]
    simp [bytesK]
  refine ⟨⟨heap_setCell_same w1 bl 0 _ _ _ hl1, ?_, (heap_setCell_other w1 ⟨bl, 0, none⟩ bo _ hbb).trans ho1, ?_, h.of, h.nl, h.no⟩, (cell_of_row w1 bl 0 _ _ _ hl1).trans rfl, frozen_of_row w1 bl 0 _ _ hl1, fun w0 hN hw0 => ?_⟩
  · rw [← e1]
    refine ha.own.far (fun g hgg => ?_)
    obtain ⟨cur, hc⟩ := own_at ha.own hgg
    have h2 : g ≠ bl := fun e => by
      rw [e, hl1] at hc
      simp at hc
    exact heap_setCell_other w1 ⟨bl, 0, none⟩ g _ h2
  · refine own_far h.ob (fun g hgg => ?_)
    obtain ⟨cur, hc⟩ := own_at h.ob hgg
    have h1 := hne _ _ _ _ hc (by decide)
    have h2 : g ≠ bl := fun e => by
      rw [e, hl1] at h1
      simp at h1
    rw [hc]
    exact (heap_setCell_other w1 ⟨bl, 0, none⟩ g _ h2).trans h1
  · have h1 := hw0.andThen ha.gr (fun j hj => .inl (by have := (h.lb.lt j hj).1; omega))
    exact h1.andThen (gr_setCell w1 ⟨bl, 0, none⟩ lv').g (fun j hj => .inl (by have : bl = j := (by simpa using hj); have := h.nl; omega))
end Go.Proofs.YbulkbasiFmt
