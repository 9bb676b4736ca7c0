import Derived.Test.YbulkbasiFmtU
namespace Go.Proofs.YbulkbasiFmt
open Go.RowKit
set_option maxRecDepth 100000

/-- The run that a name falls in. -/
def slotF (nR v : Nat) : Nat := min (nR - 1) ((v - 2) / 128)
def keyOf (v : Nat) : Nat × Nat := (v, v)
def partW (nR : Nat) (vs : List Nat) (i s : Nat) : List (Nat × Nat) := ((vs.take i).filter fun v => slotF nR v == s).map keyOf
/-- The slices that the law gathers, a run each. -/
structure WantOk (w : World) (N bw gw nR : Nat) (P : Nat → List (Nat × Nat)) : Prop where
  b : ∃ c, w.heap[bw]? = some (.cells #[.slice (some ⟨gw, 0, none⟩) nR c] 38 (0, 0))
  v : ∃ (arr : Array Value) (V : Nat → Value), w.heap[gw]? = some (.cells arr 24 (0, 0)) ∧ (∀ s, s < nR → arr[s]? = some (V s) ∧ Buf w N (V s) (bytesK (P s))) ∧ ∀ s s', s < nR → s' < nR → s ≠ s' → ∀ g, (V s).ownBlock = some g → (V s').ownBlock ≠ some g
theorem Buf.far {w w' : World} {N : Nat} {v : Value} {bs : List Nat} (h : Buf w N v bs) (f : ∀ g, v.ownBlock = some g → w'.heap[g]? = w.heap[g]?) : Buf w' N v bs := own_far h f
theorem WantOk.kept {w w' : World} {N bw gw nR : Nat} {P : Nat → List (Nat × Nat)} (h : WantOk w N bw gw nR P) (hg : w.grownBy w' none) : WantOk w' N bw gw nR P := by
  obtain ⟨c, h1⟩ := h.b
  obtain ⟨arr, V, h2, h3, h4⟩ := h.v
  exact ⟨⟨c, (hg.block _ (lt_heap h1) (by simp)).trans h1⟩, arr, V, (hg.block _ (lt_heap h2) (by simp)).trans h2, fun s hs => ⟨(h3 s hs).1, (h3 s hs).2.kept0 hg⟩, h4⟩
/-- One more key. -/
theorem WantOk.add {w w1 : World} {N bw gw nR s0 : Nat} {P : Nat → List (Nat × Nat)} {k : Nat × Nat} {v v1 : Value} (h : WantOk w N bw gw nR P) (hs0 : s0 < nR) (hv : w.cell? ⟨gw, s0, none⟩ = some v) (ha : App w N v (bytesK (P s0) ++ encK k.1 k.2) v1 w1) :
    WantOk (w1.setCell ⟨gw, s0, none⟩ v1) N bw gw nR (fun s => if s = s0 then P s0 ++ [k] else P s) := by
  obtain ⟨c, h1⟩ := h.b
  obtain ⟨arr, V, h2, h3, h4⟩ := h.v
  have hv0 : V s0 = v := by
    have := (cell_of_row w gw s0 _ _ _ h2).symm.trans hv
    rw [(h3 s0 hs0).1] at this
    exact Option.some.inj this
  have hvt : ∀ g, v.ownBlock = some g → ∃ cur, w.heap[g]? = some (.cells cur 5 (0, 0)) := fun g hg => by
    have := (h3 s0 hs0).2
    rw [hv0] at this
    exact own_at this hg
  have far : ∀ (g : Nat) (arr' : Array Value) (t : TypeId) (fr : Nat × Nat), w.heap[g]? = some (.cells arr' t fr) → t ≠ 5 → w1.heap[g]? = some (.cells arr' t fr) := fun g arr' t fr hg ht => by
    refine (ha.gr.block g (lt_heap hg) (fun e => ?_)).trans hg
    obtain ⟨cur, hc⟩ := hvt g e.symm
    rw [hc] at hg
    simp at hg
    exact ht hg.2.1.symm
  have h21 := far gw _ _ _ h2 (by decide)
  have h11 := far bw _ _ _ h1 (by decide)
  have hbg : bw ≠ gw := fun e => by
    subst e
    rw [h1] at h2
    simp at h2
  obtain ⟨g1, c1, rfl, hp1⟩ := ha.pl
  have hne : ∀ g cur, w1.heap[g]? = some (.cells cur 5 (0, 0)) → g ≠ gw := fun g cur hg e => by
    subst e
    rw [h21] at hg
    simp at hg
  refine ⟨⟨c, (heap_setCell_other w1 ⟨gw, s0, none⟩ bw _ hbg).trans h11⟩, _, fun s => if s = s0 then .slice (some ⟨g1, 0, none⟩) (bytesK (P s0) ++ encK k.1 k.2).length c1 else V s, heap_setCell_same w1 gw s0 _ _ _ h21, fun s hs => ?_, fun s s' hs hs' hss g hg => ?_⟩
  · have hsz : s0 < arr.size := by
      have := (h3 s0 hs0).1
      exact (Array.getElem?_eq_some_iff.1 this).1
    by_cases he : s = s0
    · subst he
      simp only [if_true]
      refine ⟨by simp [hsz], ?_⟩
      have e : bytesK (P s ++ [k]) = bytesK (P s) ++ encK k.1 k.2 := by rw [bytesK_append, bytesK_cons]; simp [bytesK]
      rw [e]
      refine ha.own.far (fun g hg => ?_)
      obtain ⟨cur, hc⟩ := own_at ha.own hg
      exact heap_setCell_other w1 ⟨gw, s, none⟩ g _ (hne g cur hc)
    · simp only [if_neg he]
      refine ⟨by rw [Array.getElem?_setIfInBounds_ne (fun e => he e.symm)]; exact (h3 s hs).1, ?_⟩
      refine (h3 s hs).2.far (fun g hg => ?_)
      obtain ⟨cur, hc⟩ := own_at (h3 s hs).2 hg
      have hb1 : w1.heap[g]? = w.heap[g]? := ha.gr.block g (lt_heap hc) (fun e => h4 s s0 hs hs0 he g hg (by rw [hv0]; exact e.symm))
      rw [← hb1]
      exact heap_setCell_other w1 ⟨gw, s0, none⟩ g _ (hne g cur (hb1.trans hc))
  · by_cases h1' : s = s0
    · subst h1'
      simp only [if_true] at hg
      have hgg : g = g1 := by simpa [Value.ownBlock] using hg.symm
      subst hgg
      simp only [if_neg (Ne.symm hss)]
      intro hh
      rcases hp1 with e | e
      · exact h4 s s' hs hs' hss g (by rw [hv0]; exact e) hh
      · obtain ⟨cur, hc⟩ := own_at (h3 s' hs').2 hh
        have := lt_heap hc
        omega
    · simp only [if_neg h1'] at hg
      by_cases h2' : s' = s0
      · subst h2'
        simp only [if_true]
        intro hh
        have hgg : g = g1 := by simpa [Value.ownBlock] using hh.symm
        subst hgg
        rcases hp1 with e | e
        · exact h4 s s' hs hs' hss g hg (by rw [hv0]; exact e)
        · obtain ⟨cur, hc⟩ := own_at (h3 s hs).2 hg
          have := lt_heap hc
          omega
      · simp only [if_neg h2']
        exact h4 s s' hs hs' hss g hg
theorem info24 : ∃ i, Ybaf.prog.info? 24 = some i ∧ i.zero = some (.slice none 0 0) ∧ i.size = 1 ∧ i.bytes = 24 := by
  have h1 : (Ybaf.prog.info? 24).map (·.size) = some 1 := by kernel_rfl
  have h2 : (Ybaf.prog.info? 24).map (·.bytes) = some 24 := by kernel_rfl
  have h3 : (Ybaf.prog.info? 24).bind (·.zero) = some (.slice none 0 0) := by kernel_rfl
  obtain ⟨i, hi, hb⟩ := Option.map_eq_some_iff.1 h1
  rw [hi] at h2 h3
  exact ⟨i, hi, h3, hb, by simpa using h2⟩

theorem partW_succ (nR : Nat) (vs : List Nat) (i : Nat) (h : i < vs.length) : (fun s => if s = slotF nR vs[i] then partW nR vs i (slotF nR vs[i]) ++ [keyOf vs[i]] else partW nR vs i s) = partW nR vs (i + 1) := by
  funext s
  unfold partW
  rw [List.take_add_one, List.getElem?_eq_getElem h, Option.toList_some, List.filter_append, List.map_append]
  by_cases hs : s = slotF nR vs[i]
  · rw [if_pos hs, hs]
    simp
  · rw [if_neg hs]
    have : (slotF nR vs[i] == s) = false := by simpa using fun e => hs e.symm
    simp [this]
theorem partW_len (nR : Nat) (vs : List Nat) (i s : Nat) : (bytesK (partW nR vs i s)).length ≤ 6 * vs.length := by
  have h1 := bytesK_le (partW nR vs i s)
  have h2 : (partW nR vs i s).length ≤ vs.length := by
    unfold partW
    rw [List.length_map]
    have := List.length_filter_le (fun v => slotF nR v == s) (vs.take i)
    rw [List.length_take] at this
    omega
  omega
theorem WantOk.at {w : World} {N bw gw nR s : Nat} {P : Nat → List (Nat × Nat)} (h : WantOk w N bw gw nR P) (hs : s < nR) : ∃ v, w.cell? ⟨gw, s, none⟩ = some v ∧ w.frozen? ⟨gw, s, none⟩ = false ∧ Buf w N v (bytesK (P s)) := by
  obtain ⟨arr, V, h2, h3, _⟩ := h.v
  exact ⟨V s, (cell_of_row w gw s _ _ _ h2).trans (h3 s hs).1, frozen_of_row w gw s _ _ h2, (h3 s hs).2⟩

theorem Buf.sl {w : World} {N : Nat} {v : Value} {bs : List Nat} (h : Buf w N v bs) : ∃ a c, v = .slice a bs.length c ∧ Sl w a c bs ∧ (bs ≠ [] → ∃ g, a = some ⟨g, 0, none⟩) := by
  rcases h.2 with ⟨rfl, h0⟩ | ⟨g, cap, cur, rfl, _, hg, h1, h2, h3, h4⟩
  · have : bs = [] := List.eq_nil_of_length_eq_zero h0
    subst this
    exact ⟨none, 0, rfl, ⟨Nat.le_refl _, fun ad e => by simp at e, fun _ => rfl⟩, fun e => absurd rfl e⟩
  · refine ⟨some ⟨g, 0, none⟩, cap, rfl, ⟨h1, fun ad e => ?_, fun e => by simp at e⟩, fun _ => ⟨g, rfl⟩⟩
    have e' : ad = ⟨g, 0, none⟩ := by simpa using e.symm
    refine ⟨g, 0, e', cur, (0, 0), hg, fun j hj => ?_⟩
    have h5 : (bs.map bV)[j]? = some (bV bs[j]) := by simp [hj]
    rw [← h4, List.getElem?_take] at h5
    split at h5
    · simpa using h5
    · simp at h5

theorem want_step {w wc w2 w3 : World} {bw gw nR i v : Nat} {vs : List Nat} {vv v' cwv : Value} (hlt : i < vs.length) (hvv : v = vs[i]) (hsl : slotF nR v < nR) (hw : WantOk wc (bw + 1) bw gw nR (partW nR vs i)) (hgr : w.grownBy wc none) (hgw : w.heap.size ≤ gw) (hbw : w.heap.size ≤ bw) (hNr : bw + 1 ≤ wc.heap.size) (h2 : wc.grownBy w2 none)
    (cv : wc.cell? ⟨gw, slotF nR v, none⟩ = some vv) (fv : wc.frozen? ⟨gw, slotF nR v, none⟩ = false) (cb : wc.cell? ⟨bw, 0, none⟩ = some cwv) (hbuf : Buf wc (bw + 1) vv (bytesK (partW nR vs i (slotF nR v)))) (ha : App w2 (bw + 1) vv (bytesK (partW nR vs i (slotF nR v)) ++ encK v v) v' w3) :
    WantOk (w3.setCell ⟨gw, slotF nR v, none⟩ v') (bw + 1) bw gw nR (partW nR vs (i + 1)) ∧ w.grownBy (w3.setCell ⟨gw, slotF nR v, none⟩ v') none ∧ bw + 1 ≤ (w3.setCell ⟨gw, slotF nR v, none⟩ v').heap.size ∧ w3.cell? ⟨gw, slotF nR v, none⟩ = some vv ∧ w3.frozen? ⟨gw, slotF nR v, none⟩ = false ∧ w3.cell? ⟨bw, 0, none⟩ = some cwv := by
  have hw2 := hw.kept h2
  have cv2 := (h2.cell_far ⟨gw, slotF nR v, none⟩ (World.block_lt_of_cell? _ _ cv) (by simp)).trans cv
  have fv2 := (h2.frozen_far ⟨gw, slotF nR v, none⟩ (World.block_lt_of_cell? _ _ cv) (by simp)).trans fv
  have cb2 := (h2.cell_far ⟨bw, 0, none⟩ (World.block_lt_of_cell? _ _ cb) (by simp)).trans cb
  have h3 := hw2.add (k := keyOf v) hsl cv2 ha
  have e := partW_succ nR vs i hlt
  rw [← hvv] at e
  rw [e] at h3
  have hb2 := hbuf.kept0 h2
  have hne : ∀ (k : Nat) (arr : Array Value) (t : TypeId) (fr : Nat × Nat), w2.heap[k]? = some (.cells arr t fr) → t ≠ 5 → some k ≠ vv.ownBlock := fun k arr t fr hk ht hh => by
    obtain ⟨cur, hc⟩ := own_at hb2 hh.symm
    rw [hc] at hk
    simp at hk
    exact ht hk.2.1.symm
  obtain ⟨arr, V, hgwb, _⟩ := hw2.v
  obtain ⟨c, hbwb⟩ := hw2.b
  refine ⟨h3, ?_, ?_, ?_, ?_, ?_⟩
  · have h4 := (hgr.trans h2).andThen ha.gr (fun j hj => .inl (by have := (hb2.lt j hj).1; omega))
    exact h4.andThen (gr_setCell w3 ⟨gw, slotF nR v, none⟩ v').g (fun j hj => .inl (by have : gw = j := (by simpa using hj); omega))
  · have h5 := h2.size
    have h6 := ha.gr.size
    have h7 := (gr_setCell w3 ⟨gw, slotF nR v, none⟩ v').size
    omega
  · exact (ha.gr.cell_far ⟨gw, slotF nR v, none⟩ (lt_heap hgwb) (hne _ _ _ _ hgwb (by decide))).trans cv2
  · exact (ha.gr.frozen_far ⟨gw, slotF nR v, none⟩ (lt_heap hgwb) (hne _ _ _ _ hgwb (by decide))).trans fv2
  · exact (ha.gr.cell_far ⟨bw, 0, none⟩ (lt_heap hbwb) (hne _ _ _ _ hbwb (by decide))).trans cb2
end Go.Proofs.YbulkbasiFmt
