import Derived.Test.YbulkbasiFmtBB
namespace Go.Proofs.YbulkbasiFmt
open Go.RowKit
set_option maxRecDepth 100000

theorem compact_incr (zs : List Int) (hs : ∀ i j (hj : j < zs.length) (hi : i ≤ j), zs[i] ≤ zs[j]) : (Lib.compact zs).Pairwise (· < ·) := by
  unfold Lib.compact Lib.compactUpTo
  rw [List.pairwise_map, List.pairwise_filter]
  have hget : ∀ j (hj : j < zs.length), zs.toArray[j]! = zs[j] := fun j hj => by simp [hj]
  have h0 := List.pairwise_lt_range (n := zs.length)
  refine List.Pairwise.imp_of_mem ?_ h0
  intro i j hi hj hlt _ hk
  rw [List.mem_range] at hi hj
  rw [hget i hi, hget j hj]
  have h1 : zs[j] ≠ zs[j - 1] := by
    unfold Lib.keeps at hk
    rw [decide_eq_true_eq] at hk
    rcases hk with h | h
    · omega
    · rw [hget j hj, hget (j - 1) (by omega)] at h
      exact h
  have h2 := hs i (j - 1) (by omega) (by omega)
  have h3 := hs (j - 1) j hj (by omega)
  omega
theorem sorted_get (sel : List Nat) (i j : Nat) (hj : j < (sortedI sel).length) (hi : i ≤ j) : (sortedI sel)[i] ≤ (sortedI sel)[j] := by
  have hp : (sortedI sel).Pairwise (fun x y => (decide (x ≤ y)) = true) := by
    unfold sortedI
    apply List.pairwise_mergeSort
    · intro a b c h1 h2
      simp at h1 h2 ⊢
      omega
    · intro a b
      simp
      omega
  by_cases h : i = j
  · subst h
    exact Int.le_refl _
  · have := List.pairwise_iff_getElem.1 hp i j (by omega) hj (by omega)
    simpa using this
theorem names_incr (sel : List Nat) : (namesOf sel).Pairwise (· < ·) := by
  unfold namesOf
  rw [List.pairwise_map]
  refine List.Pairwise.imp_of_mem ?_ (compact_incr (sortedI sel) (fun i j hj hi => sorted_get sel i j hj hi))
  intro a b ha hb hlt
  have h1 := sorted_mem (compact_mem ha)
  have h2 := sorted_mem (compact_mem hb)
  omega
theorem names_lt (sel : List Nat) : ∀ v ∈ namesOf sel, v < 1000 := by
  intro v hv
  unfold namesOf at hv
  obtain ⟨x, hx, rfl⟩ := List.mem_map.1 hv
  have := sorted_mem (compact_mem hx)
  omega
theorem names_len (sel : List Nat) : (namesOf sel).length ≤ 1000 := incr_len 1000 _ 0 (names_incr sel) (fun x hx => ⟨Nat.zero_le _, names_lt sel x hx⟩)
theorem pc_names (n : Nat) (hn : n ≤ 400) (sel : List Nat) :
    PC (lkOf n) ((namesOf sel).map keyOf) (spansOf (lkOf n) (rsOf (lkOf n))) (nRof n) (Tof (nRof n) (namesOf sel)) (slotF (nRof n)) (fun m => 128 * m + 2) (partF (nRof n) (namesOf sel)) :=
  pc_of n hn _ (names_incr sel) (names_lt sel)
end Go.Proofs.YbulkbasiFmt
