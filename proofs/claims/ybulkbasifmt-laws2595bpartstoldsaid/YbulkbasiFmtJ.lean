import Derived.Test.YbulkbasiFmtI
namespace Go.Proofs.YbulkbasiFmt
open Go.RowKit
set_option maxRecDepth 100000

theorem add_any (w : World) (N C : Nat) (rv : Value) (rs : List Run) (at' v : Nat) (h : Cut w N C rv rs) (hn : ∀ r ∈ rs, r.n ≤ 1000) (hsl : rs.length ≤ 1000) (hN : N ≤ w.heap.size) :
    Calls Ybaf.prog 16 #[.pointer (some ⟨C, 0, none⟩), .int .i64 (at' : Int), .int .u64 (v : Int)] w fun e w' => e = .returned (.tuple #[]) ∧ ∃ rv', Cut w' N C rv' (addR rs at' v) ∧ Kp (fun k => k = C ∨ some k = rv.ownBlock) w w' ∧ (rv'.ownBlock = rv.ownBlock ∨ ∃ g, rv'.ownBlock = some g ∧ w.heap.size ≤ g) := by
  unfold addR
  by_cases hc : isNew rs = true
  · rw [if_pos hc]
    exact add_new w N C rv rs at' v h hc hsl hN
  · rw [if_neg hc]
    rcases List.eq_nil_or_concat rs with e | ⟨s, r, e⟩
    · rw [e] at hc
      exact absurd rfl hc
    · have e' : rs = s ++ [r] := by simpa using e
      subst e'
      simp only [List.getLast?_append, List.getLast?_singleton, Option.some_or, List.dropLast_concat]
      refine add_old w N C rv s r at' v h (fun e => hc ?_) (hn r (by simp)) (by simp at hsl; omega)
      unfold isNew
      simp [e]

theorem RunsAt.of_own {w : World} {N g cap n c m : Nat} {l : List Run} {rest : List Value} (h : w.ownsRow N 41 3 (.slice (some ⟨g, 0, none⟩) n cap) n (flatR l ++ rest)) (hm : l.length = m) : RunsAt w (.slice (some ⟨g, 0, none⟩) m c) l := by
  subst hm
  rcases h.2 with ⟨h', _⟩ | ⟨g', cap', cur, he, hb, hg, h1, h2, h3, h4⟩
  · simp at h'
  · simp at he
    obtain ⟨rfl, rfl⟩ := he
    refine ⟨g, c, cur, 41, (0, 0), rfl, hg, .inl rfl, fun j v hj => ?_⟩
    have hjl := (List.getElem?_eq_some_iff.1 hj).1
    have : (flatR l ++ rest)[j]? = some v := by rw [List.getElem?_append_left hjl]; exact hj
    rw [← h4, List.getElem?_take] at this
    split at this
    · simpa using this
    · simp at this
theorem joined_flat (s : List Run) (r1 r2 : Run) : ((flatR (s ++ [r1] ++ [r2])).set (s.length * 3 + 1) (.int .i64 ((r1.n : Int) + (r2.n : Int)))).set (s.length * 3 + 2) (.int .u64 (max (r1.nw : Int) (r2.nw : Int))) = flatR (s ++ [⟨r1.at', r1.n + r2.n, max r1.nw r2.nw⟩]) ++ runV r2 := by
  have e1 : ((r1.n : Int) + (r2.n : Int)) = ((r1.n + r2.n : Nat) : Int) := by omega
  have e2 : (max (r1.nw : Int) (r2.nw : Int)) = ((max r1.nw r2.nw : Nat) : Int) := by omega
  have hl : (flatR (s ++ [r1])).length = s.length * 3 + 3 := by rw [flatR_length]; simp; omega
  rw [flatR_append, e1, e2, List.set_append_left _ _ (by omega), List.set_append_left _ _ (by rw [List.length_set]; omega), flatR_set]
  simp [flatR]

/-- The last run joins the one before where it is short. -/
def joined (s : List Run) (r1 r2 : Run) : List Run := s ++ [⟨r1.at', r1.n + r2.n, max r1.nw r2.nw⟩]

set_option maxHeartbeats 2000000 in
theorem end_join (w : World) (N C : Nat) (rv : Value) (s : List Run) (r1 r2 : Run) (h : Cut w N C rv (s ++ [r1] ++ [r2])) (hr : r2.n < 64) (hr1 : r1.n ≤ 1000) (hsl : s.length ≤ 1000) :
    Calls Ybaf.prog 18 #[.pointer (some ⟨C, 0, none⟩)] w fun e w' => e = .returned (.tuple #[]) ∧ ∃ rv', w'.heap[C]? = some (.cells #[rv', .int .i64 ((s.length + 1 : Nat) : Int)] 53 (0, 0)) ∧ RunsAt w' rv' (joined s r1 r2) ∧ Kp (fun k => k = C ∨ some k = rv.ownBlock) w w' := by
  obtain ⟨g, cap, rfl⟩ := h.fm
  have hlen : (s ++ [r1] ++ [r2]).length = s.length + 2 := by simp
  have ho := h.own
  have hc := h.c
  rw [hlen] at ho hc
  obtain ⟨a1, a2, a3⟩ := flatR_get (s ++ [r1] ++ [r2]) s.length r1 (by simp)
  obtain ⟨b1, b2, b3⟩ := flatR_get (s ++ [r1] ++ [r2]) (s.length + 1) r2 (by simp)
  have q2 := own_cell ho _ _ a2
  have q3 := own_cell ho _ _ a3
  have p1 := own_cell ho _ _ b1
  have p2 := own_cell ho _ _ b2
  have p3 := own_cell ho _ _ b3
  obtain ⟨cur, hg⟩ := own_at ho (g := g) rfl
  have hcap : s.length + 2 ≤ cap := by
    rcases ho.2 with ⟨h', _⟩ | ⟨g', cap', cur', he, _, _, h1, _⟩
    · simp at h'
    · simp at he
      omega
  have d0 : w.cell? ⟨C, 0, none⟩ = some (.slice (some ⟨g, 0, none⟩) (s.length + 2) cap) := (cell_of_row w C 0 _ _ _ hc).trans rfl
  have d1 : w.cell? ⟨C, 1, none⟩ = some (.int .i64 0) := (cell_of_row w C 1 _ _ _ hc).trans rfl
  have hr' : ((r2.n : Int) < 64) := by omega
  have hHc : Hid (w.heap[C]? = some (.cells #[.slice (some ⟨g, 0, none⟩) (s.length + 2) cap, .int .i64 0] 53 (0, 0)) ∧ w.heap[g]? = some (.cells cur 41 (0, 0))) := ⟨hc, hg⟩
  have hHo : Hid (w.ownsRow N 41 3 (.slice (some ⟨g, 0, none⟩) (s.length + 2) cap) (s.length + 2) (flatR (s ++ [r1] ++ [r2]))) := ho
  clear h ho hc hg a1 a2 a3 b1 b2 b3 hlen
  obtain ⟨L1, hL1⟩ : ∃ L1, L1 = s.length + 1 := ⟨_, rfl⟩
  obtain ⟨L2, hL2⟩ : ∃ L2, L2 = s.length + 2 := ⟨_, rfl⟩
  have hw1 : IntKind.i64.wrap ((L2 : Int) - 1) = (L1 : Int) := by rw [IntKind.wrap_i64]; omega
  have hw2 : IntKind.i64.wrap ((L2 : Int) - 2) = (s.length : Int) := by rw [IntKind.wrap_i64]; omega
  have hw3 : IntKind.i64.wrap ((L2 : Int) - 0) = (L2 : Int) := by rw [IntKind.wrap_i64]; omega
  have hb1 : (0 : Int) ≤ (L1 : Int) := by omega
  have hb2 : (L1 : Int) < (L2 : Int) := by omega
  have hb3 : (0 : Int) ≤ (s.length : Int) := by omega
  have hb4 : (s.length : Int) < (L2 : Int) := by omega
  have hb5 : (2 : Int) ≤ (L2 : Int) := by omega
  have hb6 : (L1 : Int) ≤ (cap : Int) := by omega
  have hw4 : IntKind.i64.wrap ((r1.n : Int) + (r2.n : Int)) = (r1.n : Int) + (r2.n : Int) := by rw [IntKind.wrap_i64]; omega
  rw [← hL2] at d0 hcap
  rw [← hL1] at p1 p2 p3
  have hHL : Hid (L1 = s.length + 1 ∧ L2 = s.length + 2) := ⟨hL1, hL2⟩
  rw [← hL2] at hHc hHo
  have hLL : L2 - 1 = L1 := by omega
  have hcapL : L2 ≤ 1003 := by omega
  clear hL1 hL2
  go_enter Ybaf.func18, Ybaf.ntmps18
  go_wp2
  go_region_held3 (fun w' => w'.cell? ⟨C, 0, none⟩ = some (.slice (some ⟨g, 0, none⟩) L2 cap) ∧ w'.cell? ⟨g, L1 * 3, none⟩ = some (.int .i64 (r2.at' : Int)) ∧ w'.cell? ⟨g, L1 * 3 + 1, none⟩ = some (.int .i64 (r2.n : Int)) ∧ w'.cell? ⟨g, L1 * 3 + 2, none⟩ = some (.int .u64 (r2.nw : Int))) (go_keep) (fail)
  have hg1 := (gr_alloc w (.cells #[.int .i64 (r2.at' : Int), .int .i64 (r2.n : Int), .int .u64 (r2.nw : Int)] 41) none).trans (gr_drew _)
  have hX1 : (w.alloc (.cells #[.int .i64 (r2.at' : Int), .int .i64 (r2.n : Int), .int .u64 (r2.nw : Int)] 41)).drew.heap[w.heap.size]? = some (.cells #[.int .i64 (r2.at' : Int), .int .i64 (r2.n : Int), .int .u64 (r2.nw : Int)] 41 (0, 0)) := heap_alloc_new w _
  have hlX := lt_heap hHc.out.2
  rename_i hheld
  clear hheld
  generalize (w.alloc (.cells #[.int .i64 (r2.at' : Int), .int .i64 (r2.n : Int), .int .u64 (r2.nw : Int)] 41)).drew = w1 at hg1 hX1 ⊢
  have hC1 := (hg1.block C (lt_heap hHc.out.1) (by simp)).trans hHc.out.1
  have hG1 := (hg1.block g (lt_heap hHc.out.2) (by simp)).trans hHc.out.2
  have ho1 := hHo.out.kept hg1.g (.inr (by simp [Value.ownBlock]))
  generalize w.heap.size = X at hX1 hlX ⊢
  obtain ⟨_, a2, a3⟩ := flatR_get (s ++ [r1] ++ [r2]) s.length r1 (by simp)
  have y2 := own_cell ho1 _ _ a2
  have y3 := own_cell ho1 _ _ a3
  have x1 : w1.cell? ⟨X, 1, none⟩ = some (.int .i64 (r2.n : Int)) := (cell_of_row w1 X 1 _ _ _ hX1).trans rfl
  have z2 := frozen_of_row w1 g (s.length * 3 + 1) _ _ hG1
  have hHh : Hid (w1.heap[C]? = some (.cells #[.slice (some ⟨g, 0, none⟩) L2 cap, .int .i64 0] 53 (0, 0)) ∧ w1.heap[g]? = some (.cells cur 41 (0, 0)) ∧ w1.heap[X]? = some (.cells #[.int .i64 (r2.at' : Int), .int .i64 (r2.n : Int), .int .u64 (r2.nw : Int)] 41 (0, 0)) ∧ w1.ownsRow N 41 3 (.slice (some ⟨g, 0, none⟩) L2 cap) L2 (flatR (s ++ [r1] ++ [r2]))) := ⟨hC1, hG1, hX1, ho1⟩
  clear hC1 hG1 hX1 ho1 a2 a3 y3 q2 q3 p1 p2 p3 d0 d1
  go_wp2
  go_region
  have hG2 : Gr w1 (w1.setCell ⟨g, s.length * 3 + 1, none⟩ (.int .i64 ((r1.n : Int) + (r2.n : Int)))).drew (some g) := (gr_setCell w1 ⟨g, s.length * 3 + 1, none⟩ _).trans (gr_drew _ _)
  have ho2 : (w1.setCell ⟨g, s.length * 3 + 1, none⟩ (.int .i64 ((r1.n : Int) + (r2.n : Int)))).drew.ownsRow N 41 3 (.slice (some ⟨g, 0, none⟩) L2 cap) L2 ((flatR (s ++ [r1] ++ [r2])).set (s.length * 3 + 1) (.int .i64 ((r1.n : Int) + (r2.n : Int)))) := own_set hHh.out.2.2.2 _ _
  have hXg : X ≠ g := by omega
  have hCg : C ≠ g := fun e => by
    have h1 := hHh.out.1
    have h2 := hHh.out.2.1
    rw [e, h2] at h1
    simp at h1
  generalize (w1.setCell ⟨g, s.length * 3 + 1, none⟩ (.int .i64 ((r1.n : Int) + (r2.n : Int)))).drew = w2 at hG2 ho2 ⊢
  have hC2 := (hG2.block C (lt_heap hHh.out.1) (by simpa using hCg)).trans hHh.out.1
  have hX2 := (hG2.block X (lt_heap hHh.out.2.2.1) (by simpa using hXg)).trans hHh.out.2.2.1
  obtain ⟨cur2, hg2⟩ := own_at ho2 (g := g) rfl
  obtain ⟨_, _, a3⟩ := flatR_get (s ++ [r1] ++ [r2]) s.length r1 (by simp)
  have y3 := own_cell ho2 (s.length * 3 + 2) (.int .u64 (r1.nw : Int)) (by rw [List.getElem?_set_ne (by omega)]; exact a3)
  have x2 : w2.cell? ⟨X, 2, none⟩ = some (.int .u64 (r2.nw : Int)) := (cell_of_row w2 X 2 _ _ _ hX2).trans rfl
  have z3 := frozen_of_row w2 g (s.length * 3 + 2) _ _ hg2
  have hHi : Hid (w2.heap[C]? = some (.cells #[.slice (some ⟨g, 0, none⟩) L2 cap, .int .i64 0] 53 (0, 0)) ∧ w2.heap[g]? = some (.cells cur2 41 (0, 0)) ∧ w2.ownsRow N 41 3 (.slice (some ⟨g, 0, none⟩) L2 cap) L2 ((flatR (s ++ [r1] ++ [r2])).set (s.length * 3 + 1) (.int .i64 ((r1.n : Int) + (r2.n : Int))))) := ⟨hC2, hg2, ho2⟩
  clear hC2 hg2 ho2 a3 hX2 x1 y2 z2
  go_wp2
  go_region
  have hG3 : Gr w2 (w2.setCell ⟨g, s.length * 3 + 2, none⟩ (.int .u64 (max (r1.nw : Int) (r2.nw : Int)))).drew (some g) := (gr_setCell w2 ⟨g, s.length * 3 + 2, none⟩ _).trans (gr_drew _ _)
  have ho3 : (w2.setCell ⟨g, s.length * 3 + 2, none⟩ (.int .u64 (max (r1.nw : Int) (r2.nw : Int)))).drew.ownsRow N 41 3 (.slice (some ⟨g, 0, none⟩) L2 cap) L2 (((flatR (s ++ [r1] ++ [r2])).set (s.length * 3 + 1) (.int .i64 ((r1.n : Int) + (r2.n : Int)))).set (s.length * 3 + 2) (.int .u64 (max (r1.nw : Int) (r2.nw : Int)))) := own_set hHi.out.2.2 _ _
  generalize (w2.setCell ⟨g, s.length * 3 + 2, none⟩ (.int .u64 (max (r1.nw : Int) (r2.nw : Int)))).drew = w3 at hG3 ho3 ⊢
  have hC3 := (hG3.block C (lt_heap hHi.out.1) (by simpa using hCg)).trans hHi.out.1
  have c0 : w3.cell? ⟨C, 0, none⟩ = some (.slice (some ⟨g, 0, none⟩) L2 cap) := (cell_of_row w3 C 0 _ _ _ hC3).trans rfl
  have c1 : w3.cell? ⟨C, 1, none⟩ = some (.int .i64 0) := (cell_of_row w3 C 1 _ _ _ hC3).trans rfl
  have f0 := frozen_of_row w3 C 0 _ _ hC3
  have f1 := frozen_of_row w3 C 1 _ _ hC3
  have hHj : Hid (w3.heap[C]? = some (.cells #[.slice (some ⟨g, 0, none⟩) L2 cap, .int .i64 0] 53 (0, 0)) ∧ w3.ownsRow N 41 3 (.slice (some ⟨g, 0, none⟩) L2 cap) L2 (((flatR (s ++ [r1] ++ [r2])).set (s.length * 3 + 1) (.int .i64 ((r1.n : Int) + (r2.n : Int)))).set (s.length * 3 + 2) (.int .u64 (max (r1.nw : Int) (r2.nw : Int))))) := ⟨hC3, ho3⟩
  clear hC3 ho3 y3 x2 z3
  go_wp2
  go_end0
  have h1 := heap_setCell_same w3 C 0 _ _ (.slice (some ⟨g, 0, none⟩) L1 cap) hHj.out.1
  have h2 := heap_setCell_same _ C 1 _ _ (.int .i64 (L1 : Int)) h1
  have hG4 := (gr_setCell w3 ⟨C, 0, none⟩ (.slice (some ⟨g, 0, none⟩) L1 cap)).trans (gr_setCell _ ⟨C, 1, none⟩ (.int .i64 (L1 : Int)))
  have ho3 := hHj.out.2
  rw [joined_flat] at ho3
  have ho4 := ho3.kept hG4.g (.inr (by simp [Value.ownBlock]; exact fun e => hCg e.symm))
  refine ⟨rfl, .slice (some ⟨g, 0, none⟩) L1 cap, ?_, RunsAt.of_own ho4 (by rw [hHL.out.1]; simp [joined]), ?_⟩
  · rw [← hHL.out.1]
    exact h2
  · exact (((kp_of hg1.g (fun R e => by simp at e)).trans (kp_of hG2.g (fun R e => .inr e.symm))).trans (kp_of hG3.g (fun R e => .inr e.symm))).trans (kp_of hG4.g (fun R e => .inl (by simpa using e.symm)))

set_option maxHeartbeats 1000000 in
theorem end_same (w : World) (N C : Nat) (rv : Value) (s : List Run) (r : Run) (h : Cut w N C rv (s ++ [r])) (hr : 64 ≤ r.n) (hs1 : 1 ≤ s.length) (hsl : s.length ≤ 1000) :
    Calls Ybaf.prog 18 #[.pointer (some ⟨C, 0, none⟩)] w fun e w' => e = .returned (.tuple #[]) ∧ ∃ rv', w'.heap[C]? = some (.cells #[rv', .int .i64 ((s.length + 1 : Nat) : Int)] 53 (0, 0)) ∧ RunsAt w' rv' (s ++ [r]) ∧ Kp (fun k => k = C ∨ some k = rv.ownBlock) w w' := by
  obtain ⟨g, cap, rfl⟩ := h.fm
  have hlen : (s ++ [r]).length = s.length + 1 := by simp
  have ho := h.own
  have hc := h.c
  rw [hlen] at ho hc
  obtain ⟨a1, a2, a3⟩ := flatR_get (s ++ [r]) s.length r (by simp)
  have p2 := own_cell ho _ _ a2
  have d0 : w.cell? ⟨C, 0, none⟩ = some (.slice (some ⟨g, 0, none⟩) (s.length + 1) cap) := (cell_of_row w C 0 _ _ _ hc).trans rfl
  have d1 : w.cell? ⟨C, 1, none⟩ = some (.int .i64 0) := (cell_of_row w C 1 _ _ _ hc).trans rfl
  have f1 := frozen_of_row w C 1 _ _ hc
  have hr' : ¬ ((r.n : Int) < 64) := by omega
  have hs' : (2 : Int) ≤ (s.length : Int) + 1 := by omega
  have hHc : Hid (w.heap[C]? = some (.cells #[.slice (some ⟨g, 0, none⟩) (s.length + 1) cap, .int .i64 0] 53 (0, 0))) := hc
  have hHo : Hid (w.ownsRow N 41 3 (.slice (some ⟨g, 0, none⟩) (s.length + 1) cap) (s.length + 1) (flatR (s ++ [r]))) := ho
  have hCg : C ≠ g := fun e => by
    obtain ⟨cur, hg⟩ := own_at ho (g := g) rfl
    rw [e, hg] at hc
    simp at hc
  clear h ho hc a1 a2 a3 hlen
  go_enter Ybaf.func18, Ybaf.ntmps18
  go_wp2
  go_end0
  have hG := gr_setCell w ⟨C, 1, none⟩ (.int .i64 ((s.length : Int) + 1))
  have ho4 := hHo.out.kept hG.g (.inr (by simp [Value.ownBlock]; exact fun e => hCg e.symm))
  refine ⟨rfl, .slice (some ⟨g, 0, none⟩) (s.length + 1) cap, heap_setCell_same w C 1 _ _ _ hHc.out, RunsAt.of_own (rest := []) (by rw [List.append_nil]; exact ho4) (by simp), kp_of hG.g (fun R e => .inl (by simpa using e.symm))⟩

set_option maxHeartbeats 400000 in
theorem cut_any (w : World) (C : Nat) (a : Addr) (n cap : Nat) (st : Int) (hC : w.heap[C]? = some (.cells #[.slice (some a) n cap, .int .i64 st] 53 (0, 0))) :
    Calls Ybaf.prog 19 #[.pointer (some ⟨C, 0, none⟩)] w fun e w' => ∃ Q, e = .returned (.pointer (some ⟨Q, 0, none⟩)) ∧ w'.heap[Q]? = some (.cells #[.slice (some a) n cap] 51 (0, 0)) ∧ Gr w w' none := by
  have d0 : w.cell? ⟨C, 0, none⟩ = some (.slice (some a) n cap) := (cell_of_row w C 0 _ _ _ hC).trans rfl
  clear hC
  go_enter Ybaf.func19, Ybaf.ntmps19
  go_wp2
  go_ret
  exact ⟨_, rfl, heap_alloc_new _ _, gr_alloc _ _ _⟩
end Go.Proofs.YbulkbasiFmt
