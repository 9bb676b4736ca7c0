import Derived.Test.YbulkbasiFmtH
namespace Go.Proofs.YbulkbasiFmt
open Go.RowKit
set_option maxRecDepth 100000

/-! ### Cutting in runs -/
section
variable {a : World}
theorem own_at {N : Nat} {e : TypeId} {size n : Nat} {v : Value} {xs : List Value} {g : Nat} (h : a.ownsRow N e size v n xs) (hg : v.ownBlock = some g) : ∃ cur, a.heap[g]? = some (.cells cur e (0, 0)) := by
  rcases h.2 with ⟨rfl, _⟩ | ⟨g', cap, cur, rfl, _, hg', _⟩
  · simp [Value.ownBlock] at hg
  · simp [Value.ownBlock] at hg
    exact ⟨cur, hg ▸ hg'⟩
theorem own_set {N : Nat} {e : TypeId} {size n cap g : Nat} {xs : List Value} (h : a.ownsRow N e size (.slice (some ⟨g, 0, none⟩) n cap) n xs) (j : Nat) (u : Value) :
    (a.setCell ⟨g, j, none⟩ u).ownsRow N e size (.slice (some ⟨g, 0, none⟩) n cap) n (xs.set j u) := by
  refine ⟨by simpa using h.1, ?_⟩
  rcases h.2 with ⟨h', _⟩ | ⟨g', cap', cur, he, hb, hg, h1, h2, h3, h4⟩
  · simp at h'
  · simp at he
    obtain ⟨rfl, rfl⟩ := he
    refine .inr ⟨g, cap, _, rfl, hb, heap_setCell_same a g j cur e u hg, h1, h2, by simpa using h3, ?_⟩
    rw [← h4, Array.toList_setIfInBounds, List.take_set]
theorem own_cell {N : Nat} {e : TypeId} {size n cap g : Nat} {xs : List Value} (h : a.ownsRow N e size (.slice (some ⟨g, 0, none⟩) n cap) n xs) (j : Nat) (u : Value) (hj : xs[j]? = some u) : a.cell? ⟨g, j, none⟩ = some u := by
  have := h.cells (g := g) rfl j u hj
  have e : (⟨g, 0, none⟩ : Addr).add j = ⟨g, j, none⟩ := by unfold Addr.add; split <;> simp_all
  rwa [e] at this
theorem own_far {w w' : World} {N : Nat} {e : TypeId} {size n : Nat} {v : Value} {xs : List Value} (h : w.ownsRow N e size v n xs) (hg : ∀ g, v.ownBlock = some g → w'.heap[g]? = w.heap[g]?) : w'.ownsRow N e size v n xs := by
  refine ⟨h.1, ?_⟩
  rcases h.2 with hn | ⟨g, cap, cur, rfl, hb, hgg, rest⟩
  · exact .inl hn
  · exact .inr ⟨g, cap, cur, rfl, hb, (hg g rfl).trans hgg, rest⟩
end
/-- Only blocks of S may have turned. -/
structure Kp (S : Nat → Prop) (w w' : World) : Prop where
  os : w'.os = w.os
  tape : w'.tape = w.tape
  output : w'.output = w.output
  size : w.heap.size ≤ w'.heap.size
  block : ∀ k, k < w.heap.size → ¬ S k → w'.heap[k]? = w.heap[k]?
theorem kp_refl (S : Nat → Prop) (w : World) : Kp S w w := ⟨rfl, rfl, rfl, Nat.le_refl _, fun _ _ _ => rfl⟩
theorem kp_of {S : Nat → Prop} {w w' : World} {row : Option Nat} (h : w.grownBy w' row) (hr : ∀ R, row = some R → S R) : Kp S w w' := ⟨h.os, h.tape, h.output, h.size, fun k hk hs => h.block k hk (fun e => hs (hr k e.symm))⟩
theorem Kp.trans {S : Nat → Prop} {a b c : World} (h : Kp S a b) (k : Kp S b c) : Kp S a c := ⟨k.os.trans h.os, k.tape.trans h.tape, k.output.trans h.output, Nat.le_trans h.size k.size, fun i hi hs => (k.block i (Nat.lt_of_lt_of_le hi h.size) hs).trans (h.block i hi hs)⟩
theorem Kp.andThen {S T : Nat → Prop} {a b c : World} (h : Kp S a b) (k : Kp T b c) (hT : ∀ i, T i → S i ∨ a.heap.size ≤ i) : Kp S a c := ⟨k.os.trans h.os, k.tape.trans h.tape, k.output.trans h.output, Nat.le_trans h.size k.size, fun i hi hs => (k.block i (Nat.lt_of_lt_of_le hi h.size) (fun ht => (hT i ht).elim hs (fun e => by omega))).trans (h.block i hi hs)⟩
theorem Kp.mono {S T : Nat → Prop} {a b : World} (h : Kp S a b) (hT : ∀ i, S i → T i) : Kp T a b := ⟨h.os, h.tape, h.output, h.size, fun i hi hs => h.block i hi (fun e => hs (hT i e))⟩

theorem info41 : ∃ i, Ybaf.prog.info? 41 = some i ∧ i.zero = some (.agg #[.int .i64 0, .int .i64 0, .int .u64 0]) ∧ i.size = 3 ∧ i.bytes = 24 := by
  have h1 : (Ybaf.prog.info? 41).map (·.size) = some 3 := by kernel_rfl
  have h2 : (Ybaf.prog.info? 41).map (·.bytes) = some 24 := by kernel_rfl
  have h3 : (Ybaf.prog.info? 41).bind (·.zero) = some (.agg #[.int .i64 0, .int .i64 0, .int .u64 0]) := by kernel_rfl
  obtain ⟨i, hi, hb⟩ := Option.map_eq_some_iff.1 h1
  rw [hi] at h2 h3
  exact ⟨i, hi, h3, hb, by simpa using h2⟩
theorem flatR_length (rs : List Run) : (flatR rs).length = rs.length * 3 := by
  induction rs with
  | nil => rfl
  | cons a t ih => show (runV a ++ flatR t).length = _; rw [List.length_append, ih]; simp [runV]; omega
theorem flatR_append (s t : List Run) : flatR (s ++ t) = flatR s ++ flatR t := by simp [flatR]
theorem flatR_set (s : List Run) (r : Run) (n nw : Nat) : ((flatR (s ++ [r])).set (s.length * 3 + 1) (.int .i64 (n : Int))).set (s.length * 3 + 2) (.int .u64 (nw : Int)) = flatR (s ++ [⟨r.at', n, nw⟩]) := by
  rw [flatR_append, flatR_append]
  have hl := flatR_length s
  rw [List.set_append_right _ _ (by omega), List.set_append_right _ _ (by omega), hl]
  rw [show s.length * 3 + 1 - s.length * 3 = 1 from by omega, show s.length * 3 + 2 - s.length * 3 = 2 from by omega]
  rfl
/-- The run that a key goes in is new. -/
def isNew (rs : List Run) : Bool := match rs.getLast? with
  | none => true
  | some r => r.n == 64
def bump (s : List Run) (r : Run) (v : Nat) : List Run := s ++ [⟨r.at', r.n + 1, max r.nw v⟩]
def addR (rs : List Run) (at' v : Nat) : List Run := if isNew rs then bump rs ⟨at', 0, 0⟩ v else match rs.getLast? with
  | none => rs
  | some r => bump rs.dropLast r v

structure Cut (w : World) (N C : Nat) (rv : Value) (rs : List Run) : Prop where
  c : w.heap[C]? = some (.cells #[rv, .int .i64 0] 53 (0, 0))
  own : w.ownsRow N 41 3 rv rs.length (flatR rs)
  fm : ∃ g cap, rv = .slice (some ⟨g, 0, none⟩) rs.length cap

theorem bump_done {W : World} {N C g cap : Nat} {s : List Run} {r : Run} (v : Nat) {cur : Array Value} (hc : W.heap[C]? = some (.cells #[.slice (some ⟨g, 0, none⟩) (s.length + 1) cap, .int .i64 0] 53 (0, 0))) (hg : W.heap[g]? = some (.cells cur 41 (0, 0))) (ho : W.ownsRow N 41 3 (.slice (some ⟨g, 0, none⟩) (s.length + 1) cap) (s.length + 1) (flatR (s ++ [r]))) :
    Cut ((W.setCell ⟨g, s.length * 3 + 1, none⟩ (.int .i64 ((r.n : Int) + 1))).setCell ⟨g, s.length * 3 + 2, none⟩ (.int .u64 (max (r.nw : Int) (v : Int)))) N C (.slice (some ⟨g, 0, none⟩) (s.length + 1) cap) (bump s r v) ∧ W.grownBy ((W.setCell ⟨g, s.length * 3 + 1, none⟩ (.int .i64 ((r.n : Int) + 1))).setCell ⟨g, s.length * 3 + 2, none⟩ (.int .u64 (max (r.nw : Int) (v : Int)))) (some g) := by
  have e1 : ((r.n : Int) + 1) = ((r.n + 1 : Nat) : Int) := by omega
  have e2 : (max (r.nw : Int) (v : Int)) = ((max r.nw v : Nat) : Int) := by omega
  have hG := (gr_setCell W ⟨g, s.length * 3 + 1, none⟩ (.int .i64 ((r.n : Int) + 1))).g.trans (gr_setCell _ ⟨g, s.length * 3 + 2, none⟩ (.int .u64 (max (r.nw : Int) (v : Int)))).g
  have hne : C ≠ g := by
    rintro rfl
    rw [hc] at hg
    simp at hg
  have hlen : (bump s r v).length = s.length + 1 := by simp [bump]
  refine ⟨⟨(hG.block C (lt_heap hc) (by simpa using hne)).trans hc, ?_, g, cap, by rw [hlen]⟩, hG⟩
  rw [hlen]
  have := own_set (own_set ho (s.length * 3 + 1) (.int .i64 ((r.n : Int) + 1))) (s.length * 3 + 2) (.int .u64 (max (r.nw : Int) (v : Int)))
  have e3 := flatR_set s r (r.n + 1) (max r.nw v)
  rw [← e1, ← e2] at e3
  rw [e3] at this
  exact this

set_option maxHeartbeats 1000000 in
theorem add_old (w : World) (N C : Nat) (rv : Value) (s : List Run) (r : Run) (at' v : Nat) (h : Cut w N C rv (s ++ [r])) (hr : r.n ≠ 64) (hrn : r.n ≤ 1000) (hsl : s.length ≤ 1000) :
    Calls Ybaf.prog 16 #[.pointer (some ⟨C, 0, none⟩), .int .i64 (at' : Int), .int .u64 (v : Int)] w fun e w' => e = .returned (.tuple #[]) ∧ ∃ rv', Cut w' N C rv' (bump s r v) ∧ Kp (fun k => k = C ∨ some k = rv.ownBlock) w w' ∧ (rv'.ownBlock = rv.ownBlock ∨ ∃ g, rv'.ownBlock = some g ∧ w.heap.size ≤ g) := by
  obtain ⟨g, cap, rfl⟩ := h.fm
  have hlen : (s ++ [r]).length = s.length + 1 := by simp
  have ho := h.own
  have hc := h.c
  rw [hlen] at ho hc
  obtain ⟨e1, e2, e3⟩ := flatR_get (s ++ [r]) s.length r (by simp)
  have q1 := own_cell ho _ _ e2
  have q2 := own_cell ho _ _ e3
  obtain ⟨cur, hg⟩ := own_at ho (g := g) rfl
  have z1 := frozen_of_row w g (s.length * 3 + 1) _ _ hg
  have z2 := frozen_of_row w g (s.length * 3 + 2) _ _ hg
  have d0 : w.cell? ⟨C, 0, none⟩ = some (.slice (some ⟨g, 0, none⟩) (s.length + 1) cap) := (cell_of_row w C 0 _ _ _ hc).trans rfl
  have d1 : w.cell? ⟨C, 1, none⟩ = some (.int .i64 0) := (cell_of_row w C 1 _ _ _ hc).trans rfl
  have hr' : ((r.n : Int) == 64) = false := by simp; omega
  have hs' : ((s.length : Int) + 1 == 0) = false := by simp; omega
  have hHc : Hid (w.heap[C]? = some (.cells #[.slice (some ⟨g, 0, none⟩) (s.length + 1) cap, .int .i64 0] 53 (0, 0)) ∧ w.heap[g]? = some (.cells cur 41 (0, 0))) := ⟨hc, hg⟩
  have hHo : Hid (w.ownsRow N 41 3 (.slice (some ⟨g, 0, none⟩) (s.length + 1) cap) (s.length + 1) (flatR (s ++ [r]))) := ho
  clear h ho hc hg e1 e2 e3 hlen
  go_enter Ybaf.func16, Ybaf.ntmps16
  go_wp2
  go_quiet (fail)
  go_wp2
  go_end0
  have hd := gr_drewN w nq
  have hdn := bump_done (W := w.drewN nq) (N := N) (C := C) (g := g) (cap := cap) (s := s) (r := r) v (hHc.out.1) (hHc.out.2) (hHo.out.kept hd.g (.inr (by simp [Value.ownBlock])))
  refine ⟨rfl, _, hdn.1, ?_, .inl rfl⟩
  exact kp_of ((hd.but _).g.trans hdn.2) (fun R e => .inr e.symm)

set_option maxHeartbeats 1000000 in
theorem add_new (w : World) (N C : Nat) (rv : Value) (rs : List Run) (at' v : Nat) (h : Cut w N C rv rs) (hr : isNew rs = true) (hsl : rs.length ≤ 1000) (hN : N ≤ w.heap.size) :
    Calls Ybaf.prog 16 #[.pointer (some ⟨C, 0, none⟩), .int .i64 (at' : Int), .int .u64 (v : Int)] w fun e w' => e = .returned (.tuple #[]) ∧ ∃ rv', Cut w' N C rv' (bump rs ⟨at', 0, 0⟩ v) ∧ Kp (fun k => k = C ∨ some k = rv.ownBlock) w w' ∧ (rv'.ownBlock = rv.ownBlock ∨ ∃ g, rv'.ownBlock = some g ∧ w.heap.size ≤ g) := by
  obtain ⟨g, cap, rfl⟩ := h.fm
  obtain ⟨i41, hi, hz, hs, hy⟩ := info41
  have ho := h.own
  have hc := h.c
  obtain ⟨cur, hg⟩ := own_at ho (g := g) rfl
  have hne : C ≠ g := by
    rintro rfl
    rw [hc] at hg
    simp at hg
  have d0 : w.cell? ⟨C, 0, none⟩ = some (.slice (some ⟨g, 0, none⟩) rs.length cap) := (cell_of_row w C 0 _ _ _ hc).trans rfl
  have d1 : w.cell? ⟨C, 1, none⟩ = some (.int .i64 0) := (cell_of_row w C 1 _ _ _ hc).trans rfl
  have hHc : Hid (w.heap[C]? = some (.cells #[.slice (some ⟨g, 0, none⟩) rs.length cap, .int .i64 0] 53 (0, 0)) ∧ w.heap[g]? = some (.cells cur 41 (0, 0))) := ⟨hc, hg⟩
  have hHo : Hid (w.ownsRow N 41 3 (.slice (some ⟨g, 0, none⟩) rs.length cap) rs.length (flatR rs)) := ho
  have hcA : (w.alloc (.cells #[.int .i64 (at' : Int), .int .i64 0, .int .u64 0] 41)).heap[C]? = some (.cells #[.slice (some ⟨g, 0, none⟩) rs.length cap, .int .i64 0] 53 (0, 0)) := (Below.heap_alloc w _ C (lt_heap hc)).trans hc
  have hcond : rs = [] ∨ ∃ s r, rs = s ++ [r] ∧ r.n = 64 := by
    unfold isNew at hr
    rcases List.eq_nil_or_concat rs with e | ⟨s, r, e⟩
    · exact .inl e
    · refine .inr ⟨s, r, by simpa using e, ?_⟩
      rw [e] at hr
      simp at hr
      exact hr
  have hH2 : Hid ((w.alloc (.cells #[.int .i64 (at' : Int), .int .i64 0, .int .u64 0] 41)).heap[C]? = some (.cells #[.slice (some ⟨g, 0, none⟩) rs.length cap, .int .i64 0] 53 (0, 0))) := hcA
  have hq : rs = [] ∨ (0 < rs.length ∧ w.cell? ⟨g, (rs.length - 1) * 3 + 1, none⟩ = some (.int .i64 64)) := by
    rcases hcond with e | ⟨s, r, e, e2⟩
    · exact .inl e
    · subst e
      obtain ⟨_, e3, _⟩ := flatR_get (s ++ [r]) s.length r (by simp)
      have := own_cell ho _ _ e3
      rw [e2] at this
      refine .inr ⟨by simp, ?_⟩
      simpa using this
  generalize hL : rs.length = L at *
  clear h ho hc hg hcA hcond hr
  go_enter Ybaf.func16, Ybaf.ntmps16
  rcases hq with hq | ⟨hq0, hq1⟩
  · have hb : ((L : Int) == 0) = true := by
      have : L = 0 := by rw [← hL, hq]; rfl
      simp [this]
    clear hq
    go_wp2_with (at_builtin; refine wpList_append_lies _ rfl _ _ _ rfl N 41 i41 (.agg #[.int .i64 0, .int .i64 0, .int .u64 0]) 3 24 Ybaf.underlying51 hi hz hs hy rfl (by omega) (.slice (some ⟨g, 0, none⟩) L cap) L (flatR rs) rfl (hHo.out.alloc _) ⟨w.heap.size, 0, none⟩ 1 1 [.int .i64 (at' : Int), .int .i64 0, .int .u64 0] rfl rfl (World.news_of_block (heap_alloc_new _ _)) (by simp [Value.oneCell']) (by omega) (by simp [maxLen]; omega) (by omega) (by simp; omega) _ rfl ?_; intro g2 cap2 w2 hown2 hgrow2 hat2 hlt2; have hC2 := (hgrow2.block C (lt_heap hH2.out) (by simpa [Value.ownBlock] using hne)).trans hH2.out; have e0 : w2.cell? ⟨C, 0, none⟩ = some (.slice (some ⟨g, 0, none⟩) L cap) := (cell_of_row w2 C 0 _ _ _ hC2).trans rfl; have f0 := frozen_of_row w2 C 0 _ _ hC2)
    have hown3 : w2.ownsRow N 41 3 (.slice (some ⟨g2, 0, none⟩) (rs.length + 1) cap2) (rs.length + 1) (flatR (rs ++ [⟨at', 0, 0⟩])) := by
      rw [hL, flatR_append]
      exact hown2
    obtain ⟨cur2, hg2⟩ := own_at hown3 (g := g2) rfl
    have hneC : C ≠ g2 := by
      rintro rfl
      rw [hC2] at hg2
      simp at hg2
    have hG3 := gr_setCell w2 ⟨C, 0, none⟩ (.slice (some ⟨g2, 0, none⟩) (L + 1) cap2)
    have hC3 : (w2.setCell ⟨C, 0, none⟩ (.slice (some ⟨g2, 0, none⟩) (L + 1) cap2)).heap[C]? = some (.cells #[.slice (some ⟨g2, 0, none⟩) (rs.length + 1) cap2, .int .i64 0] 53 (0, 0)) := by rw [hL]; exact heap_setCell_same w2 C 0 _ _ _ hC2
    have hg3 := (hG3.block g2 (lt_heap hg2) (by simpa using hneC.symm)).trans hg2
    have hown4 := own_far hown3 (w' := w2.setCell ⟨C, 0, none⟩ (.slice (some ⟨g2, 0, none⟩) (L + 1) cap2)) (fun x hx => by
      have : x = g2 := by simpa [Value.ownBlock] using hx.symm
      subst this
      exact hG3.block x (lt_heap hg2) (by simpa using hneC.symm))
    have hK3 : Kp (fun k => k = C ∨ some k = (Value.slice (some ⟨g, 0, none⟩) L cap).ownBlock) w (w2.setCell ⟨C, 0, none⟩ (.slice (some ⟨g2, 0, none⟩) (L + 1) cap2)) := ((kp_of (World.grownBy_alloc w _ none) (fun R e => by simp at e)).trans (kp_of hgrow2 (fun R e => .inr e.symm))).trans (kp_of hG3.g (fun R e => .inl (by simpa using e.symm)))
    have hat3 : (Value.slice (some ⟨g, 0, none⟩) L cap).ownBlock = some g2 ∨ w.heap.size ≤ g2 := by
      rcases hat2 with e | e
      · exact .inl e
      · exact .inr (by rw [e]; simp)
    obtain ⟨_, e2, e3⟩ := flatR_get (rs ++ [⟨at', 0, 0⟩]) rs.length ⟨at', 0, 0⟩ (by simp)
    have q1 := own_cell hown4 _ _ e2
    have q2 := own_cell hown4 _ _ e3
    have p0 := (cell_of_row _ C 0 _ _ _ hC3).trans rfl
    have z1 := frozen_of_row _ g2 (rs.length * 3 + 1) _ _ hg3
    have z2 := frozen_of_row _ g2 (rs.length * 3 + 2) _ _ hg3
    simp only [hL] at q1 q2 z1 z2
    generalize w2.setCell ⟨C, 0, none⟩ (.slice (some ⟨g2, 0, none⟩) (L + 1) cap2) = w3 at *
    have p0' : w3.cell? ⟨C, 0, none⟩ = some (.slice (some ⟨g2, 0, none⟩) (L + 1) cap2) := by rw [← hL]; exact (cell_of_row w3 C 0 _ _ _ hC3).trans rfl
    have hF : Hid (w3.heap[C]? = some (.cells #[.slice (some ⟨g2, 0, none⟩) (rs.length + 1) cap2, .int .i64 0] 53 (0, 0)) ∧ w3.heap[g2]? = some (.cells cur2 41 (0, 0)) ∧ w3.ownsRow N 41 3 (.slice (some ⟨g2, 0, none⟩) (rs.length + 1) cap2) (rs.length + 1) (flatR (rs ++ [⟨at', 0, 0⟩])) ∧ rs.length = L) := ⟨hC3, hg3, hown4, hL⟩
    clear hC3 hg3 hown4 hown3 hown2 hgrow2 hat2 hlt2 hg2 hG3 p0 e2 e3 e0 f0 hC2 d0 d1 hL
    go_quiet (fail)
    go_wp2
    go_end0
    have hd := gr_drewN w3 nq
    have hdn := bump_done (W := w3.drewN nq) (N := N) (C := C) (g := g2) (cap := cap2) (s := rs) (r := ⟨at', 0, 0⟩) v hF.out.1 hF.out.2.1 (hF.out.2.2.1.kept hd.g (.inr (by simp [Value.ownBlock])))
    simp only [hF.out.2.2.2] at hdn
    have hm0 : max (((0 : Nat) : Int)) (v : Int) = (v : Int) := by omega
    have h01 : (((0 : Nat) : Int) + 1) = 1 := rfl
    simp only [hm0, h01] at hdn
    refine ⟨rfl, .slice (some ⟨g2, 0, none⟩) (L + 1) cap2, ?_, ?_, ?_⟩
    · exact hdn.1
    · exact hK3.andThen (kp_of ((hd.but _).g.trans hdn.2) (S := fun k => k = g2) (fun R e => by simpa using e.symm)) (fun i hi => by
        subst hi
        rcases hat3 with e | e
        · exact .inl (.inr e.symm)
        · exact .inr e)
    · rcases hat3 with e | e
      · exact .inl e.symm
      · exact .inr ⟨g2, rfl, e⟩
  · have hb : ((L : Int) == 0) = false := by simp; omega
    have hb2 : (0 : Int) ≤ (L : Int) - 1 := by omega
    go_wp2_with (at_builtin; refine wpList_append_lies _ rfl _ _ _ rfl N 41 i41 (.agg #[.int .i64 0, .int .i64 0, .int .u64 0]) 3 24 Ybaf.underlying51 hi hz hs hy rfl (by omega) (.slice (some ⟨g, 0, none⟩) L cap) L (flatR rs) rfl (hHo.out.alloc _) ⟨w.heap.size, 0, none⟩ 1 1 [.int .i64 (at' : Int), .int .i64 0, .int .u64 0] rfl rfl (World.news_of_block (heap_alloc_new _ _)) (by simp [Value.oneCell']) (by omega) (by simp [maxLen]; omega) (by omega) (by simp; omega) _ rfl ?_; intro g2 cap2 w2 hown2 hgrow2 hat2 hlt2; have hC2 := (hgrow2.block C (lt_heap hH2.out) (by simpa [Value.ownBlock] using hne)).trans hH2.out; have e0 : w2.cell? ⟨C, 0, none⟩ = some (.slice (some ⟨g, 0, none⟩) L cap) := (cell_of_row w2 C 0 _ _ _ hC2).trans rfl; have f0 := frozen_of_row w2 C 0 _ _ hC2)
    have hown3 : w2.ownsRow N 41 3 (.slice (some ⟨g2, 0, none⟩) (rs.length + 1) cap2) (rs.length + 1) (flatR (rs ++ [⟨at', 0, 0⟩])) := by
      rw [hL, flatR_append]
      exact hown2
    obtain ⟨cur2, hg2⟩ := own_at hown3 (g := g2) rfl
    have hneC : C ≠ g2 := by
      rintro rfl
      rw [hC2] at hg2
      simp at hg2
    have hG3 := gr_setCell w2 ⟨C, 0, none⟩ (.slice (some ⟨g2, 0, none⟩) (L + 1) cap2)
    have hC3 : (w2.setCell ⟨C, 0, none⟩ (.slice (some ⟨g2, 0, none⟩) (L + 1) cap2)).heap[C]? = some (.cells #[.slice (some ⟨g2, 0, none⟩) (rs.length + 1) cap2, .int .i64 0] 53 (0, 0)) := by rw [hL]; exact heap_setCell_same w2 C 0 _ _ _ hC2
    have hg3 := (hG3.block g2 (lt_heap hg2) (by simpa using hneC.symm)).trans hg2
    have hown4 := own_far hown3 (w' := w2.setCell ⟨C, 0, none⟩ (.slice (some ⟨g2, 0, none⟩) (L + 1) cap2)) (fun x hx => by
      have : x = g2 := by simpa [Value.ownBlock] using hx.symm
      subst this
      exact hG3.block x (lt_heap hg2) (by simpa using hneC.symm))
    have hK3 : Kp (fun k => k = C ∨ some k = (Value.slice (some ⟨g, 0, none⟩) L cap).ownBlock) w (w2.setCell ⟨C, 0, none⟩ (.slice (some ⟨g2, 0, none⟩) (L + 1) cap2)) := ((kp_of (World.grownBy_alloc w _ none) (fun R e => by simp at e)).trans (kp_of hgrow2 (fun R e => .inr e.symm))).trans (kp_of hG3.g (fun R e => .inl (by simpa using e.symm)))
    have hat3 : (Value.slice (some ⟨g, 0, none⟩) L cap).ownBlock = some g2 ∨ w.heap.size ≤ g2 := by
      rcases hat2 with e | e
      · exact .inl e
      · exact .inr (by rw [e]; simp)
    obtain ⟨_, e2, e3⟩ := flatR_get (rs ++ [⟨at', 0, 0⟩]) rs.length ⟨at', 0, 0⟩ (by simp)
    have q1 := own_cell hown4 _ _ e2
    have q2 := own_cell hown4 _ _ e3
    have p0 := (cell_of_row _ C 0 _ _ _ hC3).trans rfl
    have z1 := frozen_of_row _ g2 (rs.length * 3 + 1) _ _ hg3
    have z2 := frozen_of_row _ g2 (rs.length * 3 + 2) _ _ hg3
    simp only [hL] at q1 q2 z1 z2
    generalize w2.setCell ⟨C, 0, none⟩ (.slice (some ⟨g2, 0, none⟩) (L + 1) cap2) = w3 at *
    have p0' : w3.cell? ⟨C, 0, none⟩ = some (.slice (some ⟨g2, 0, none⟩) (L + 1) cap2) := by rw [← hL]; exact (cell_of_row w3 C 0 _ _ _ hC3).trans rfl
    have hF : Hid (w3.heap[C]? = some (.cells #[.slice (some ⟨g2, 0, none⟩) (rs.length + 1) cap2, .int .i64 0] 53 (0, 0)) ∧ w3.heap[g2]? = some (.cells cur2 41 (0, 0)) ∧ w3.ownsRow N 41 3 (.slice (some ⟨g2, 0, none⟩) (rs.length + 1) cap2) (rs.length + 1) (flatR (rs ++ [⟨at', 0, 0⟩])) ∧ rs.length = L) := ⟨hC3, hg3, hown4, hL⟩
    clear hC3 hg3 hown4 hown3 hown2 hgrow2 hat2 hlt2 hg2 hG3 p0 e2 e3 e0 f0 hC2 d0 d1 hL
    go_quiet (fail)
    go_wp2
    go_end0
    have hd := gr_drewN w3 nq
    have hdn := bump_done (W := w3.drewN nq) (N := N) (C := C) (g := g2) (cap := cap2) (s := rs) (r := ⟨at', 0, 0⟩) v hF.out.1 hF.out.2.1 (hF.out.2.2.1.kept hd.g (.inr (by simp [Value.ownBlock])))
    simp only [hF.out.2.2.2] at hdn
    have hm0 : max (((0 : Nat) : Int)) (v : Int) = (v : Int) := by omega
    have h01 : (((0 : Nat) : Int) + 1) = 1 := rfl
    simp only [hm0, h01] at hdn
    refine ⟨rfl, .slice (some ⟨g2, 0, none⟩) (L + 1) cap2, ?_, ?_, ?_⟩
    · exact hdn.1
    · exact hK3.andThen (kp_of ((hd.but _).g.trans hdn.2) (S := fun k => k = g2) (fun R e => by simpa using e.symm)) (fun i hi => by
        subst hi
        rcases hat3 with e | e
        · exact .inl (.inr e.symm)
        · exact .inr e)
    · rcases hat3 with e | e
      · exact .inl e.symm
      · exact .inr ⟨g2, rfl, e⟩
end Go.Proofs.YbulkbasiFmt
