import Derived.Test.YbulkbasiFmtD
import Derived.Deep.DeepCutAuto
import Derived.Laws.Cover3
import Derived.Deep.RegionWith
namespace Go.Proofs.YbulkbasiFmt
open Go.RowKit
set_option maxRecDepth 100000

/-! ### Lists of keys, runs -/
structure Run where
  at' : Nat
  n : Nat
  nw : Nat
def runV (r : Run) : List Value := [.int .i64 (r.at' : Int), .int .i64 (r.n : Int), .int .u64 (r.nw : Int)]
def flatR (rs : List Run) : List Value := rs.flatMap runV
theorem flatR_get : ∀ (rs : List Run) (j : Nat) (r : Run), rs[j]? = some r → (flatR rs)[j * 3]? = some (.int .i64 (r.at' : Int)) ∧ (flatR rs)[j * 3 + 1]? = some (.int .i64 (r.n : Int)) ∧ (flatR rs)[j * 3 + 2]? = some (.int .u64 (r.nw : Int)) := by
  intro rs
  induction rs with
  | nil => intro j r h; simp at h
  | cons a t ih =>
    intro j r h
    cases j with
    | zero => simp at h; subst h; exact ⟨rfl, rfl, rfl⟩
    | succ j =>
      have := ih j r (by simpa using h)
      rw [show (j + 1) * 3 = j * 3 + 1 + 1 + 1 from by omega]
      exact this
structure RunsAt (w : World) (rv : Value) (l : List Run) : Prop where
  ex : ∃ (g c : Nat) (arr : Array Value) (t : TypeId) (fr : Nat × Nat), rv = .slice (some ⟨g, 0, none⟩) l.length c ∧ w.heap[g]? = some (.cells arr t fr) ∧ (t = 41 ∨ t = 72) ∧ ∀ (j : Nat) (v : Value), (flatR l)[j]? = some v → arr[j]? = some v
/-- The row that turned is none of those that a list lies in. -/
def Safe (w : World) (row : Option Nat) : Prop := ∀ R, row = some R → ∃ cs t fr, w.heap[R]? = some (.cells cs t fr) ∧ t ≠ 5 ∧ t ≠ 50 ∧ t ≠ 51 ∧ t ≠ 41 ∧ t ≠ 72
theorem safe_none (w : World) : Safe w none := fun R e => by simp at e
theorem Safe.ne {w : World} {row : Option Nat} (h : Safe w row) {g : Nat} {arr : Array Value} {t : TypeId} {fr : Nat × Nat} (hg : w.heap[g]? = some (.cells arr t fr)) (ht : t = 5 ∨ t = 50 ∨ t = 51 ∨ t = 41 ∨ t = 72) : some g ≠ row := fun e => by
  obtain ⟨cs, t', fr', h1, h2⟩ := h g e.symm
  rw [h1] at hg
  simp at hg
  obtain ⟨_, rfl, _⟩ := hg
  rcases ht with e | e | e | e | e
  · exact h2.1 e
  · exact h2.2.1 e
  · exact h2.2.2.1 e
  · exact h2.2.2.2.1 e
  · exact h2.2.2.2.2 e
theorem Safe.sl {w : World} {row : Option Nat} (h : Safe w row) : ∀ R, row = some R → ∃ cs t fr, w.heap[R]? = some (.cells cs t fr) ∧ t ≠ 5 := fun R e => by
  obtain ⟨cs, t, fr, h1, h2, _⟩ := h R e
  exact ⟨cs, t, fr, h1, h2⟩
theorem RunsAt.kept {w w' : World} {rv : Value} {l : List Run} {row : Option Nat} (h : RunsAt w rv l) (hg : w.grownBy w' row) (hs : Safe w row) : RunsAt w' rv l := by
  obtain ⟨g, c, arr, t, fr, rfl, h1, h2, h3⟩ := h.ex
  exact ⟨g, c, arr, t, fr, rfl, (hg.block g (lt_heap h1) (hs.ne h1 (by rcases h2 with h | h <;> simp [h]))).trans h1, h2, h3⟩
theorem RunsAt.cell {w : World} {rv : Value} {l : List Run} (h : RunsAt w rv l) : ∃ g c, rv = .slice (some ⟨g, 0, none⟩) l.length c ∧ ∀ (j : Nat) (r : Run), l[j]? = some r → w.cell? ⟨g, j * 3, none⟩ = some (.int .i64 (r.at' : Int)) ∧ w.cell? ⟨g, j * 3 + 1, none⟩ = some (.int .i64 (r.n : Int)) ∧ w.cell? ⟨g, j * 3 + 2, none⟩ = some (.int .u64 (r.nw : Int)) := by
  obtain ⟨g, c, arr, t, fr, rfl, h1, h2, h3⟩ := h.ex
  refine ⟨g, c, rfl, fun j r hr => ?_⟩
  obtain ⟨e1, e2, e3⟩ := flatR_get l j r hr
  exact ⟨(cell_of_row w g _ _ _ _ h1).trans (h3 _ _ e1), (cell_of_row w g _ _ _ _ h1).trans (h3 _ _ e2), (cell_of_row w g _ _ _ _ h1).trans (h3 _ _ e3)⟩

structure KL (w : World) (p : Option Addr) (ks : List (Nat × Nat)) (rs : Option (List Run)) : Prop where
  ex : (ks = [] ∧ rs = none ∧ p = none) ∨ (∃ K g c rp, p = some ⟨K, 0, none⟩ ∧ ks ≠ [] ∧ w.heap[K]? = some (.cells #[.slice (some ⟨g, 0, none⟩) (bytesK ks).length c, .int .i64 (ks.length : Int), .pointer rp] 50 (0, 0)) ∧ Sl w (some ⟨g, 0, none⟩) c (bytesK ks) ∧
    ((rp = none ∧ rs = none) ∨ ∃ Q rv l, rp = some ⟨Q, 0, none⟩ ∧ rs = some l ∧ l ≠ [] ∧ w.heap[Q]? = some (.cells #[rv] 51 (0, 0)) ∧ RunsAt w rv l))
theorem KL.kept {w w' : World} {p : Option Addr} {ks : List (Nat × Nat)} {rs : Option (List Run)} {row : Option Nat} (h : KL w p ks rs) (hg : w.grownBy w' row) (hs : Safe w row) : KL w' p ks rs := by
  rcases h.ex with h | ⟨K, g, c, rp, h0, hne, h1, h2, h3⟩
  · exact ⟨.inl h⟩
  · refine ⟨.inr ⟨K, g, c, rp, h0, hne, (hg.block K (lt_heap h1) (hs.ne h1 (by simp))).trans h1, h2.kept hg hs.sl, ?_⟩⟩
    rcases h3 with h3 | ⟨Q, rv, l, h4, h5, h6, h7, h8⟩
    · exact .inl h3
    · exact .inr ⟨Q, rv, l, h4, h5, h6, (hg.block Q (lt_heap h7) (hs.ne h7 (by simp))).trans h7, h8.kept hg hs⟩
/-- What 'spans' gives. -/
def spansOf (ks : List (Nat × Nat)) (rs : Option (List Run)) : List Run := rs.getD [⟨0, ks.length, 18446744073709551615⟩]

set_option maxHeartbeats 400000 in
theorem len_any (w : World) (p : Option Addr) (ks : List (Nat × Nat)) (rs : Option (List Run)) (h : KL w p ks rs) :
    Calls Ybaf.prog 43 #[.agg #[.pointer p]] w fun e w' => e = .returned (.int .i64 (ks.length : Int)) ∧ Gr w w' none := by
  rcases h.ex with ⟨rfl, _, rfl⟩ | ⟨K, g, c, rp, rfl, hne, h1, h2, h3⟩
  · go_enter Ybaf.func43, Ybaf.ntmps43
    go_wp2
    go_ret
    exact ⟨rfl, gr_alloc _ _ _⟩
  · have c1 : ∀ o, (w.alloc o).cell? ⟨K, 1, none⟩ = some (.int .i64 (ks.length : Int)) := fun o => (cell_of_row (w.alloc o) K 1 _ _ _ ((Below.heap_alloc w o K (lt_heap h1)).trans h1)).trans rfl
    clear h1
    go_enter Ybaf.func43, Ybaf.ntmps43
    go_wp2
    go_ret
    exact ⟨rfl, gr_alloc _ _ _⟩

set_option maxHeartbeats 400000 in
theorem lbytes_any (w : World) (p : Option Addr) (ks : List (Nat × Nat)) (rs : Option (List Run)) (h : KL w p ks rs) :
    Calls Ybaf.prog 23 #[.agg #[.pointer p]] w fun e w' => ∃ a c, e = .returned (.slice a (bytesK ks).length c) ∧ Sl w' a c (bytesK ks) ∧ (ks ≠ [] → ∃ g, a = some ⟨g, 0, none⟩) ∧ (ks = [] → a = none ∧ c = 0) ∧ Gr w w' none := by
  rcases h.ex with ⟨rfl, _, rfl⟩ | ⟨K, g, c, rp, rfl, hne, h1, h2, h3⟩
  · go_enter Ybaf.func23, Ybaf.ntmps23
    go_wp2
    go_ret
    exact ⟨none, 0, rfl, ⟨Nat.le_refl _, fun ad e => by simp at e, fun _ => rfl⟩, fun e => absurd rfl e, fun _ => ⟨rfl, rfl⟩, gr_alloc _ _ _⟩
  · have c1 : ∀ o, (w.alloc o).cell? ⟨K, 0, none⟩ = some (.slice (some ⟨g, 0, none⟩) (bytesK ks).length c) := fun o => (cell_of_row (w.alloc o) K 0 _ _ _ ((Below.heap_alloc w o K (lt_heap h1)).trans h1)).trans rfl
    clear h1
    go_enter Ybaf.func23, Ybaf.ntmps23
    go_wp2
    go_ret
    exact ⟨_, _, rfl, h2.kept0 (gr_alloc _ _ _), fun _ => ⟨g, rfl⟩, fun e => absurd e hne, gr_alloc _ _ _⟩

set_option maxHeartbeats 400000 in
theorem runs_any (w : World) (p : Option Addr) (ks : List (Nat × Nat)) (rs : Option (List Run)) (h : KL w p ks rs) :
    Calls Ybaf.prog 42 #[.agg #[.pointer p]] w fun e w' => ∃ rv, e = .returned rv ∧ ((rs = none ∧ rv = .slice none 0 0) ∨ ∃ l, rs = some l ∧ l ≠ [] ∧ RunsAt w' rv l) ∧ Gr w w' none := by
  rcases h.ex with ⟨rfl, rfl, rfl⟩ | ⟨K, g, c, rp, rfl, hne, h1, h2, h3⟩
  · go_enter Ybaf.func42, Ybaf.ntmps42
    go_wp2
    go_ret
    exact ⟨.slice none 0 0, rfl, .inl ⟨by trivial, rfl⟩, gr_alloc _ _ _⟩
  · have c1 : ∀ o, (w.alloc o).cell? ⟨K, 2, none⟩ = some (.pointer rp) := fun o => (cell_of_row (w.alloc o) K 2 _ _ _ ((Below.heap_alloc w o K (lt_heap h1)).trans h1)).trans rfl
    clear h1
    rcases h3 with ⟨rfl, rfl⟩ | ⟨Q, rv, l, rfl, rfl, h6, h7, h8⟩
    · go_enter Ybaf.func42, Ybaf.ntmps42
      go_wp2
      go_ret
      exact ⟨.slice none 0 0, rfl, .inl ⟨by trivial, rfl⟩, gr_alloc _ _ _⟩
    · have c2 : ∀ o, (w.alloc o).cell? ⟨Q, 0, none⟩ = some rv := fun o => (cell_of_row (w.alloc o) Q 0 _ _ _ ((Below.heap_alloc w o Q (lt_heap h7)).trans h7)).trans rfl
      clear h7
      go_enter Ybaf.func42, Ybaf.ntmps42
      go_wp2
      go_ret
      exact ⟨_, rfl, .inr ⟨l, rfl, h6, h8.kept (World.grownBy_alloc _ _ _) (safe_none _)⟩, gr_alloc _ _ _⟩

set_option maxHeartbeats 400000 in
theorem reader_any (w : World) (p : Option Addr) (ks : List (Nat × Nat)) (rs : Option (List Run)) (h : KL w p ks rs) (hv : ∀ k ∈ ks, k.2 < 16384) (hl : (bytesK ks).length ≤ 90000) :
    Calls Ybaf.prog 24 #[.agg #[.pointer p]] w fun e w' => ∃ cs, e = .returned (.agg cs) ∧ RdV w' cs ks ∧ Gr w w' none := by
  have hg0 := (gr_alloc w (.cells #[.pointer p] 33) none).trans (gr_alloc _ (.cells (rC (.slice none 0 0) (.slice none 0 0) (.slice none 0 0) (.slice none 0 0) 0 false) 65) none)
  have hz0 := heap_alloc_new (w.alloc (.cells #[.pointer p] 33)) (.cells (rC (.slice none 0 0) (.slice none 0 0) (.slice none 0 0) (.slice none 0 0) 0 false) 65)
  simp only [World.size_alloc] at hz0
  have hb := lbytes_any _ p ks rs (h.kept hg0.g (safe_none _))
  have hHz : Hid (((w.alloc (.cells #[.pointer p] 33)).alloc (.cells (rC (.slice none 0 0) (.slice none 0 0) (.slice none 0 0) (.slice none 0 0) 0 false) 65)).heap[w.heap.size + 1]? = some (.cells (rC (.slice none 0 0) (.slice none 0 0) (.slice none 0 0) (.slice none 0 0) 0 false) 65 (0, 0))) := hz0
  clear hz0 h
  go_enter Ybaf.func24, Ybaf.ntmps24
  go_wp2_with (first
    | (go_at_call 23; refine hb.mono ?_; rintro e w1 ⟨a, c, rfl, hs1, _, _, hg1⟩; have hk := keysIn_any w1 a c ks hs1 hv hl)
    | (go_at_call 14; refine hk.mono ?_; rintro e w2 ⟨cs, rfl, hV2, hg2⟩; have hz2 := (hg2.block (w.heap.size + 1) (Nat.lt_of_lt_of_le (lt_heap hHz.out) hg1.size) (by simp)).trans ((hg1.block (w.heap.size + 1) (lt_heap hHz.out) (by simp)).trans hHz.out); have hcs := hV2.size; have hi2 : (Ybaf.prog.info? 65).map (·.size) = some cs.size := by rw [hcs.1]; exact size65)
    | (refine wpList_store_row rfl 65 _ _ rfl (w.heap.size + 1) cs rfl rfl 65 _ hz2 hi2 (by rw [hcs.1]; rfl) hcs.2 ?_))
  have hz3 : (w2.setRow (w.heap.size + 1) cs).heap[w.heap.size + 1]? = some (.cells cs 65 (0, 0)) := setRow_heap w2 (w.heap.size + 1) _ _ _ _ hz2
  refine bodyPost_ret (results_cell_row rfl _ _ (w.heap.size + 1) 65 cs (0, 0) _ rfl hz3 Ybaf.underlying65 rfl hi2) rfl ?_
  refine ⟨cs, rfl, hV2.kept (gr_setRow _ _ _).g (fun R e => ?_), ?_⟩
  · have : w.heap.size + 1 = R := by simpa using e
    subst this
    exact ⟨_, _, _, hz2, by decide⟩
  · exact ((hg0.trans hg1).trans hg2).andThen (gr_setRow w2 (w.heap.size + 1) cs) (fun j hj => .inl (by have : w.heap.size + 1 = j := (by simpa using hj); omega))

set_option maxHeartbeats 400000 in
theorem spans_any (w : World) (p : Option Addr) (ks : List (Nat × Nat)) (rs : Option (List Run)) (O : Nat) (h : KL w p ks rs) (hO : w.heap[O]? = some (.cells #[.int .i64 0, .int .i64 0, .int .u64 0] 72 (0, 0))) :
    Calls Ybaf.prog 22 #[.agg #[.pointer p], .pointer (some ⟨O, 0, none⟩)] w fun e w' => ∃ rv, e = .returned rv ∧ RunsAt w' rv (spansOf ks rs) ∧ KL w' p ks rs ∧ Gr w w' (some O) := by
  have hg0 := gr_alloc w (.cells #[.pointer p] 33) none
  have h0 := h.kept hg0.g (safe_none _)
  have hr := runs_any _ p ks rs h0
  have hO0 := (Below.heap_alloc w (.cells #[.pointer p] 33) O (lt_heap hO)).trans hO
  have hb0 := heap_alloc_new w (.cells #[.pointer p] 33)
  have hHO : Hid ((w.alloc (.cells #[.pointer p] 33)).heap[O]? = some (.cells #[.int .i64 0, .int .i64 0, .int .u64 0] 72 (0, 0)) ∧ (w.alloc (.cells #[.pointer p] 33)).heap[w.heap.size]? = some (.cells #[.pointer p] 33 (0, 0))) := ⟨hO0, hb0⟩
  clear hO hO0 hb0 h
  cases rs with
  | some l =>
    go_enter Ybaf.func22, Ybaf.ntmps22
    go_wp2_with (go_at_call 42; refine hr.mono ?_; rintro e w1 ⟨rv, rfl, hrv, hg1⟩; have hrv' : RunsAt w1 rv l := (by rcases hrv with ⟨e, _⟩ | ⟨l', e, _, hrl⟩; (simp at e); (simp at e; subst e; exact hrl)); obtain ⟨g, c, arr, t, fr, hrve, _⟩ := hrv'.ex; subst hrve)
    go_ret
    exact ⟨_, rfl, hrv', h0.kept hg1.g (safe_none _), (hg0.trans hg1).but _⟩
  | none =>
    go_enter Ybaf.func22, Ybaf.ntmps22
    go_wp2_with (go_at_call 42; refine hr.mono ?_; rintro e w1 ⟨rv, rfl, hrv, hg1⟩; have hrv' : rv = .slice none 0 0 := (by rcases hrv with ⟨_, e⟩ | ⟨l', e, _⟩; (exact e); (simp at e)); subst hrv')
    have h1 := h0.kept hg1.g (safe_none _)
    have hO1 := (hg1.block O (lt_heap hHO.out.1) (by simp)).trans hHO.out.1
    have hb1 := (hg1.block w.heap.size (lt_heap hHO.out.2) (by simp)).trans hHO.out.2
    have cb : w1.cell? ⟨w.heap.size, 0, none⟩ = some (.pointer p) := (cell_of_row w1 w.heap.size 0 _ _ _ hb1).trans rfl
    have hlen := len_any w1.drew p ks none (h1.kept (gr_drew w1).g (safe_none _))
    go_region_with (go_at_call 43; refine hlen.mono ?_; rintro e w2 ⟨rfl, hg2⟩; have hO2 : w2.heap[O]? = some (.cells #[.int .i64 0, .int .i64 0, .int .u64 0] 72 (0, 0)) := (hg2.block O (lt_heap hO1) (by simp)).trans hO1; have o0 : w2.cell? ⟨O, 0, none⟩ = some (.int .i64 0) := (cell_of_row w2 O 0 _ _ _ hO2).trans rfl; have o1 : w2.cell? ⟨O, 1, none⟩ = some (.int .i64 0) := (cell_of_row w2 O 1 _ _ _ hO2).trans rfl; have o2 : w2.cell? ⟨O, 2, none⟩ = some (.int .u64 0) := (cell_of_row w2 O 2 _ _ _ hO2).trans rfl; have f0 := frozen_of_row w2 O 0 _ _ hO2; have f1 := frozen_of_row w2 O 1 _ _ hO2; have f2 := frozen_of_row w2 O 2 _ _ hO2)
    have q1 := heap_setCell_same w2 O 0 _ _ (.int .i64 0) hO2
    have q2 := heap_setCell_same _ O 1 _ _ (.int .i64 (ks.length : Int)) q1
    have q3 := heap_setCell_same _ O 2 _ _ (.int .u64 18446744073709551615) q2
    have hG := ((gr_setCell w2 ⟨O, 0, none⟩ (.int .i64 0)).trans (gr_setCell _ ⟨O, 1, none⟩ (.int .i64 (ks.length : Int)))).trans (gr_setCell _ ⟨O, 2, none⟩ (.int .u64 18446744073709551615))
    have hKL : KL (((w2.setCell ⟨O, 0, none⟩ (.int .i64 0)).setCell ⟨O, 1, none⟩ (.int .i64 (ks.length : Int))).setCell ⟨O, 2, none⟩ (.int .u64 18446744073709551615)) p ks none := by
      have h2 := (h1.kept (gr_drew w1).g (safe_none _)).kept hg2.g (safe_none _)
      rcases h2.ex with h | ⟨K, g, c, rp, h0, hne, h1, h2, h3⟩
      · exact ⟨.inl h⟩
      · have hOK : some K ≠ some O := fun e => by simp at e; subst e; rw [h1] at hO2; simp at hO2
        refine ⟨.inr ⟨K, g, c, rp, h0, hne, (hG.block K (lt_heap h1) hOK).trans h1, h2.kept hG.g (fun R e => ?_), ?_⟩⟩
        · have : O = R := by simpa using e
          subst this
          exact ⟨_, _, _, hO2, by decide⟩
        · rcases h3 with h3 | ⟨Q, rv, l, h4, h5, _⟩
          · exact .inl h3
          · simp at h5
    generalize ((w2.setCell ⟨O, 0, none⟩ (.int .i64 0)).setCell ⟨O, 1, none⟩ (.int .i64 (ks.length : Int))).setCell ⟨O, 2, none⟩ (.int .u64 18446744073709551615) = w3 at q3 hG hKL ⊢
    have hHK : Hid (KL w3 p ks none) := hKL
    clear h1 hKL q1 q2
    go_wp2
    go_ret
    refine ⟨_, rfl, ⟨O, 1, _, 72, (0, 0), rfl, q3, .inr rfl, fun j v hj => ?_⟩, hHK.out, (((hg0.trans hg1).trans (gr_drew w1)).trans hg2).but (some O) |>.trans hG⟩
    have : flatR (spansOf ks none) = [.int .i64 0, .int .i64 (ks.length : Int), .int .u64 18446744073709551615] := rfl
    rw [this] at hj
    simpa using hj
end Go.Proofs.YbulkbasiFmt
