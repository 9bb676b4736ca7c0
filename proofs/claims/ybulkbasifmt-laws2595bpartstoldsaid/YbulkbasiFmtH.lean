import Derived.Test.YbulkbasiFmtG
import Derived.Test.YbulkbasiFmtShelf
import Derived.Deep.RegionHeld3
namespace Go.Proofs.YbulkbasiFmt
open Go.RowKit Go.Sort
set_option maxRecDepth 100000

theorem gr_grow {w w' : World} (h : Gr w w' none) : ∃ q os, w' = grow (w.drewN q) os := by
  refine ⟨w'.drawn - w.drawn, w'.heap.extract w.heap.size w'.heap.size, ?_⟩
  have hd := h.dr
  have hs := h.size
  have hh : w'.heap = w.heap ++ w'.heap.extract w.heap.size w'.heap.size := by
    apply Array.ext_getElem?
    intro i
    by_cases hi : i < w.heap.size
    · rw [Array.getElem?_append_left hi]
      exact h.block i hi (by simp)
    · rw [Array.getElem?_append_right (by omega)]
      simp only [Array.getElem?_extract]
      by_cases hj : i < w'.heap.size
      · rw [if_pos (by omega)]
        congr 1
        omega
      · rw [if_neg (by omega)]
        simp
        omega
  unfold grow World.drewN
  obtain ⟨hos, ht, ho, _, _⟩ := h.g
  cases w'
  simp only at *
  subst hos ht ho
  congr 1
  omega
theorem grow_gr (w : World) (q : Nat) (os : Array Obj) : Gr w (grow (w.drewN q) os) none := by
  refine ⟨⟨rfl, rfl, rfl, ?_, fun k hk _ => ?_⟩, Nat.le_add_right _ _⟩
  · show w.heap.size ≤ (w.heap ++ os).size
    simp
  · show (w.heap ++ os)[k]? = w.heap[k]?
    rw [Array.getElem?_append_left hk]

/-- Run m of l holds the keys from one named x on. -/
structure Seg (ks : List (Nat × Nat)) (l : List Run) (m x : Nat) : Prop where
  ex : ∃ ps xs ys ver r, l[m]? = some r ∧ ks = ps ++ (x, ver) :: xs ++ ys ∧ r.at' = (bytesK ps).length ∧ (∀ r', l[m + 1]? = some r' → r'.at' = (bytesK (ps ++ (x, ver) :: xs)).length) ∧ (m + 1 = l.length → ys = [])
theorem firstName_seg (w : World) (p : Option Addr) (ks : List (Nat × Nat)) (x m : Nat) (rs : Option (List Run)) (rv : Value) (l : List Run) (h : KL w p ks rs) (hl : RunsAt w rv l) (hs : Seg ks l m x) (hlen : (bytesK ks).length ≤ 90000) (hll : l.length ≤ 90000) (hv : ∀ k ∈ ks, k.2 < 16384) :
    Calls Ybaf.prog 27 #[.agg #[.pointer p], rv, .int .i64 (m : Int)] w fun e w' => ∃ a c, e = .returned (.slice a 2 c) ∧ Sl w' a c [x / 256, x % 256] ∧ Gr w w' none := by
  obtain ⟨ps, xs, ys, ver, r, h1, h2, h3, h4, h5⟩ := hs.ex
  exact firstName_any w p ks ps xs ys x ver rs rv l m r h hl h1 h2 h3 h4 h5 hlen hll hv

theorem cmpN_gt (x y : Nat) : decide (cmpN x y > 0) = decide (y < x) := by
  unfold cmpN
  by_cases h : x < y
  · rw [if_pos h]
    simp
    omega
  · rw [if_neg h]
    by_cases h2 : y < x
    · simp [h2]
    · simp [h2]

set_option maxHeartbeats 1000000 in
theorem runOf1_any (w : World) (p : Option Addr) (ks : List (Nat × Nat)) (x y m j i : Nat) (rs : Option (List Run)) (rv : Value) (l : List Run) (a : Option Addr) (c bl br bj bn : Nat) (h : KL w p ks rs) (hl : RunsAt w rv l) (hs : Seg ks l m x) (hlen : (bytesK ks).length ≤ 90000) (hll : l.length ≤ 90000) (hv : ∀ k ∈ ks, k.2 < 16384) (hx : x < 65536) (hy : y < 65536)
    (hm : m = j + 1 + i) (hn : Sl w a c [y / 256, y % 256]) (cl : w.heap[bl]? = some (.cells #[.pointer p] 33 (0, 0))) (cr : w.heap[br]? = some (.cells #[rv] 51 (0, 0))) (cj : w.heap[bj]? = some (.cells #[.int .i64 (j : Int)] 3 (0, 0))) (cn : w.heap[bn]? = some (.cells #[.slice a 2 c] 24 (0, 0))) (hml : m ≤ 90000) :
    Calls Ybaf.prog 45 #[.int .i64 (i : Int), .pointer (some ⟨bl, 0, none⟩), .pointer (some ⟨br, 0, none⟩), .pointer (some ⟨bj, 0, none⟩), .pointer (some ⟨bn, 0, none⟩)] w fun e w' => e = .returned (.bool (decide (y < x))) ∧ Gr w w' none := by
  have hf := firstName_seg w.drew p ks x m rs rv l (h.kept (gr_drew w).g (safe_none _)) (hl.kept (gr_drew w).g (safe_none _)) hs hlen hll hv
  obtain ⟨q, cq, hrv, _⟩ := hl.cell
  subst hrv
  have d1 : w.cell? ⟨bl, 0, none⟩ = some (.pointer p) := (cell_of_row w bl 0 _ _ _ cl).trans rfl
  have d2 : w.cell? ⟨br, 0, none⟩ = some (.slice (some ⟨q, 0, none⟩) l.length cq) := (cell_of_row w br 0 _ _ _ cr).trans rfl
  have d3 : w.cell? ⟨bj, 0, none⟩ = some (.int .i64 (j : Int)) := (cell_of_row w bj 0 _ _ _ cj).trans rfl
  have d4 : w.cell? ⟨bn, 0, none⟩ = some (.slice a 2 c) := (cell_of_row w bn 0 _ _ _ cn).trans rfl
  have hmi : (m : Int) = (j : Int) + 1 + (i : Int) := by omega
  have hji : j + 1 + i ≤ 90000 := by omega
  have hHf : Hid (Calls Ybaf.prog 27 #[.agg #[.pointer p], .slice (some ⟨q, 0, none⟩) l.length cq, .int .i64 (IntKind.i64.wrap (IntKind.i64.wrap ((j : Int) + 1) + (i : Int)))] w.drew fun e w' => ∃ a c, e = .returned (.slice a 2 c) ∧ Sl w' a c [x / 256, x % 256] ∧ Gr w.drew w' none) := by
    have hw1 : IntKind.i64.wrap ((j : Int) + 1) = (j : Int) + 1 := by rw [IntKind.wrap_i64]; omega
    have hw2 : (j : Int) + 1 + (i : Int) = IntKind.i64.wrap (IntKind.i64.wrap ((j : Int) + 1) + (i : Int)) := by rw [hw1, IntKind.wrap_i64]; omega
    rw [hmi, hw2] at hf
    exact hf
  clear h hl hm hmi hf hs hv
  go_enter Ybaf.func45, Ybaf.ntmps45
  go_wp2
  go_region_held3 (fun w' => w'.cell? ⟨bl, 0, none⟩ = some (.pointer p) ∧ w'.cell? ⟨br, 0, none⟩ = some (.slice (some ⟨q, 0, none⟩) l.length cq) ∧ w'.cell? ⟨bj, 0, none⟩ = some (.int .i64 (j : Int)) ∧ w'.cell? ⟨bn, 0, none⟩ = some (.slice a 2 c)) (go_keep)
   (first
    | (go_at_call 27; refine hHf.out.mono ?_; rintro e w2 ⟨a2, c2, rfl, hs2, hg2⟩; have d4' : w2.cell? ⟨bn, 0, none⟩ = some (.slice a 2 c) := (cell_of_row w2 bn 0 _ _ _ ((hg2.block bn (lt_heap cn) (by simp)).trans cn)).trans rfl; have d1' : w2.cell? ⟨bl, 0, none⟩ = some (.pointer p) := (cell_of_row w2 bl 0 _ _ _ ((hg2.block bl (lt_heap cl) (by simp)).trans cl)).trans rfl; have d2' : w2.cell? ⟨br, 0, none⟩ = some (.slice (some ⟨q, 0, none⟩) l.length cq) := (cell_of_row w2 br 0 _ _ _ ((hg2.block br (lt_heap cr) (by simp)).trans cr)).trans rfl; have d3' : w2.cell? ⟨bj, 0, none⟩ = some (.int .i64 (j : Int)) := (cell_of_row w2 bj 0 _ _ _ ((hg2.block bj (lt_heap cj) (by simp)).trans cj)).trans rfl; have hcmp := compare_any w2 a2 a c2 c x y hs2 ((hn.kept0 (gr_drew w)).kept0 hg2) hx hy; clear hs2)
    | (go_at_call 28; refine hcmp.mono ?_; rintro e w3 ⟨rfl, rfl⟩))
  go_wp2
  go_ret
  refine ⟨?_, (gr_drew w).trans hg2⟩
  have hcg := cmpN_gt x y
  simp only [gt_iff_lt] at hcg
  simp [hcg]

set_option maxHeartbeats 1000000 in
theorem runOf_any (w : World) (p : Option Addr) (ks : List (Nat × Nat)) (y j : Nat) (f : Nat → Nat) (rs : Option (List Run)) (rv : Value) (l : List Run) (a : Option Addr) (c : Nat) (h : KL w p ks rs) (hl : RunsAt w rv l) (hs : ∀ m, 1 ≤ m → m < l.length → Seg ks l m (f m) ∧ f m < 65536) (hmono : ∀ m m', m ≤ m' → m' < l.length → f m ≤ f m') (hlen : (bytesK ks).length ≤ 90000) (hll : l.length ≤ 90000) (hv : ∀ k ∈ ks, k.2 < 16384) (hy : y < 65536)
    (hj : j < l.length) (hn : Sl w a c [y / 256, y % 256]) :
    Calls Ybaf.prog 25 #[.agg #[.pointer p], rv, .int .i64 (j : Int), .slice a 2 c] w fun e w' => e = .returned (.int .i64 ((j + (List.range (l.length - j - 1)).countP (fun i => !decide (y < f (j + 1 + i))) : Nat) : Int)) ∧ Gr w w' none := by
  obtain ⟨W, hW⟩ : ∃ W, W = ((((w.alloc (.cells #[.pointer p] 33)).alloc (.cells #[rv] 51)).alloc (.cells #[.int .i64 (j : Int)] 3)).alloc (.cells #[.slice a 2 c] 24)) := ⟨_, rfl⟩
  have hgW : Gr w W none := by rw [hW]; exact (((gr_alloc w _ none).trans (gr_alloc _ _ none)).trans (gr_alloc _ _ none)).trans (gr_alloc _ _ none)
  have k1 : W.heap[w.heap.size]? = some (.cells #[.pointer p] 33 (0, 0)) := by rw [hW]; exact ((Below.heap_alloc _ _ _ (by simp; omega)).trans ((Below.heap_alloc _ _ _ (by simp; omega)).trans (Below.heap_alloc _ _ _ (by simp)))).trans (heap_alloc_new w _)
  have k2 : W.heap[w.heap.size + 1]? = some (.cells #[rv] 51 (0, 0)) := by rw [hW]; have := heap_alloc_new (w.alloc (.cells #[.pointer p] 33)) (.cells #[rv] 51); rw [World.size_alloc] at this; exact ((Below.heap_alloc _ _ _ (by simp)).trans (Below.heap_alloc _ _ _ (by simp))).trans this
  have k3 : W.heap[w.heap.size + 2]? = some (.cells #[.int .i64 (j : Int)] 3 (0, 0)) := by rw [hW]; have := heap_alloc_new ((w.alloc (.cells #[.pointer p] 33)).alloc (.cells #[rv] 51)) (.cells #[.int .i64 (j : Int)] 3); rw [World.size_alloc, World.size_alloc] at this; exact (Below.heap_alloc _ _ _ (by simp)).trans this
  have k4 : W.heap[w.heap.size + 3]? = some (.cells #[.slice a 2 c] 24 (0, 0)) := by rw [hW]; have := heap_alloc_new (((w.alloc (.cells #[.pointer p] 33)).alloc (.cells #[rv] 51)).alloc (.cells #[.int .i64 (j : Int)] 3)) (.cells #[.slice a 2 c] 24); rw [World.size_alloc, World.size_alloc, World.size_alloc] at this; exact this
  have eg : ∀ args w, (callFunc 45 args).run Ybaf.prog w = .ok (.enter 45 args) w := enters_of Ybaf.func45 (by kernel_rfl) rfl
  have hS := Any.sort_Search Ybaf.search 45 #[.pointer (some ⟨w.heap.size, 0, none⟩), .pointer (some ⟨w.heap.size + 1, 0, none⟩), .pointer (some ⟨w.heap.size + 2, 0, none⟩), .pointer (some ⟨w.heap.size + 3, 0, none⟩)] (l.length - j - 1) (fun i => decide (y < f (j + 1 + i))) W.drew eg (by omega)
    (fun m os i hi => by
      have hg := hgW.trans ((gr_drew W).trans (grow_gr W.drew m os))
      have hg' := (gr_drew W).trans (grow_gr W.drew m os)
      have hsg := hs (j + 1 + i) (by omega) (by omega)
      refine (runOf1_any _ p ks (f (j + 1 + i)) y (j + 1 + i) j i rs rv l a c w.heap.size (w.heap.size + 1) (w.heap.size + 2) (w.heap.size + 3) (h.kept hg.g (safe_none _)) (hl.kept hg.g (safe_none _)) hsg.1 hlen hll hv hsg.2 hy rfl (hn.kept0 hg) ((hg'.block _ (lt_heap k1) (by simp)).trans k1) ((hg'.block _ (lt_heap k2) (by simp)).trans k2) ((hg'.block _ (lt_heap k3) (by simp)).trans k3) ((hg'.block _ (lt_heap k4) (by simp)).trans k4) (by omega)).mono ?_
      rintro e w' ⟨rfl, hg2⟩
      exact ⟨rfl, gr_grow hg2⟩)
    (fun x x' hx hx' hp => by
      have := hmono (j + 1 + x) (j + 1 + x') (by omega) (by omega)
      simp at hp ⊢
      omega)
  change Calls Ybaf.prog 44 _ _ _ at hS
  have hl' := hl.cell
  obtain ⟨q, cq, hrv, hz⟩ := hl'
  clear hz
  subst hrv
  have d2 : W.cell? ⟨w.heap.size + 1, 0, none⟩ = some (.slice (some ⟨q, 0, none⟩) l.length cq) := (cell_of_row W _ 0 _ _ _ k2).trans rfl
  have d3 : W.cell? ⟨w.heap.size + 2, 0, none⟩ = some (.int .i64 (j : Int)) := (cell_of_row W _ 0 _ _ _ k3).trans rfl
  have hcnt : (List.range (l.length - j - 1)).countP (fun i => !decide (y < f (j + 1 + i))) ≤ l.length - j - 1 := by
    have := List.countP_le_length (p := fun i => !decide (y < f (j + 1 + i))) (l := List.range (l.length - j - 1))
    simpa using this
  generalize (List.range (l.length - j - 1)).countP (fun i => !decide (y < f (j + 1 + i))) = r at hS hcnt ⊢
  have hHS : Hid (Calls Ybaf.prog 44 #[.int .i64 (IntKind.i64.wrap (IntKind.i64.wrap ((l.length : Int) - (j : Int)) - 1)), .func (.func 45) #[] #[.pointer (some ⟨w.heap.size, 0, none⟩), .pointer (some ⟨w.heap.size + 1, 0, none⟩), .pointer (some ⟨w.heap.size + 2, 0, none⟩), .pointer (some ⟨w.heap.size + 3, 0, none⟩)]] W.drew fun e w' => e = .returned (.int .i64 (r : Int)) ∧ ∃ q os, w' = grow (W.drew.drewN q) os) := by
    have hw1 : IntKind.i64.wrap ((l.length : Int) - (j : Int)) = (l.length : Int) - (j : Int) := by rw [IntKind.wrap_i64]; omega
    have hw2 : ((l.length - j - 1 : Nat) : Int) = IntKind.i64.wrap (IntKind.i64.wrap ((l.length : Int) - (j : Int)) - 1) := by rw [hw1, IntKind.wrap_i64]; omega
    rw [hw2] at hS
    exact hS
  clear h hl hs hmono hv eg hn hS
  go_enter Ybaf.func25, Ybaf.ntmps25
  go_wp2
  rw [← hW]
  simp only [Nat.add_assoc, Nat.reduceAdd]
  clear hW
  go_region_held3 (fun w' => w'.cell? ⟨w.heap.size + 1, 0, none⟩ = some (.slice (some ⟨q, 0, none⟩) l.length cq) ∧ w'.cell? ⟨w.heap.size + 2, 0, none⟩ = some (.int .i64 (j : Int))) (go_keep)
   ((go_at_call 44; refine hHS.out.mono ?_; rintro e w2 ⟨rfl, q2, os2, hw2⟩; have hg2 : Gr W.drew w2 none := hw2 ▸ grow_gr W.drew q2 os2; have d2' : w2.cell? ⟨w.heap.size + 1, 0, none⟩ = some (.slice (some ⟨q, 0, none⟩) l.length cq) := (cell_of_row w2 _ 0 _ _ _ ((hg2.block _ (lt_heap k2) (by simp)).trans k2)).trans rfl; have d3' : w2.cell? ⟨w.heap.size + 2, 0, none⟩ = some (.int .i64 (j : Int)) := (cell_of_row w2 _ 0 _ _ _ ((hg2.block _ (lt_heap k3) (by simp)).trans k3)).trans rfl; clear hw2))
  go_wp2
  go_ret
  refine ⟨?_, (hgW.trans (gr_drew W)).trans hg2⟩
  have hw : IntKind.i64.wrap ((j : Int) + (r : Int)) = ((j + r : Nat) : Int) := by rw [IntKind.wrap_i64]; omega
  first
    | (simp [hw]; done)
    | (show Ending.returned (Value.int IntKind.i64 (IntKind.i64.wrap ((j : Int) + (r : Int)))) = _; rw [hw])
    | (show Ending.returned (Value.int IntKind.i64 ((j : Int) + (r : Int))) = _; rfl)
end Go.Proofs.YbulkbasiFmt
