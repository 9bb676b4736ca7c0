import Derived.Test.YbulkbasiFmtC
import Derived.Laws.Tables
namespace Go.Proofs.YbulkbasiFmt
open Go.RowKit
set_option maxRecDepth 100000

/-! ### The reader of a list of keys -/
def bytesK (ks : List (Nat × Nat)) : List Nat := ks.flatMap fun k => encK k.1 k.2
theorem bytesK_cons (k : Nat × Nat) (t : List (Nat × Nat)) : bytesK (k :: t) = encK k.1 k.2 ++ bytesK t := by simp [bytesK]
theorem bytesK_append (s t : List (Nat × Nat)) : bytesK (s ++ t) = bytesK s ++ bytesK t := by simp [bytesK]
structure RdV (w : World) (cs : Array Value) (ks : List (Nat × Nat)) : Prop where
  ex : ∃ a c an nn cn av nv cv ae ne ce ve ok, cs = rC (.slice a (bytesK ks.tail).length c) (.slice an nn cn) (.slice av nv cv) (.slice ae ne ce) ve ok ∧ Sl w a c (bytesK ks.tail) ∧ ok = !ks.isEmpty ∧
    ∀ x ver t, ks = (x, ver) :: t → nn = 2 ∧ Sl w an cn [x / 256, x % 256] ∧ ve = (ver : Int) ∧ ne = (encK x ver).length
def Rd (w : World) (R : Nat) (ks : List (Nat × Nat)) : Prop := ∃ cs, w.heap[R]? = some (.cells cs 65 (0, 0)) ∧ RdV w cs ks
theorem RdV.kept {w w' : World} {cs : Array Value} {ks : List (Nat × Nat)} {row : Option Nat} (h : RdV w cs ks) (hg : w.grownBy w' row) (hr : ∀ R, row = some R → ∃ cs t fr, w.heap[R]? = some (.cells cs t fr) ∧ t ≠ 5) : RdV w' cs ks := by
  obtain ⟨a, c, an, nn, cn, av, nv, cv, ae, ne, ce, ve, ok, rfl, h1, h2, h3⟩ := h.ex
  exact ⟨a, c, an, nn, cn, av, nv, cv, ae, ne, ce, ve, ok, rfl, h1.kept hg hr, h2, fun x ver t e => ⟨(h3 x ver t e).1, (h3 x ver t e).2.1.kept hg hr, (h3 x ver t e).2.2⟩⟩
theorem Rd.kept {w w' : World} {R : Nat} {ks : List (Nat × Nat)} {row : Option Nat} (h : Rd w R ks) (hg : w.grownBy w' row) (hne : row ≠ some R) (hr : ∀ R, row = some R → ∃ cs t fr, w.heap[R]? = some (.cells cs t fr) ∧ t ≠ 5) : Rd w' R ks := by
  obtain ⟨cs, h1, h2⟩ := h
  exact ⟨cs, (hg.block R (lt_heap h1) (fun e => hne e.symm)).trans h1, h2.kept hg hr⟩
theorem RdV.size {w : World} {cs : Array Value} {ks : List (Nat × Nat)} (h : RdV w cs ks) : cs.size = 17 ∧ cs.all (·.oneCell') = true := by
  obtain ⟨a, c, an, nn, cn, av, nv, cv, ae, ne, ce, ve, ok, rfl, _⟩ := h.ex
  exact ⟨rfl, by simp [Value.oneCell']⟩
theorem size65 : (Ybaf.prog.info? 65).map (·.size) = some 17 := by kernel_rfl
theorem gr_setRow (w : World) (R : Nat) (cs : Array Value) : Gr w (w.setRow R cs) (some R) := ⟨⟨rfl, rfl, rfl, by simp, fun k _ hk => setRow_other w R k _ (fun e => hk (by simp [e]))⟩, Nat.le_refl _⟩
/-- Ahead of 'next': the bytes of ks are to be read. -/
def Pre (w : World) (R : Nat) (ks : List (Nat × Nat)) : Prop := ∃ a c an nn cn av nv cv ae ne ce ve ok, w.heap[R]? = some (.cells (rC (.slice a (bytesK ks).length c) (.slice an nn cn) (.slice av nv cv) (.slice ae ne ce) ve ok) 65 (0, 0)) ∧ Sl w a c (bytesK ks)
theorem Rd.pre {w : World} {R : Nat} {k : Nat × Nat} {t : List (Nat × Nat)} (h : Rd w R (k :: t)) : Pre w R t := by
  obtain ⟨cs, h1, h2⟩ := h
  obtain ⟨a, c, an, nn, cn, av, nv, cv, ae, ne, ce, ve, ok, rfl, h3, _⟩ := h2.ex
  exact ⟨a, c, an, nn, cn, av, nv, cv, ae, ne, ce, ve, ok, h1, h3⟩

set_option maxHeartbeats 1000000 in
theorem next_any (w : World) (R : Nat) (ks : List (Nat × Nat)) (h : Pre w R ks) (hv : ∀ k ∈ ks, k.2 < 16384) (hl : (bytesK ks).length ≤ 90000) :
    Calls Ybaf.prog 15 #[.pointer (some ⟨R, 0, none⟩)] w fun e w' => e = .returned (.tuple #[]) ∧ Rd w' R ks ∧ Gr w w' (some R) := by
  obtain ⟨a, c, an, nn, cn, av, nv, cv, ae, ne, ce, ve, ok, hR, hs⟩ := h
  have hHR : Hid (w.heap[R]? = some (.cells (rC (.slice a (bytesK ks).length c) (.slice an nn cn) (.slice av nv cv) (.slice ae ne ce) ve ok) 65 (0, 0))) := hR
  cases ks with
  | nil =>
    have c0 : w.cell? ⟨R, 0, none⟩ = some (.slice a 0 c) := (cell_of_row w R 0 _ _ _ hR).trans rfl
    have f16 : w.frozen? ⟨R, 16, none⟩ = false := frozen_of_row w R 16 _ _ hR
    have e16 : (w.setCell ⟨R, 16, none⟩ (.bool false)).cell? ⟨R, 16, none⟩ = some (.bool false) := (cell_of_row _ R 16 _ _ _ (rd_ok hR false)).trans rfl
    have k16 : w.cell? ⟨R, 16, none⟩ = some (.bool ok) := (cell_of_row w R 16 _ _ _ hR).trans rfl
    clear hR
    go_enter Ybaf.func15, Ybaf.ntmps15
    go_wp2
    refine bodyPost_ret (results_none rfl _ _ _) rfl ?_
    exact ⟨rfl, ⟨_, rd_ok hHR.out false, ⟨a, c, an, nn, cn, av, nv, cv, ae, ne, ce, ve, false, rfl, Sl.at hHR.out hs (gr_setCell w ⟨R, 16, none⟩ _), rfl, fun x ver t e => by simp at e⟩⟩, gr_setCell w ⟨R, 16, none⟩ _⟩
  | cons k t =>
    obtain ⟨x, ver⟩ := k
    rw [bytesK_cons] at hs hHR hR hl
    simp only at hs hHR hR hl
    have hel := encK_length x ver
    have hll : (encK x ver ++ bytesK t).length = (encK x ver).length + (bytesK t).length := List.length_append
    have hw1 := rd_ok hR true
    have hg0 := gr_setCell w ⟨R, 16, none⟩ (.bool true)
    have hs1 := Sl.at hR hs hg0
    have hkey := key_any (w.setCell ⟨R, 16, none⟩ (.bool true)) R (.slice an nn cn) (.slice av nv cv) (.slice ae ne ce) ve true a c x ver (bytesK t) hw1 hs1 (hv (x, ver) (by simp)) (by omega)
    have hle := hs.le
    generalize (encK x ver ++ bytesK t).length = L at *
    have hL0 : (0 : Int) < L := by omega
    have hLd : decide (0 < L) = true := decide_eq_true (by omega)
    have c0 : w.cell? ⟨R, 0, none⟩ = some (.slice a L c) := (cell_of_row w R 0 _ _ _ hR).trans rfl
    have f16 : w.frozen? ⟨R, 16, none⟩ = false := frozen_of_row w R 16 _ _ hR
    have k16 : w.cell? ⟨R, 16, none⟩ = some (.bool ok) := (cell_of_row w R 16 _ _ _ hR).trans rfl
    have d16 : (w.setCell ⟨R, 16, none⟩ (.bool true)).cell? ⟨R, 16, none⟩ = some (.bool true) := (cell_of_row _ R 16 _ _ _ hw1).trans rfl
    have d0 : (w.setCell ⟨R, 16, none⟩ (.bool true)).cell? ⟨R, 0, none⟩ = some (.slice a L c) := (cell_of_row _ R 0 _ _ _ hw1).trans rfl
    have hHL : Hid (L = (encK x ver).length + (bytesK t).length) := hll
    have hTL : (bytesK t).length ≤ L := by omega
    clear hR hll hs
    go_enter Ybaf.func15, Ybaf.ntmps15
    go_wp2_with (go_at_call 30; refine hkey.mono ?_; rintro e w2 ⟨g1, o1, c1, v2, rfl, hsn, ⟨g2, o2, c2, rfl⟩, g3, o3, c3, hR2, hs2, hg2⟩; have x0 : w2.cell? ⟨R, 0, none⟩ = some (.slice (some ⟨g3, o3, none⟩) (bytesK t).length c3) := (cell_of_row _ R 0 _ _ _ hR2).trans rfl; have x12 := (cell_of_row _ R 12 _ _ _ hR2).trans rfl; have x13 := (cell_of_row _ R 13 _ _ _ hR2).trans rfl; have x14 := (cell_of_row _ R 14 _ _ _ hR2).trans rfl; have x15 := (cell_of_row _ R 15 _ _ _ hR2).trans rfl; have y12 := frozen_of_row w2 R 12 _ _ hR2; have y13 := frozen_of_row w2 R 13 _ _ hR2; have y14 := frozen_of_row w2 R 14 _ _ hR2; have y15 := frozen_of_row w2 R 15 _ _ hR2)
    go_end0
    have r1 := rd_nm hR2 (.slice (some ⟨g1, o1, none⟩) 2 c1)
    have r2 := rd_ve r1 (ver : Int)
    have r3 := rd_vl r2 (.slice (some ⟨g2, o2, none⟩) 0 c2)
    have r4 := rd_en r3 (.slice a (L - (bytesK t).length) c)
    have hG := (((gr_setCell w2 ⟨R, 12, none⟩ (.slice (some ⟨g1, o1, none⟩) 2 c1)).trans (gr_setCell _ ⟨R, 15, none⟩ (.int .u64 (ver : Int)))).trans (gr_setCell _ ⟨R, 13, none⟩ (.slice (some ⟨g2, o2, none⟩) 0 c2))).trans (gr_setCell _ ⟨R, 14, none⟩ (.slice a (L - (bytesK t).length) c))
    refine ⟨rfl, ⟨_, r4, ⟨_, _, _, _, _, _, _, _, _, _, _, _, _, rfl, Sl.at hR2 hs2 hG, rfl, fun x' ver' t' e => ?_⟩⟩, (hg0.trans hg2).trans hG⟩
    simp at e
    obtain ⟨⟨rfl, rfl⟩, rfl⟩ := e
    exact ⟨rfl, Sl.at hR2 hsn hG, rfl, by have := hHL.out; omega⟩

set_option maxHeartbeats 400000 in
theorem left_any (w : World) (R : Nat) (ks : List (Nat × Nat)) (h : Rd w R ks) (hl : (bytesK ks).length ≤ 90000) :
    Calls Ybaf.prog 17 #[.pointer (some ⟨R, 0, none⟩)] w fun e w' => e = .returned (.int .i64 ((bytesK ks).length : Int)) ∧ Gr w w' none := by
  obtain ⟨cs, hR, hV⟩ := h
  obtain ⟨a, c, an, nn, cn, av, nv, cv, ae, ne, ce, ve, ok, rfl, hs, hok, hk⟩ := hV.ex
  have c0 := (cell_of_row w R 0 _ _ _ hR).trans rfl
  have c14 := (cell_of_row w R 14 _ _ _ hR).trans rfl
  have c16 := (cell_of_row w R 16 _ _ _ hR).trans rfl
  cases ks with
  | nil =>
    simp at hok
    subst hok
    have c16 : w.cell? ⟨R, 16, none⟩ = some (.bool false) := (cell_of_row w R 16 _ _ _ hR).trans rfl
    clear hR
    go_enter Ybaf.func17, Ybaf.ntmps17
    go_wp2
    go_ret
    exact ⟨rfl, gr_refl _ _⟩
  | cons k t =>
    obtain ⟨x, ver⟩ := k
    simp at hok
    subst hok
    obtain ⟨rfl, hsn, rfl, rfl⟩ := hk x ver t rfl
    rw [bytesK_cons, List.length_append] at hl ⊢
    simp only [List.tail_cons] at *
    generalize (bytesK t).length = T at *
    generalize (encK x ver).length = E at *
    have c16 : w.cell? ⟨R, 16, none⟩ = some (.bool true) := (cell_of_row w R 16 _ _ _ hR).trans rfl
    have c14 : w.cell? ⟨R, 14, none⟩ = some (.slice ae E ce) := (cell_of_row w R 14 _ _ _ hR).trans rfl
    have c0 : w.cell? ⟨R, 0, none⟩ = some (.slice a T c) := (cell_of_row w R 0 _ _ _ hR).trans rfl
    clear hR
    go_enter Ybaf.func17, Ybaf.ntmps17
    go_wp2
    go_quiet (fail)
    go_wp2
    go_ret
    exact ⟨by simp, gr_drewN _ _⟩

set_option maxHeartbeats 2000000 in
theorem keysIn_any (w : World) (a : Option Addr) (c : Nat) (ks : List (Nat × Nat)) (hs : Sl w a c (bytesK ks)) (hv : ∀ k ∈ ks, k.2 < 16384) (hl : (bytesK ks).length ≤ 90000) :
    Calls Ybaf.prog 14 #[.slice a (bytesK ks).length c] w fun e w' => ∃ cs, e = .returned (.agg cs) ∧ RdV w' cs ks ∧ Gr w w' none := by
  have hg0 := (gr_alloc w (.cells (rC (.slice none 0 0) (.slice none 0 0) (.slice none 0 0) (.slice none 0 0) 0 false) 65) none).trans (gr_alloc _ (.cells (rC (.slice a (bytesK ks).length c) (.slice none 0 0) (.slice none 0 0) (.slice none 0 0) 0 false) 65) none)
  have hr0 := heap_alloc_new (w.alloc (.cells (rC (.slice none 0 0) (.slice none 0 0) (.slice none 0 0) (.slice none 0 0) 0 false) 65)) (.cells (rC (.slice a (bytesK ks).length c) (.slice none 0 0) (.slice none 0 0) (.slice none 0 0) 0 false) 65)
  have hz0 := (Below.heap_alloc _ (.cells (rC (.slice a (bytesK ks).length c) (.slice none 0 0) (.slice none 0 0) (.slice none 0 0) 0 false) 65) w.heap.size (by simp)).trans (heap_alloc_new w (.cells (rC (.slice none 0 0) (.slice none 0 0) (.slice none 0 0) (.slice none 0 0) 0 false) 65))
  simp only [World.size_alloc] at hr0
  have hs0 := hs.kept0 hg0
  have hnx := next_any _ (w.heap.size + 1) ks ⟨_, _, _, _, _, _, _, _, _, _, _, _, _, hr0, hs0⟩ hv hl
  have hHz : Hid (((w.alloc (.cells (rC (.slice none 0 0) (.slice none 0 0) (.slice none 0 0) (.slice none 0 0) 0 false) 65)).alloc (.cells (rC (.slice a (bytesK ks).length c) (.slice none 0 0) (.slice none 0 0) (.slice none 0 0) 0 false) 65)).heap[w.heap.size]? = some (.cells (rC (.slice none 0 0) (.slice none 0 0) (.slice none 0 0) (.slice none 0 0) 0 false) 65 (0, 0))) := hz0
  clear hz0 hr0 hs hs0
  go_enter Ybaf.func14, Ybaf.ntmps14
  go_wp2_with (first
    | (go_at_call 15; refine hnx.mono ?_; rintro e w2 ⟨rfl, ⟨cs, hR2, hV2⟩, hg2⟩; have hz2 := (hg2.block w.heap.size (lt_heap hHz.out) (by simp)).trans hHz.out; have hcs := hV2.size; have hi2 : (Ybaf.prog.info? 65).map (·.size) = some cs.size := by rw [hcs.1]; exact size65)
    | (refine wpList_load_row rfl 65 _ rfl (w.heap.size + 1) rfl 65 cs (0, 0) _ hR2 Ybaf.underlying65 rfl hi2 ?_)
    | (refine wpList_store_row rfl 65 _ _ rfl w.heap.size cs rfl rfl 65 _ hz2 hi2 (by rw [hcs.1]; rfl) hcs.2 ?_))
  have hz3 : (w2.setRow w.heap.size cs).heap[w.heap.size]? = some (.cells cs 65 (0, 0)) := setRow_heap w2 w.heap.size _ _ _ _ hz2
  refine bodyPost_ret (results_cell_row rfl _ _ w.heap.size 65 cs (0, 0) _ rfl hz3 Ybaf.underlying65 rfl hi2) rfl ?_
  refine ⟨cs, rfl, hV2.kept (gr_setRow _ _ _).g (fun R e => ?_), ?_⟩
  · have : w.heap.size = R := by simpa using e
    subst this
    exact ⟨_, _, _, hz2, by decide⟩
  · have h1 := hg0.andThen hg2 (row := none) (fun j hj => .inl (by have : w.heap.size + 1 = j := (by simpa using hj); omega))
    exact h1.andThen (gr_setRow w2 w.heap.size cs) (fun j hj => .inl (by have : w.heap.size = j := (by simpa using hj); omega))
end Go.Proofs.YbulkbasiFmt
