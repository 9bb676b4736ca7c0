import Derived.Test.YbulkbasiFmtS
namespace Go.Proofs.YbulkbasiFmt
open Go.RowKit
set_option maxRecDepth 100000
def sndS : Code → Code
  | .seq _ b => b
  | c => c

/-- What the law's function reads, ahead of the two boxes that are made last. -/
structure EnvPre (w : World) (bnr bn bo bl bw : Nat) (lk : List (Nat × Nat)) (nR : Nat) (part : Nat → List (Nat × Nat)) : Prop where
  nr : w.heap[bnr]? = some (.cells #[.int .i64 (nR : Int)] 3 (0, 0))
  n : w.heap[bn]? = some (.cells #[.int .i64 (lk.length : Int)] 3 (0, 0))
  o : ∃ g c, w.heap[bo]? = some (.cells #[.slice (some ⟨g, 0, none⟩) (lk.length + 1) c] 25 (0, 0)) ∧ ∃ arr fr, w.heap[g]? = some (.cells arr 3 fr) ∧ ∀ i, i ≤ lk.length → arr[i]? = some (.int .i64 (off lk i : Int))
  l : ∃ a c, w.heap[bl]? = some (.cells #[.slice a (bytesK lk).length c] 24 (0, 0)) ∧ Sl w a c (bytesK lk) ∧ (lk ≠ [] → ∃ g, a = some ⟨g, 0, none⟩) ∧ (lk = [] → a = none ∧ c = 0)
  w' : ∃ g c, w.heap[bw]? = some (.cells #[.slice (some ⟨g, 0, none⟩) nR c] 38 (0, 0)) ∧ ∃ arr fr, w.heap[g]? = some (.cells arr 24 fr) ∧ ∀ i, i < nR → ∃ a c, arr[i]? = some (.slice a (bytesK (part i)).length c) ∧ Sl w a c (bytesK (part i))
theorem EnvPre.boxed {w W : World} {bnr bn bo bl bw : Nat} {lk : List (Nat × Nat)} {nR : Nat} {part : Nat → List (Nat × Nat)} (h : EnvPre w bnr bn bo bl bw lk nR part) (hW : (w.alloc (.cells #[.int .i64 0] 3)).alloc (.cells #[.bool true] 4) = W) : EnvOk W ⟨w.heap.size, bnr, w.heap.size + 1, bn, bo, bl, bw⟩ lk nR part 0 := by
  have hg : w.grownBy W none := by rw [← hW]; exact (World.grownBy_alloc _ _ _).trans (World.grownBy_alloc _ _ _)
  have key : ∀ (k : Nat) (o : Obj), w.heap[k]? = some o → W.heap[k]? = some o := fun k o hk => (hg.block k (lt_heap hk) (by simp)).trans hk
  have h1 : W.heap[w.heap.size]? = some (.cells #[.int .i64 0] 3 (0, 0)) := by rw [← hW]; exact (Below.heap_alloc _ _ _ (by simp)).trans (heap_alloc_new w _)
  have h2 : W.heap[w.heap.size + 1]? = some (.cells #[.bool true] 4 (0, 0)) := by rw [← hW]; have := heap_alloc_new (w.alloc (.cells #[.int .i64 0] 3)) (.cells #[.bool true] 4); rw [World.size_alloc] at this; exact this
  refine ⟨h1, key _ _ h.nr, h2, key _ _ h.n, ?_, ?_, ?_, ?_, ?_⟩
  · obtain ⟨g, c, h3, arr, fr, h4, h5⟩ := h.o
    exact ⟨g, c, key _ _ h3, arr, fr, key _ _ h4, by have := lt_heap h4; simp; omega, h5⟩
  · obtain ⟨a, c, h3, h4, h5⟩ := h.l
    exact ⟨a, c, key _ _ h3, h4.kept hg (fun R e => by simp at e), h5⟩
  · obtain ⟨g, c, h3, arr, fr, h4, h5⟩ := h.w'
    refine ⟨g, c, key _ _ h3, arr, fr, key _ _ h4, fun i hi => ?_⟩
    obtain ⟨a, c, h6, h7⟩ := h5 i hi
    exact ⟨a, c, h6, h7.kept hg (fun R e => by simp at e)⟩
  · have := lt_heap h.nr
    simp
    omega
  · have := lt_heap h.n
    simp
    omega

set_option maxHeartbeats 2000000 in
theorem main_end (w : World) (lk ik : List (Nat × Nat)) (l : List Run) (nR : Nat) (T slot f : Nat → Nat) (part : Nat → List (Nat × Nat)) (rs irs : Option (List Run)) (pl pi : Option Addr) (bn bl bo b11 b18 bnr bw : Nat) (hP : PC lk ik l nR T slot f part) (hl : KL w pl lk rs) (hi : KL w pi ik irs) (hsp : spansOf lk rs = l) (hE : EnvPre w bnr bn bo bl bw lk nR part)
    (h11 : w.heap[b11]? = some (.cells #[.pointer pl] 33 (0, 0))) (h18 : w.heap[b18]? = some (.cells #[.pointer pi] 33 (0, 0))) (R : Ending → World → Prop) (hR : ∀ w', w.grownBy w' none → R (.returned (.bool true)) w')
    (u0 u1 u2 u3 u4 u5 u10 u12 u13 u14 u15 u16 u17 u21 u22 u23 u24 u25 u26 u27 u28 u29 u30 u31 u32 u33 u34 u35 u36 u37 u38 u39 u40 u41 u42 u43 u44 u45 u46 u47 u48 u49 u50 u51 u52 u53 u54 u55 u56 u57 u58 u59 u60 u61 u62 u63 u64 u65 u66 u67 u68 u69 u70 u71 u72 u73 u74 u75 u76 u77 u78 u79 u80 u81 u82 u83 u84 u85 u86 u87 u88 u89 u90 u91 u92 u93 u94 u95 u96 u97 u98 u99 u100 u101 u102 u103 u104 u105 u106 u107 u108 u109 u110 u111 u112 u113 u114 u115 u116 u117 u118 u119 u120 u121 u122 u123 u124 u125 u126 u127 u128 u129 u130 u131 u132 u133 u134 u135 u136 u137 u138 u139 u140 u141 u142 u143 u144 u145 u146 u147 u148 u149 u150 u151 u152 u153 u154 u155 u156 u157 : Value) :
    Code.wp Ybaf.prog (sndS (sndS (sndS (sndS (sndS (sndS (sndS (sndS (sndS (sndS (sndS (sndS (sndS (sndS (sndS (sndS (sndS (sndS (sndS (sndS (Ybaf.f3.body.getD .skip))))))))))))))))))))) (bodyPost Ybaf.prog Ybaf.f3 R) ⟨#[u0, u1, u2, u3, u4, u5, .bool false, .pointer (some ⟨bn, 0, none⟩), .pointer (some ⟨bl, 0, none⟩), .pointer (some ⟨bo, 0, none⟩), u10, .pointer (some ⟨b11, 0, none⟩), u12, u13, u14, u15, u16, u17, .pointer (some ⟨b18, 0, none⟩), .pointer (some ⟨bnr, 0, none⟩), .pointer (some ⟨bw, 0, none⟩), u21, u22, u23, u24, u25, u26, u27, u28, u29, u30, u31, u32, u33, u34, u35, u36, u37, u38, u39, u40, u41, u42, u43, u44, u45, u46, u47, u48, u49, u50, u51, u52, u53, u54, u55, u56, u57, u58, u59, u60, u61, u62, u63, u64, u65, u66, u67, u68, u69, u70, u71, u72, u73, u74, u75, u76, u77, u78, u79, u80, u81, u82, u83, u84, u85, u86, u87, u88, u89, u90, u91, u92, u93, u94, u95, u96, u97, u98, u99, u100, u101, u102, u103, u104, u105, u106, u107, u108, u109, u110, u111, u112, u113, u114, u115, u116, u117, u118, u119, u120, u121, u122, u123, u124, u125, u126, u127, u128, u129, u130, u131, u132, u133, u134, u135, u136, u137, u138, u139, u140, u141, u142, u143, u144, u145, u146, u147, u148, u149, u150, u151, u152, u153, u154, u155, u156, u157], []⟩ w := by
  conv => arg 2; simp only [Ybaf.f3, Option.getD_some, sndS]
  obtain ⟨W, hW⟩ : ∃ W, (w.alloc (.cells #[.int .i64 0] 3)).alloc (.cells #[.bool true] 4) = W := ⟨_, rfl⟩
  have hEk := hE.boxed hW
  have hg : w.grownBy W none := by rw [← hW]; exact (World.grownBy_alloc _ _ _).trans (World.grownBy_alloc _ _ _)
  have hpt := parts_any W lk ik l nR T slot f part rs irs ⟨w.heap.size, bnr, w.heap.size + 1, bn, bo, bl, bw⟩ pl pi hP (hl.kept hg (safe_none _)) (hi.kept hg (safe_none _)) hsp hEk
  have c11 : W.cell? ⟨b11, 0, none⟩ = some (.pointer pl) := (cell_of_row W _ 0 _ _ _ ((hg.block _ (lt_heap h11) (by simp)).trans h11)).trans rfl
  have c18 : W.cell? ⟨b18, 0, none⟩ = some (.pointer pi) := (cell_of_row W _ 0 _ _ _ ((hg.block _ (lt_heap h18) (by simp)).trans h18)).trans rfl
  have HR : Hid (∀ w', w.grownBy w' none → R (.returned (.bool true)) w') := hR
  have HG : Hid (w.grownBy W none) := hg
  clear hR hg hE hl hi hP hEk h11 h18
  go_wp2_with (go_at_call 9; refine hpt.mono ?_; rintro e w2 ⟨rfl, hE2, hg2⟩; have d1 : w2.cell? ⟨w.heap.size, 0, none⟩ = some (.int .i64 (nR : Int)) := (cell_of_row w2 _ 0 _ _ _ hE2.c).trans rfl; have d2 : w2.cell? ⟨w.heap.size + 1, 0, none⟩ = some (.bool true) := (cell_of_row w2 _ 0 _ _ _ hE2.ok).trans rfl; have d3 : w2.cell? ⟨bnr, 0, none⟩ = some (.int .i64 (nR : Int)) := (cell_of_row w2 _ 0 _ _ _ hE2.nr).trans rfl)
  exact HR.out w2 (HG.out.andThen hg2 (fun j hj => .inl (by have : w.heap.size = j := (by simpa using hj); omega)))
end Go.Proofs.YbulkbasiFmt
