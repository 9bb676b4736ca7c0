import Derived.Test.YbulkbasiFmtAA
import Derived.Test.YbulkbasiFmtX
import Derived.Test.YbulkbasiFmtDD
import Derived.Test.YbulkbasiFmtV
namespace Go.Proofs.YbulkbasiFmt
open Go.RowKit
set_option maxRecDepth 100000

set_option maxHeartbeats 4000000 in
/-- All but the law's first lines. -/
theorem main_all (w : World) (n : Nat) (sel : List Nat) (aS : Option Addr) (cS bn : Nat) (hn : n ≤ 400) (hbn : w.heap[bn]? = some (.cells #[.int .i64 (n : Int)] 3 (0, 0))) (hsel : ∀ i (h : i < sel.length), ∃ b o, aS = some ⟨b, o, none⟩ ∧ w.cell? ⟨b, o + i, none⟩ = some (.int .u16 (sel[i] : Int))) (hs1 : ∀ s ∈ sel, s < 65536) (hsl : sel.length ≤ 1024) (R : Ending → World → Prop) (hR : ∀ w', w.grownBy w' none → R (.returned (.bool true)) w')
    (u0 u1 u3 u4 u5 u8 u9 u10 u11 u12 u13 u14 u15 u16 u17 u18 u19 u20 u21 u22 u23 u24 u25 u26 u27 u28 u29 u30 u31 u32 u33 u34 u35 u36 u37 u38 u39 u40 u41 u42 u43 u44 u45 u46 u47 u48 u49 u50 u51 u52 u53 u54 u55 u56 u57 u58 u59 u60 u61 u62 u63 u64 u65 u66 u67 u68 u69 u70 u71 u72 u73 u74 u75 u76 u77 u78 u79 u80 u81 u82 u83 u84 u85 u86 u87 u88 u89 u90 u91 u92 u93 u94 u95 u96 u97 u98 u99 u100 u101 u102 u103 u104 u105 u106 u107 u108 u109 u110 u111 u112 u113 u114 u115 u116 u117 u118 u119 u120 u121 u122 u123 u124 u125 u126 u127 u128 u129 u130 u131 u132 u133 u134 u135 u136 u137 u138 u139 u140 u141 u142 u143 u144 u145 u146 u147 u148 u149 u150 u151 u152 u153 u154 u155 u156 u157 : Value) :
    Code.wp Ybaf.prog (sndS (sndS (sndS (sndS (Ybaf.f3.body.getD .skip))))) (bodyPost Ybaf.prog Ybaf.f3 R) ⟨#[u0, u1, .slice aS sel.length cS, u3, u4, u5, .bool false, .pointer (some ⟨bn, 0, none⟩), u8, u9, u10, u11, u12, u13, u14, u15, u16, u17, u18, u19, u20, u21, u22, u23, u24, u25, u26, u27, u28, u29, u30, u31, u32, u33, u34, u35, u36, u37, u38, u39, u40, u41, u42, u43, u44, u45, u46, u47, u48, u49, u50, u51, u52, u53, u54, u55, u56, u57, u58, u59, u60, u61, u62, u63, u64, u65, u66, u67, u68, u69, u70, u71, u72, u73, u74, u75, u76, u77, u78, u79, u80, u81, u82, u83, u84, u85, u86, u87, u88, u89, u90, u91, u92, u93, u94, u95, u96, u97, u98, u99, u100, u101, u102, u103, u104, u105, u106, u107, u108, u109, u110, u111, u112, u113, u114, u115, u116, u117, u118, u119, u120, u121, u122, u123, u124, u125, u126, u127, u128, u129, u130, u131, u132, u133, u134, u135, u136, u137, u138, u139, u140, u141, u142, u143, u144, u145, u146, u147, u148, u149, u150, u151, u152, u153, u154, u155, u156, u157], []⟩ w := by
  refine main_a w n _ bn hn hbn R ?_ _ _ _ _ _ _ _ _ _ _ _ _ _ _ _ _ _ _ _ _ _ _ _ _ _ _ _ _ _ _ _ _ _ _ _ _ _ _ _ _ _ _ _ _ _ _ _ _ _ _ _ _ _ _ _ _ _ _ _ _ _ _ _ _ _ _ _ _ _ _ _ _ _ _ _ _ _ _ _ _ _ _ _ _ _ _ _ _ _ _ _ _ _ _ _ _ _ _ _ _ _ _ _ _ _ _ _ _ _ _ _ _ _ _ _ _ _ _ _ _ _ _ _ _ _ _ _ _ _ _ _ _ _ _ _ _ _ _ _ _ _ _ _ _ _ _ _ _ _ _ _ _ _ _ _
  intro w1 pl rs bl bo b11 _ _ _ _ _ _ _ _ _ _ _ _ _ _ _ _ _ _ _ _ _ _ _ _ _ _ _ _ _ _ _ _ _ _ _ _ _ _ _ _ _ _ _ _ _ _ _ _ _ _ _ _ _ _ _ _ _ _ _ _ _ _ _ _ _ _ _ _ _ _ _ _ _ _ _ _ _ _ _ _ _ _ _ _ _ _ _ _ _ _ _ _ _ _ _ _ _ _ _ _ _ _ _ _ _ _ _ _ _ _ _ _ _ _ _ _ _ _ _ _ _ _ _ _ _ _ _ _ _ _ _ _ _ _ _ _ _ _ _ _ _ _ _ _ _ _ _ _ _ _ _ _ hg1 hkl hrs h11 hbo hbl
  refine main_b w1 sel aS cS bn bl bo b11 (fun i h => ?_) hs1 hsl R ?_ _ _ _ _ _ _ _ _ _ _ _ _ _ _ _ _ _ _ _ _ _ _ _ _ _ _ _ _ _ _ _ _ _ _ _ _ _ _ _ _ _ _ _ _ _ _ _ _ _ _ _ _ _ _ _ _ _ _ _ _ _ _ _ _ _ _ _ _ _ _ _ _ _ _ _ _ _ _ _ _ _ _ _ _ _ _ _ _ _ _ _ _ _ _ _ _ _ _ _ _ _ _ _ _ _ _ _ _ _ _ _ _ _ _ _ _ _ _ _ _ _ _ _ _ _ _ _ _ _ _ _ _ _ _ _ _ _ _ _ _ _ _ _ _ _ _ _ _ _ _ _ _
  · obtain ⟨b, o, e, hc⟩ := hsel i h
    exact ⟨b, o, e, (hg1.cell_far ⟨b, o + i, none⟩ (World.block_lt_of_cell? _ _ hc) (by simp)).trans hc⟩
  intro w2 gN cN _ _ _ _ _ _ _ _ _ _ _ _ _ _ _ _ _ _ _ _ _ _ _ _ _ _ _ _ _ _ _ _ _ _ _ _ _ _ _ _ _ _ _ _ _ _ _ _ _ _ _ _ _ _ _ _ _ _ _ _ _ _ _ _ _ _ _ _ _ _ _ _ _ _ _ _ _ _ _ _ _ _ _ _ _ _ _ _ _ _ _ _ _ _ _ _ _ _ _ _ _ _ _ _ _ _ _ _ _ _ _ _ _ _ _ _ _ _ _ _ _ _ _ _ _ _ _ _ _ _ _ _ _ _ _ _ _ _ _ _ _ _ _ _ _ _ _ _ _ _ _ _ hg2 hvs
  refine main_c w2 (namesOf sel) bn bl bo b11 gN cN hvs (names_lt sel) (names_len sel) R ?_ _ _ _ _ _ _ _ _ _ _ _ _ _ _ _ _ _ _ _ _ _ _ _ _ _ _ _ _ _ _ _ _ _ _ _ _ _ _ _ _ _ _ _ _ _ _ _ _ _ _ _ _ _ _ _ _ _ _ _ _ _ _ _ _ _ _ _ _ _ _ _ _ _ _ _ _ _ _ _ _ _ _ _ _ _ _ _ _ _ _ _ _ _ _ _ _ _ _ _ _ _ _ _ _ _ _ _ _ _ _ _ _ _ _ _ _ _ _ _ _ _ _ _ _ _ _ _ _ _ _ _ _ _ _ _ _ _ _ _ _ _ _ _ _ _ _ _ _ _ _ _ _
  intro w3 pi irs b18 _ _ _ _ _ _ _ _ _ _ _ _ _ _ _ _ _ _ _ _ _ _ _ _ _ _ _ _ _ _ _ _ _ _ _ _ _ _ _ _ _ _ _ _ _ _ _ _ _ _ _ _ _ _ _ _ _ _ _ _ _ _ _ _ _ _ _ _ _ _ _ _ _ _ _ _ _ _ _ _ _ _ _ _ _ _ _ _ _ _ _ _ _ _ _ _ _ _ _ _ _ _ _ _ _ _ _ _ _ _ _ _ _ _ _ _ _ _ _ _ _ _ _ _ _ _ _ _ _ _ _ _ _ _ _ _ _ _ _ _ _ _ _ _ _ _ _ _ _ _ _ hg3 hki h18
  have hg13 := hg2.trans hg3
  have hw3 := hg1.trans hg13
  refine main_d w3 n _ bn bl bo b11 b18 hn ((hw3.block _ (lt_heap hbn) (by simp)).trans hbn) R ?_ _ _ _ _ _ _ _ _ _ _ _ _ _ _ _ _ _ _ _ _ _ _ _ _ _ _ _ _ _ _ _ _ _ _ _ _ _ _ _ _ _ _ _ _ _ _ _ _ _ _ _ _ _ _ _ _ _ _ _ _ _ _ _ _ _ _ _ _ _ _ _ _ _ _ _ _ _ _ _ _ _ _ _ _ _ _ _ _ _ _ _ _ _ _ _ _ _ _ _ _ _ _ _ _ _ _ _ _ _ _ _ _ _ _ _ _ _ _ _ _ _ _ _ _ _ _ _ _ _ _ _ _ _ _ _ _ _ _ _ _ _ _ _ _ _ _ _ _ _ _ _
  intro w4 bnr _ _ _ _ _ _ _ _ _ _ _ _ _ _ _ _ _ _ _ _ _ _ _ _ _ _ _ _ _ _ _ _ _ _ _ _ _ _ _ _ _ _ _ _ _ _ _ _ _ _ _ _ _ _ _ _ _ _ _ _ _ _ _ _ _ _ _ _ _ _ _ _ _ _ _ _ _ _ _ _ _ _ _ _ _ _ _ _ _ _ _ _ _ _ _ _ _ _ _ _ _ _ _ _ _ _ _ _ _ _ _ _ _ _ _ _ _ _ _ _ _ _ _ _ _ _ _ _ _ _ _ _ _ _ _ _ _ _ _ _ _ _ _ _ _ _ _ _ _ _ hg4 hbr
  have hg14 := hg13.trans hg4
  have hw4 := hw3.trans hg4
  have hpl := hkl.kept hg14 (safe_none _)
  refine main_d33 w4 (lkOf n) (namesOf sel) (spansOf (lkOf n) (rsOf (lkOf n))) (nRof n) (Tof (nRof n) (namesOf sel)) (fun m => 128 * m + 2) (partF (nRof n) (namesOf sel)) rs irs pl pi bn bl bo b11 b18 gN cN bnr (pc_names n hn sel) hpl (hki.kept hg4 (safe_none _)) ?_ (fun s _ => partF_eq _ _ (names_incr sel) s) ?_ hbr ?_ ?_ ((hg14.block _ (lt_heap h11) (by simp)).trans h11) ((hg4.block _ (lt_heap h18) (by simp)).trans h18) ?_ (names_lt sel) (Nat.le_trans (names_len sel) (by decide)) R (fun w' h => hR w' (hw4.trans h)) _ _ _ _ _ _ _ _ _ _ _ _ _ _ _ _ _ _ _ _ _ _ _ _ _ _ _ _ _ _ _ _ _ _ _ _ _ _ _ _ _ _ _ _ _ _ _ _ _ _ _ _ _ _ _ _ _ _ _ _ _ _ _ _ _ _ _ _ _ _ _ _ _ _ _ _ _ _ _ _ _ _ _ _ _ _ _ _ _ _ _ _ _ _ _ _ _ _ _ _ _ _ _ _ _ _ _ _ _ _ _ _ _ _ _ _ _ _ _ _ _ _ _ _ _ _ _ _ _ _ _ _ _ _ _ _ _ _ _ _ _ _ _ _ _ _ _ _ _ _
  · rw [hrs]
    unfold rsOf
    rw [lkOf_length]
  · rw [lkOf_length]
    exact (hw4.block _ (lt_heap hbn) (by simp)).trans hbn
  · rw [lkOf_length]
    obtain ⟨g, c, h1, arr, fr, h2, h3⟩ := hbo
    exact ⟨g, c, (hg14.block _ (lt_heap h1) (by simp)).trans h1, arr, fr, (hg14.block _ (lt_heap h2) (by simp)).trans h2, h3⟩
  · obtain ⟨a, c, h1, h2, h3⟩ := hbl
    exact ⟨a, c, (hg14.block _ (lt_heap h1) (by simp)).trans h1, h2.kept hg14 (fun R e => by simp at e), h3⟩
  · intro i h
    have := hvs i h
    exact ((hg3.trans hg4).cell_far ⟨gN, i, none⟩ (World.block_lt_of_cell? _ _ this) (by simp)).trans this
end Go.Proofs.YbulkbasiFmt
