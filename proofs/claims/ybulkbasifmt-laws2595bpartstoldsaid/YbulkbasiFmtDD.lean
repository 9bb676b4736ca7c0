import Derived.Test.YbulkbasiFmtCC
namespace Go.Proofs.YbulkbasiFmt
open Go.RowKit
set_option maxRecDepth 100000

set_option maxHeartbeats 4000000 in
/-- How many runs there are. -/
theorem main_d (w : World) (n : Nat) (v12 : Value) (bn bl bo b11 b18 : Nat) (hn : n ≤ 400) (hbn : w.heap[bn]? = some (.cells #[.int .i64 (n : Int)] 3 (0, 0))) (R : Ending → World → Prop)
    (hK : ∀ (w' : World) (bnr : Nat) (u0 u1 u2 u3 u4 u5 u10 u13 u14 u15 u16 u17 u20 u21 u22 u23 u24 u25 u26 u27 u28 u29 u30 u31 u32 u33 u34 u35 u36 u37 u38 u39 u40 u41 u42 u43 u44 u45 u46 u47 u48 u49 u50 u51 u52 u53 u54 u55 u56 u57 u58 u59 u60 u61 u62 u63 u64 u65 u66 u67 u68 u69 u70 u71 u72 u73 u74 u75 u76 u77 u78 u79 u80 u81 u82 u83 u84 u85 u86 u87 u88 u89 u90 u91 u92 u93 u94 u95 u96 u97 u98 u99 u100 u101 u102 u103 u104 u105 u106 u107 u108 u109 u110 u111 u112 u113 u114 u115 u116 u117 u118 u119 u120 u121 u122 u123 u124 u125 u126 u127 u128 u129 u130 u131 u132 u133 u134 u135 u136 u137 u138 u139 u140 u141 u142 u143 u144 u145 u146 u147 u148 u149 u150 u151 u152 u153 u154 u155 u156 u157 : Value), w.grownBy w' none → w'.heap[bnr]? = some (.cells #[.int .i64 (nRof n : Int)] 3 (0, 0)) → Code.wp Ybaf.prog (sndS (sndS (sndS (sndS (sndS (sndS (sndS (sndS (sndS (sndS (sndS (sndS (sndS (sndS (sndS (sndS (sndS (sndS (Ybaf.f3.body.getD .skip))))))))))))))))))) (bodyPost Ybaf.prog Ybaf.f3 R) ⟨#[u0, u1, u2, u3, u4, u5, .bool false, .pointer (some ⟨bn, 0, none⟩), .pointer (some ⟨bl, 0, none⟩), .pointer (some ⟨bo, 0, none⟩), u10, .pointer (some ⟨b11, 0, none⟩), v12, u13, u14, u15, u16, u17, .pointer (some ⟨b18, 0, none⟩), .pointer (some ⟨bnr, 0, none⟩), u20, u21, u22, u23, u24, u25, u26, u27, u28, u29, u30, u31, u32, u33, u34, u35, u36, u37, u38, u39, u40, u41, u42, u43, u44, u45, u46, u47, u48, u49, u50, u51, u52, u53, u54, u55, u56, u57, u58, u59, u60, u61, u62, u63, u64, u65, u66, u67, u68, u69, u70, u71, u72, u73, u74, u75, u76, u77, u78, u79, u80, u81, u82, u83, u84, u85, u86, u87, u88, u89, u90, u91, u92, u93, u94, u95, u96, u97, u98, u99, u100, u101, u102, u103, u104, u105, u106, u107, u108, u109, u110, u111, u112, u113, u114, u115, u116, u117, u118, u119, u120, u121, u122, u123, u124, u125, u126, u127, u128, u129, u130, u131, u132, u133, u134, u135, u136, u137, u138, u139, u140, u141, u142, u143, u144, u145, u146, u147, u148, u149, u150, u151, u152, u153, u154, u155, u156, u157], []⟩ w')
    (u0 u1 u2 u3 u4 u5 u10 u13 u14 u15 u16 u17 u19 u20 u21 u22 u23 u24 u25 u26 u27 u28 u29 u30 u31 u32 u33 u34 u35 u36 u37 u38 u39 u40 u41 u42 u43 u44 u45 u46 u47 u48 u49 u50 u51 u52 u53 u54 u55 u56 u57 u58 u59 u60 u61 u62 u63 u64 u65 u66 u67 u68 u69 u70 u71 u72 u73 u74 u75 u76 u77 u78 u79 u80 u81 u82 u83 u84 u85 u86 u87 u88 u89 u90 u91 u92 u93 u94 u95 u96 u97 u98 u99 u100 u101 u102 u103 u104 u105 u106 u107 u108 u109 u110 u111 u112 u113 u114 u115 u116 u117 u118 u119 u120 u121 u122 u123 u124 u125 u126 u127 u128 u129 u130 u131 u132 u133 u134 u135 u136 u137 u138 u139 u140 u141 u142 u143 u144 u145 u146 u147 u148 u149 u150 u151 u152 u153 u154 u155 u156 u157 : Value) :
    Code.wp Ybaf.prog (sndS (sndS (sndS (sndS (sndS (sndS (sndS (sndS (sndS (sndS (sndS (sndS (sndS (sndS (sndS (sndS (Ybaf.f3.body.getD .skip))))))))))))))))) (bodyPost Ybaf.prog Ybaf.f3 R) ⟨#[u0, u1, u2, u3, u4, u5, .bool false, .pointer (some ⟨bn, 0, none⟩), .pointer (some ⟨bl, 0, none⟩), .pointer (some ⟨bo, 0, none⟩), u10, .pointer (some ⟨b11, 0, none⟩), v12, u13, u14, u15, u16, u17, .pointer (some ⟨b18, 0, none⟩), u19, u20, u21, u22, u23, u24, u25, u26, u27, u28, u29, u30, u31, u32, u33, u34, u35, u36, u37, u38, u39, u40, u41, u42, u43, u44, u45, u46, u47, u48, u49, u50, u51, u52, u53, u54, u55, u56, u57, u58, u59, u60, u61, u62, u63, u64, u65, u66, u67, u68, u69, u70, u71, u72, u73, u74, u75, u76, u77, u78, u79, u80, u81, u82, u83, u84, u85, u86, u87, u88, u89, u90, u91, u92, u93, u94, u95, u96, u97, u98, u99, u100, u101, u102, u103, u104, u105, u106, u107, u108, u109, u110, u111, u112, u113, u114, u115, u116, u117, u118, u119, u120, u121, u122, u123, u124, u125, u126, u127, u128, u129, u130, u131, u132, u133, u134, u135, u136, u137, u138, u139, u140, u141, u142, u143, u144, u145, u146, u147, u148, u149, u150, u151, u152, u153, u154, u155, u156, u157], []⟩ w := by
  have HK : Hid _ := hK
  have d7 : w.cell? ⟨bn, 0, none⟩ = some (.int .i64 (n : Int)) := (cell_of_row w _ 0 _ _ _ hbn).trans rfl
  clear hK hbn
  conv => arg 2; simp only [Ybaf.f3, Option.getD_some, sndS]
  refine wp_seqS fun Ka hKa => ?_
  go_wp2
  unfold wpS
  have hg : w.grownBy (w.alloc (.cells #[.int .i64 1] 3)) none := World.grownBy_alloc w _ none
  have hr : (w.alloc (.cells #[.int .i64 1] 3)).heap[w.heap.size]? = some (.cells #[.int .i64 1] 3 (0, 0)) := heap_alloc_new w _
  have d7' : (w.alloc (.cells #[.int .i64 1] 3)).cell? ⟨bn, 0, none⟩ = some (.int .i64 (n : Int)) := (hg.cell_far ⟨bn, 0, none⟩ (World.block_lt_of_cell? _ _ d7) (by simp)).trans d7
  have hf : (w.alloc (.cells #[.int .i64 1] 3)).frozen? ⟨w.heap.size, 0, none⟩ = false := frozen_of_row _ _ 0 _ _ hr
  have dN : (w.alloc (.cells #[.int .i64 1] 3)).cell? ⟨w.heap.size, 0, none⟩ = some (.int .i64 1) := (cell_of_row _ _ 0 _ _ _ hr).trans rfl
  have hst : ∀ v, w.grownBy ((w.alloc (.cells #[.int .i64 1] 3)).setCell ⟨w.heap.size, 0, none⟩ v) none ∧ ((w.alloc (.cells #[.int .i64 1] 3)).setCell ⟨w.heap.size, 0, none⟩ v).heap[w.heap.size]? = some (.cells #[v] 3 (0, 0)) := fun v =>
    ⟨hg.andThen (gr_setCell _ ⟨w.heap.size, 0, none⟩ v).g (fun j hj => .inl (by have : w.heap.size = j := (by simpa using hj); omega)), heap_setCell_same _ _ 0 _ _ _ hr⟩
  generalize w.alloc (.cells #[.int .i64 1] 3) = W1 at *
  generalize w.heap.size = N at *
  have HST : Hid (∀ v, w.grownBy (W1.setCell ⟨N, 0, none⟩ v) none ∧ (W1.setCell ⟨N, 0, none⟩ v).heap[N]? = some (.cells #[v] 3 (0, 0))) := hst
  have HG : Hid (w.grownBy W1 none ∧ W1.heap[N]? = some (.cells #[.int .i64 1] 3 (0, 0))) := ⟨hg, hr⟩
  clear hst hg hr d7
  refine wp_seqS fun Kb hKb => ?_
  by_cases hc : 128 ≤ n
  · have hcI : (128 : Int) ≤ (n : Int) := by omega
    go_wp2
    unfold wpS
    refine HK.out _ N _ _ _ _ _ _ _ _ _ _ _ _ _ _ _ _ _ _ _ _ _ _ _ _ _ _ _ _ _ _ _ _ _ _ _ _ _ _ _ _ _ _ _ _ _ _ _ _ _ _ _ _ _ _ _ _ _ _ _ _ _ _ _ _ _ _ _ _ _ _ _ _ _ _ _ _ _ _ _ _ _ _ _ _ _ _ _ _ _ _ _ _ _ _ _ _ _ _ _ _ _ _ _ _ _ _ _ _ _ _ _ _ _ _ _ _ _ _ _ _ _ _ _ _ _ _ _ _ _ _ _ _ _ _ _ _ _ _ _ _ _ _ _ _ _ _ _ _ _ _ (HST.out _).1 ?_
    rw [(HST.out _).2]
    unfold nRof
    rw [if_pos hc]
    have e : ((n / 64 : Nat) : Int) = (n : Int) / 64 := by omega
    rw [e]
  · have hcI : ¬ (128 : Int) ≤ (n : Int) := by omega
    go_wp2
    unfold wpS
    refine HK.out _ N _ _ _ _ _ _ _ _ _ _ _ _ _ _ _ _ _ _ _ _ _ _ _ _ _ _ _ _ _ _ _ _ _ _ _ _ _ _ _ _ _ _ _ _ _ _ _ _ _ _ _ _ _ _ _ _ _ _ _ _ _ _ _ _ _ _ _ _ _ _ _ _ _ _ _ _ _ _ _ _ _ _ _ _ _ _ _ _ _ _ _ _ _ _ _ _ _ _ _ _ _ _ _ _ _ _ _ _ _ _ _ _ _ _ _ _ _ _ _ _ _ _ _ _ _ _ _ _ _ _ _ _ _ _ _ _ _ _ _ _ _ _ _ _ _ _ _ _ _ _ HG.out.1 ?_
    rw [HG.out.2]
    unfold nRof
    rw [if_neg hc]
    rfl
end Go.Proofs.YbulkbasiFmt
