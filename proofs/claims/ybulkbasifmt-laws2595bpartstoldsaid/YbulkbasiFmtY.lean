import Derived.Test.YbulkbasiFmtX
import Derived.Sort.OwnSortedInts
namespace Go.Proofs.YbulkbasiFmt
open Go.RowKit Go.Sort
set_option maxRecDepth 100000

def nvI (s : Nat) : Int := ((s * 37 % 1000 : Nat) : Int)
def sortedI (sel : List Nat) : List Int := (sel.map nvI).mergeSort fun x y => decide (x ≤ y)
def namesOf (sel : List Nat) : List Nat := (Lib.compact (sortedI sel)).map Int.toNat
theorem info3 : ∃ i, Ybaf.prog.info? 3 = some i ∧ i.zero = some (.int .i64 0) ∧ i.size = 1 ∧ i.bytes = 8 := by
  have h1 : (Ybaf.prog.info? 3).map (·.size) = some 1 := by kernel_rfl
  have h2 : (Ybaf.prog.info? 3).map (·.bytes) = some 8 := by kernel_rfl
  have h3 : (Ybaf.prog.info? 3).bind (·.zero) = some (.int .i64 0) := by kernel_rfl
  obtain ⟨i, hi, hb⟩ := Option.map_eq_some_iff.1 h1
  rw [hi] at h2 h3
  exact ⟨i, hi, h3, hb, by simpa using h2⟩
theorem compact_mem {zs : List Int} {x : Int} (h : x ∈ Lib.compact zs) : x ∈ zs := by
  unfold Lib.compact Lib.compactUpTo at h
  simp only [List.mem_map, List.mem_filter, List.mem_range] at h
  obtain ⟨j, ⟨hj, _⟩, rfl⟩ := h
  have : zs.toArray[j]! = zs[j] := by simp [hj]
  rw [this]
  exact List.getElem_mem hj
theorem compact_len (zs : List Int) : (Lib.compact zs).length ≤ zs.length := by
  unfold Lib.compact Lib.compactUpTo
  rw [List.length_map]
  have := List.length_filter_le (Lib.keeps zs.toArray) (List.range zs.length)
  simpa using this
theorem sorted_mem {sel : List Nat} {x : Int} (h : x ∈ sortedI sel) : 0 ≤ x ∧ x < 1000 := by
  unfold sortedI at h
  have h2 := (List.mem_mergeSort.1 h)
  simp at h2
  obtain ⟨s, _, rfl⟩ := h2
  unfold nvI
  omega
theorem sorted_len (sel : List Nat) : (sortedI sel).length = sel.length := by
  unfold sortedI
  rw [List.length_mergeSort, List.length_map]
theorem names_get (sel : List Nat) (i : Nat) (h : i < (namesOf sel).length) : ∃ h' : i < (Lib.compact (sortedI sel)).length, (((namesOf sel)[i] : Nat) : Int) = (Lib.compact (sortedI sel))[i] := by
  have h' : i < (Lib.compact (sortedI sel)).length := by unfold namesOf at h; simpa using h
  refine ⟨h', ?_⟩
  have := (sorted_mem (compact_mem (List.getElem_mem h'))).1
  have e : (namesOf sel)[i] = (Lib.compact (sortedI sel))[i].toNat := List.getElem_map _
  rw [e]
  omega

set_option maxHeartbeats 4000000 in
/-- The names, sorted and compacted. -/
theorem main_b (w : World) (sel : List Nat) (aS : Option Addr) (cS bn bl bo b11 : Nat) (hsel : ∀ i (h : i < sel.length), ∃ b o, aS = some ⟨b, o, none⟩ ∧ w.cell? ⟨b, o + i, none⟩ = some (.int .u16 (sel[i] : Int))) (hs1 : ∀ s ∈ sel, s < 65536) (hsl : sel.length ≤ 1024) (R : Ending → World → Prop)
    (hK : ∀ (w' : World) (gN cN : Nat) (u0 u1 u2 u3 u4 u5 u10 u13 u14 u15 u16 u17 u18 u19 u20 u21 u22 u23 u24 u25 u26 u27 u28 u29 u30 u31 u32 u33 u34 u35 u36 u37 u38 u39 u40 u41 u42 u43 u44 u45 u46 u47 u48 u49 u50 u51 u52 u53 u54 u55 u56 u57 u58 u59 u60 u61 u62 u63 u64 u65 u66 u67 u68 u69 u70 u71 u72 u73 u74 u75 u76 u77 u78 u79 u80 u81 u82 u83 u84 u85 u86 u87 u88 u89 u90 u91 u92 u93 u94 u95 u96 u97 u98 u99 u100 u101 u102 u103 u104 u105 u106 u107 u108 u109 u110 u111 u112 u113 u114 u115 u116 u117 u118 u119 u120 u121 u122 u123 u124 u125 u126 u127 u128 u129 u130 u131 u132 u133 u134 u135 u136 u137 u138 u139 u140 u141 u142 u143 u144 u145 u146 u147 u148 u149 u150 u151 u152 u153 u154 u155 u156 u157 : Value), w.grownBy w' none → (∀ i (h : i < (namesOf sel).length), w'.cell? ⟨gN, i, none⟩ = some (.int .i64 ((namesOf sel)[i] : Int))) → Code.wp Ybaf.prog (sndS (sndS (sndS (sndS (sndS (sndS (sndS (sndS (sndS (sndS (sndS (sndS (sndS (Ybaf.f3.body.getD .skip)))))))))))))) (bodyPost Ybaf.prog Ybaf.f3 R) ⟨#[u0, u1, u2, u3, u4, u5, .bool false, .pointer (some ⟨bn, 0, none⟩), .pointer (some ⟨bl, 0, none⟩), .pointer (some ⟨bo, 0, none⟩), u10, .pointer (some ⟨b11, 0, none⟩), .slice (some ⟨gN, 0, none⟩) (namesOf sel).length cN, u13, u14, u15, u16, u17, u18, u19, u20, u21, u22, u23, u24, u25, u26, u27, u28, u29, u30, u31, u32, u33, u34, u35, u36, u37, u38, u39, u40, u41, u42, u43, u44, u45, u46, u47, u48, u49, u50, u51, u52, u53, u54, u55, u56, u57, u58, u59, u60, u61, u62, u63, u64, u65, u66, u67, u68, u69, u70, u71, u72, u73, u74, u75, u76, u77, u78, u79, u80, u81, u82, u83, u84, u85, u86, u87, u88, u89, u90, u91, u92, u93, u94, u95, u96, u97, u98, u99, u100, u101, u102, u103, u104, u105, u106, u107, u108, u109, u110, u111, u112, u113, u114, u115, u116, u117, u118, u119, u120, u121, u122, u123, u124, u125, u126, u127, u128, u129, u130, u131, u132, u133, u134, u135, u136, u137, u138, u139, u140, u141, u142, u143, u144, u145, u146, u147, u148, u149, u150, u151, u152, u153, u154, u155, u156, u157], []⟩ w')
    (u0 u1 u3 u4 u5 u10 u12 u13 u14 u15 u16 u17 u18 u19 u20 u21 u22 u23 u24 u25 u26 u27 u28 u29 u30 u31 u32 u33 u34 u35 u36 u37 u38 u39 u40 u41 u42 u43 u44 u45 u46 u47 u48 u49 u50 u51 u52 u53 u54 u55 u56 u57 u58 u59 u60 u61 u62 u63 u64 u65 u66 u67 u68 u69 u70 u71 u72 u73 u74 u75 u76 u77 u78 u79 u80 u81 u82 u83 u84 u85 u86 u87 u88 u89 u90 u91 u92 u93 u94 u95 u96 u97 u98 u99 u100 u101 u102 u103 u104 u105 u106 u107 u108 u109 u110 u111 u112 u113 u114 u115 u116 u117 u118 u119 u120 u121 u122 u123 u124 u125 u126 u127 u128 u129 u130 u131 u132 u133 u134 u135 u136 u137 u138 u139 u140 u141 u142 u143 u144 u145 u146 u147 u148 u149 u150 u151 u152 u153 u154 u155 u156 u157 : Value) :
    Code.wp Ybaf.prog (sndS (sndS (sndS (sndS (sndS (sndS (sndS (sndS (sndS (Ybaf.f3.body.getD .skip)))))))))) (bodyPost Ybaf.prog Ybaf.f3 R) ⟨#[u0, u1, .slice aS sel.length cS, u3, u4, u5, .bool false, .pointer (some ⟨bn, 0, none⟩), .pointer (some ⟨bl, 0, none⟩), .pointer (some ⟨bo, 0, none⟩), u10, .pointer (some ⟨b11, 0, none⟩), u12, u13, u14, u15, u16, u17, u18, u19, u20, u21, u22, u23, u24, u25, u26, u27, u28, u29, u30, u31, u32, u33, u34, u35, u36, u37, u38, u39, u40, u41, u42, u43, u44, u45, u46, u47, u48, u49, u50, u51, u52, u53, u54, u55, u56, u57, u58, u59, u60, u61, u62, u63, u64, u65, u66, u67, u68, u69, u70, u71, u72, u73, u74, u75, u76, u77, u78, u79, u80, u81, u82, u83, u84, u85, u86, u87, u88, u89, u90, u91, u92, u93, u94, u95, u96, u97, u98, u99, u100, u101, u102, u103, u104, u105, u106, u107, u108, u109, u110, u111, u112, u113, u114, u115, u116, u117, u118, u119, u120, u121, u122, u123, u124, u125, u126, u127, u128, u129, u130, u131, u132, u133, u134, u135, u136, u137, u138, u139, u140, u141, u142, u143, u144, u145, u146, u147, u148, u149, u150, u151, u152, u153, u154, u155, u156, u157], []⟩ w := by
  have HK : Hid _ := hK
  have HS : Hid (∀ i (h : i < sel.length), ∃ b o, aS = some ⟨b, o, none⟩ ∧ w.cell? ⟨b, o + i, none⟩ = some (.int .u16 (sel[i] : Int))) := hsel
  obtain ⟨i3, hi, hz, hs, hy⟩ := info3
  clear hK hsel
  conv => arg 2; simp only [Ybaf.f3, Option.getD_some, sndS]
  refine wp_seqS fun Ka hKa => ?_
  go_wp2_with (at_make; refine wpList_make_own _ rfl _ _ 25 rfl w.heap.size 3 i3 (.int .i64 0) 1 Ybaf.underlying25 hi hz hs .i64 .i64 _ sel.length rfl rfl rfl (by rw [hy]; omega) (by simp [maxLen]; omega) (Nat.le_refl _) ?_; intro w1 hown1 hgrow1)
  unfold wpS
  refine wp_seqS fun Kb hKb => ?_
  go_wp2
  go_loopw [12, 73] (fun nm v wr => ∃ i : Nat, i ≤ sel.length ∧ v = .int .i64 (i : Int) ∧ wr.ownsRow w.heap.size 3 1 nm i (((sel.take i).map nvI).map (Value.int .i64)) ∧ w.grownBy wr none ∧ ∃ g c, nm = .slice (some ⟨g, 0, none⟩) i c) (fun _ v _ => sel.length - (intOf v).toNat)
  case atStart => exact ⟨0, Nat.zero_le _, rfl, hown1, hgrow1, _, _, rfl⟩
  case round =>
    clear hown1 hgrow1
    obtain ⟨i, hil, rfl, hown, hgr, g, c, rfl⟩ := hrel
    by_cases hlt : i < sel.length
    · obtain ⟨sv, hsv⟩ : ∃ sv, sv = sel[i] := ⟨_, rfl⟩
      have hsb := hs1 sel[i] (List.getElem_mem hlt)
      obtain ⟨b, o, rfl, hcell⟩ := HS.out i hlt
      rw [← hsv] at hsb hcell
      have hltI : (i : Int) < (sel.length : Int) := by omega
      have hi0 : (0 : Int) ≤ (i : Int) := by omega
      have c36 : wr.cell? ⟨b, o + i, none⟩ = some (.int .u16 (sv : Int)) := (hgr.cell_far ⟨b, o + i, none⟩ (World.block_lt_of_cell? _ _ hcell) (by simp)).trans hcell
      have HQ : Hid (wr.ownsRow w.heap.size 3 1 (.slice (some ⟨g, 0, none⟩) i c) i (((sel.take i).map nvI).map (Value.int .i64)) ∧ w.grownBy wr none ∧ sv = sel[i]) := ⟨hown, hgr, hsv⟩
      clear hown hgr hsv hcell
      go_wp2_with (at_builtin; go_loud (refine wpList_append_lies _ rfl _ _ _ rfl w.heap.size 3 i3 (.int .i64 0) 1 8 Ybaf.underlying25 hi hz hs hy rfl (by omega) (.slice (some ⟨g, 0, none⟩) i c) i _ rfl (HQ.out.1.alloc _) ⟨wr.heap.size, 0, none⟩ 1 1 [.int .i64 (nvI sv)] rfl rfl (World.news_of_block (heap_alloc_new _ _)) (by simp [Value.oneCell']) (by omega) (by simp [maxLen]; omega) (by omega) (by have := HQ.out.2.1.size; simp; omega) _ rfl ?_; intro g2 cap2 w2 hown2 hgrow2 hat2 hlt2))
      have happ : ((sel.take i).map nvI).map (Value.int .i64) ++ [.int .i64 (nvI sv)] = ((sel.take (i + 1)).map nvI).map (Value.int .i64) := by
        rw [List.take_add_one, List.getElem?_eq_getElem hlt, Option.toList_some, List.map_append, List.map_append, ← HQ.out.2.2]
        rfl
      have hgr2 : w.grownBy w2 none := (HQ.out.2.1.trans (World.grownBy_alloc _ _ _)).andThen hgrow2 (fun j hj => .inl ((HQ.out.1.lt j hj).1))
      refine ⟨⟨i + 1, by omega, by simp, ?_, hgr2, _, _, rfl⟩, by simp [intOf]; omega⟩
      rw [← happ]
      exact hown2
    · have hie : i = sel.length := by omega
      subst hie
      rw [List.take_length] at hown
      have hltI : ¬ ((sel.length : Int) < (sel.length : Int)) := by omega
      rcases hown.2 with ⟨h', _⟩ | ⟨g', cap', cur, he, hbg, hg, hnc, hcm, hcs, htk⟩
      · simp at h'
      simp at he
      obtain ⟨rfl, rfl⟩ := he
      have hzl : (sel.map nvI).length = sel.length := by simp
      have hH := holds_of_blockI (ss := sel.map nvI) hg (by rw [hzl]; simpa using htk)
      have hsrt := Ybaf.slices_Sort_int g 0 c (sel.map nvI) wr hH (lt_heap hg) (by rw [hzl]; omega)
      rw [hzl] at hsrt
      have HQ : Hid (w.grownBy wr none ∧ w.heap.size ≤ g ∧ wr.heap[g]? = some (.cells cur 3 (0, 0)) ∧ sel.length ≤ c ∧ c ≤ maxLen ∧ cur.size = c * 1) := ⟨hgr, hbg, hg, hnc, hcm, hcs⟩
      clear hown hgr hbg hg hnc hcm hcs htk hH
      go_wp2
      unfold wpS
      refine wp_seqS fun Kc hKc => ?_
      go_wp2_with (go_at_call 7; refine hsrt.mono ?_; rintro e w2 ⟨rfl, n2, os2, hw2⟩; have HW2 : Hid (w2 = grow (putRow (Value.int .i64) (Sort.ahead wr n2) g 0 ((sel.map nvI).mergeSort fun x y => decide (x ≤ y)).toArray) os2) := hw2; clear hw2)
      unfold wpS
      have hw2 := HW2.out
      have hsl2 := sorted_len sel
      have hown2 : w2.ownsRow w.heap.size 3 1 (.slice (some ⟨g, 0, none⟩) (sortedI sel).length c) (sortedI sel).length ((sortedI sel).map (Value.int .i64)) := by
        rw [hw2]
        exact ownsRow_sortedI (ss := sortedI sel) (ts := sortedI sel) rfl HQ.out.2.1 HQ.out.2.2.1 (by rw [hsl2]; exact HQ.out.2.2.2.1) HQ.out.2.2.2.2.1 HQ.out.2.2.2.2.2
      have hg2 : wr.grownBy w2 (some g) := by rw [hw2]; exact grownBy_sortedI _
      rcases hown2.2 with ⟨h', _⟩ | ⟨g', cap', cur2, he, hbg2, hgb2, hnc2, hcm2, hcs2, htk2⟩
      · simp at h'
      simp at he
      obtain ⟨rfl, rfl⟩ := he
      have hH2 := holds_of_blockI (ss := sortedI sel) hgb2 (by simpa using htk2)
      have hcp := Ybaf.slices_Compact_int g 0 c (sortedI sel) w2 hH2 (by rw [hsl2]; omega) hnc2
      have hgr2 : w.grownBy w2 none := HQ.out.1.andThen hg2 (fun j hj => .inl (by have : g = j := (by simpa using hj); have := HQ.out.2.1; omega))
      rw [hsl2] at hcp
      have HQ2 : Hid (w.grownBy w2 none ∧ w.heap.size ≤ g ∧ w2.heap[g]? = some (.cells cur2 3 (0, 0)) ∧ sel.length ≤ c ∧ cur2.size = c * 1) := ⟨hgr2, HQ.out.2.1, hgb2, HQ.out.2.2.2.1, hcs2⟩
      clear hown2 hg2 hbg2 hgb2 hnc2 hcm2 hcs2 htk2 hH2 hgr2 hw2 HW2
      refine wp_seqS fun Kd hKd => ?_
      go_wp2_with (go_at_call 8; refine hcp.mono ?_; rintro e w3 ⟨rfl, q3, hw3⟩; have HW3 : Hid (w3 = _) := hw3; clear hw3)
      unfold wpS
      have hw3 := HW3.out
      have hcl := compact_len (sortedI sel)
      rw [hsl2] at hcl
      generalize hD : (Lib.compact (sortedI sel) ++ List.replicate (sel.length - (Lib.compact (sortedI sel)).length) 0) = Dl at hw3
      have hDl : Dl.length = sel.length := by rw [← hD]; simp; omega
      have hw3' : w3 = grow (putRow (Value.int .i64) (Sort.ahead w2 q3) g 0 Dl.toArray) #[] := by rw [hw3, grow_empty]
      have hgr3 : w.grownBy w3 none := by
        rw [hw3']
        exact HQ2.out.1.andThen (grownBy_sortedI _) (fun j hj => .inl (by have : g = j := (by simpa using hj); have := HQ2.out.2.1; omega))
      have hown3 : w3.ownsRow w.heap.size 3 1 (.slice (some ⟨g, 0, none⟩) Dl.length c) Dl.length (Dl.map (Value.int .i64)) := by
        rw [hw3']
        exact ownsRow_sortedI (ss := Dl) (ts := Dl) rfl HQ2.out.2.1 HQ2.out.2.2.1 (by rw [hDl]; exact HQ2.out.2.2.2.1) HQ.out.2.2.2.2.1 HQ2.out.2.2.2.2
      have hnl : (Lib.compact (sortedI sel)).length = (namesOf sel).length := by unfold namesOf; rw [List.length_map]
      rw [hnl]
      refine HK.out w3 g c _ _ _ _ _ _ _ _ _ _ _ _ _ _ _ _ _ _ _ _ _ _ _ _ _ _ _ _ _ _ _ _ _ _ _ _ _ _ _ _ _ _ _ _ _ _ _ _ _ _ _ _ _ _ _ _ _ _ _ _ _ _ _ _ _ _ _ _ _ _ _ _ _ _ _ _ _ _ _ _ _ _ _ _ _ _ _ _ _ _ _ _ _ _ _ _ _ _ _ _ _ _ _ _ _ _ _ _ _ _ _ _ _ _ _ _ _ _ _ _ _ _ _ _ _ _ _ _ _ _ _ _ _ _ _ _ _ _ _ _ _ _ _ _ _ _ _ _ _ _ _ _ hgr3 (fun i h => ?_)
      obtain ⟨h', e'⟩ := names_get sel i h
      rw [e']
      refine own_cell hown3 i _ ?_
      rw [List.getElem?_map, ← hD, List.getElem?_append_left h', List.getElem?_eq_getElem h']
      rfl
end Go.Proofs.YbulkbasiFmt
