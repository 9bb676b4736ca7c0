import Derived.Test.YbulkbasiFmtZ
namespace Go.Proofs.YbulkbasiFmt
open Go.RowKit
set_option maxRecDepth 100000

set_option maxHeartbeats 4000000 in
/-- The first list. -/
theorem main_a (w : World) (n : Nat) (selV : Value) (bn : Nat) (hn : n ≤ 400) (hbn : w.heap[bn]? = some (.cells #[.int .i64 (n : Int)] 3 (0, 0))) (R : Ending → World → Prop)
    (hK : ∀ (w' : World) (pl : Option Addr) (rs : Option (List Run)) (bl bo b11 : Nat) (u0 u1 u3 u4 u5 u10 u12 u13 u14 u15 u16 u17 u18 u19 u20 u21 u22 u23 u24 u25 u26 u27 u28 u29 u30 u31 u32 u33 u34 u35 u36 u37 u38 u39 u40 u41 u42 u43 u44 u45 u46 u47 u48 u49 u50 u51 u52 u53 u54 u55 u56 u57 u58 u59 u60 u61 u62 u63 u64 u65 u66 u67 u68 u69 u70 u71 u72 u73 u74 u75 u76 u77 u78 u79 u80 u81 u82 u83 u84 u85 u86 u87 u88 u89 u90 u91 u92 u93 u94 u95 u96 u97 u98 u99 u100 u101 u102 u103 u104 u105 u106 u107 u108 u109 u110 u111 u112 u113 u114 u115 u116 u117 u118 u119 u120 u121 u122 u123 u124 u125 u126 u127 u128 u129 u130 u131 u132 u133 u134 u135 u136 u137 u138 u139 u140 u141 u142 u143 u144 u145 u146 u147 u148 u149 u150 u151 u152 u153 u154 u155 u156 u157 : Value), w.grownBy w' none → KL w' pl (lkOf n) rs → rs = (if n < 128 then none else some (cutRuns (lkOf n))) → w'.heap[b11]? = some (.cells #[.pointer pl] 33 (0, 0)) →
      (∃ g c, w'.heap[bo]? = some (.cells #[.slice (some ⟨g, 0, none⟩) (n + 1) c] 25 (0, 0)) ∧ ∃ arr fr, w'.heap[g]? = some (.cells arr 3 fr) ∧ ∀ i, i ≤ n → arr[i]? = some (.int .i64 (off (lkOf n) i : Int))) →
      (∃ a c, w'.heap[bl]? = some (.cells #[.slice a (bytesK (lkOf n)).length c] 24 (0, 0)) ∧ Sl w' a c (bytesK (lkOf n)) ∧ (lkOf n ≠ [] → ∃ g, a = some ⟨g, 0, none⟩) ∧ (lkOf n = [] → a = none ∧ c = 0)) →
      Code.wp Ybaf.prog (sndS (sndS (sndS (sndS (sndS (sndS (sndS (sndS (sndS (Ybaf.f3.body.getD .skip)))))))))) (bodyPost Ybaf.prog Ybaf.f3 R) ⟨#[u0, u1, selV, u3, u4, u5, .bool false, .pointer (some ⟨bn, 0, none⟩), .pointer (some ⟨bl, 0, none⟩), .pointer (some ⟨bo, 0, none⟩), u10, .pointer (some ⟨b11, 0, none⟩), u12, u13, u14, u15, u16, u17, u18, u19, u20, u21, u22, u23, u24, u25, u26, u27, u28, u29, u30, u31, u32, u33, u34, u35, u36, u37, u38, u39, u40, u41, u42, u43, u44, u45, u46, u47, u48, u49, u50, u51, u52, u53, u54, u55, u56, u57, u58, u59, u60, u61, u62, u63, u64, u65, u66, u67, u68, u69, u70, u71, u72, u73, u74, u75, u76, u77, u78, u79, u80, u81, u82, u83, u84, u85, u86, u87, u88, u89, u90, u91, u92, u93, u94, u95, u96, u97, u98, u99, u100, u101, u102, u103, u104, u105, u106, u107, u108, u109, u110, u111, u112, u113, u114, u115, u116, u117, u118, u119, u120, u121, u122, u123, u124, u125, u126, u127, u128, u129, u130, u131, u132, u133, u134, u135, u136, u137, u138, u139, u140, u141, u142, u143, u144, u145, u146, u147, u148, u149, u150, u151, u152, u153, u154, u155, u156, u157], []⟩ w')
    (u0 u1 u3 u4 u5 u8 u9 u10 u11 u12 u13 u14 u15 u16 u17 u18 u19 u20 u21 u22 u23 u24 u25 u26 u27 u28 u29 u30 u31 u32 u33 u34 u35 u36 u37 u38 u39 u40 u41 u42 u43 u44 u45 u46 u47 u48 u49 u50 u51 u52 u53 u54 u55 u56 u57 u58 u59 u60 u61 u62 u63 u64 u65 u66 u67 u68 u69 u70 u71 u72 u73 u74 u75 u76 u77 u78 u79 u80 u81 u82 u83 u84 u85 u86 u87 u88 u89 u90 u91 u92 u93 u94 u95 u96 u97 u98 u99 u100 u101 u102 u103 u104 u105 u106 u107 u108 u109 u110 u111 u112 u113 u114 u115 u116 u117 u118 u119 u120 u121 u122 u123 u124 u125 u126 u127 u128 u129 u130 u131 u132 u133 u134 u135 u136 u137 u138 u139 u140 u141 u142 u143 u144 u145 u146 u147 u148 u149 u150 u151 u152 u153 u154 u155 u156 u157 : Value) :
    Code.wp Ybaf.prog (sndS (sndS (sndS (sndS (Ybaf.f3.body.getD .skip))))) (bodyPost Ybaf.prog Ybaf.f3 R) ⟨#[u0, u1, selV, u3, u4, u5, .bool false, .pointer (some ⟨bn, 0, none⟩), u8, u9, u10, u11, u12, u13, u14, u15, u16, u17, u18, u19, u20, u21, u22, u23, u24, u25, u26, u27, u28, u29, u30, u31, u32, u33, u34, u35, u36, u37, u38, u39, u40, u41, u42, u43, u44, u45, u46, u47, u48, u49, u50, u51, u52, u53, u54, u55, u56, u57, u58, u59, u60, u61, u62, u63, u64, u65, u66, u67, u68, u69, u70, u71, u72, u73, u74, u75, u76, u77, u78, u79, u80, u81, u82, u83, u84, u85, u86, u87, u88, u89, u90, u91, u92, u93, u94, u95, u96, u97, u98, u99, u100, u101, u102, u103, u104, u105, u106, u107, u108, u109, u110, u111, u112, u113, u114, u115, u116, u117, u118, u119, u120, u121, u122, u123, u124, u125, u126, u127, u128, u129, u130, u131, u132, u133, u134, u135, u136, u137, u138, u139, u140, u141, u142, u143, u144, u145, u146, u147, u148, u149, u150, u151, u152, u153, u154, u155, u156, u157], []⟩ w := by
  have HK : Hid _ := hK
  obtain ⟨i3, hi, hz, hs, hy⟩ := info3
  have d7 : w.cell? ⟨bn, 0, none⟩ = some (.int .i64 (n : Int)) := (cell_of_row w _ 0 _ _ _ hbn).trans rfl
  have dA : ∀ o, (w.alloc o).cell? ⟨bn, 0, none⟩ = some (.int .i64 (n : Int)) := fun o => (cell_of_row _ _ 0 _ _ _ ((Below.heap_alloc w o bn (lt_heap hbn)).trans hbn)).trans rfl
  clear hK hbn
  conv => arg 2; simp only [Ybaf.f3, Option.getD_some, sndS]
  refine wp_seqS fun Ka hKa => ?_
  go_wp2
  unfold wpS
  refine wp_seqS fun Kb hKb => ?_
  go_wp2_with (at_make; refine wpList_make_own _ rfl _ _ 25 rfl w.heap.size 3 i3 (.int .i64 0) 1 Ybaf.underlying25 hi hz hs .i64 .i64 _ (n + 1) rfl rfl (by omega) (by rw [hy]; omega) (by simp [maxLen]; omega) (by simp) ?_; intro w1 hown1 hgrow1)
  unfold wpS
  have hbl0 : (w.alloc (.cells #[.slice none 0 0] 24)).heap[w.heap.size]? = some (.cells #[.slice none 0 0] 24 (0, 0)) := heap_alloc_new _ _
  have hgA := hgrow1.trans (World.grownBy_alloc w1 (.cells #[.slice (some ⟨w.heap.size + 1, 0, none⟩) 0 (n + 1)] 25) none)
  have hG0 : GrowOk (w1.alloc (.cells #[.slice (some ⟨w.heap.size + 1, 0, none⟩) 0 (n + 1)] 25)) w.heap.size w.heap.size w1.heap.size n 0 0 (.slice none 0 0) (.slice (some ⟨w.heap.size + 1, 0, none⟩) 0 (n + 1)) := by
    refine ⟨(hgA.block _ (lt_heap hbl0) (by simp)).trans hbl0, World.ownsRow_nil _ _ _ _, heap_alloc_new w1 _, ?_, ⟨_, _, rfl⟩, Nat.le_refl _, ?_⟩
    · have := hown1.alloc (.cells #[.slice (some ⟨w.heap.size + 1, 0, none⟩) 0 (n + 1)] 25)
      rw [World.size_alloc] at this
      exact this
    · have := hgrow1.size
      simp at this
      omega
  have hg0 : w.grownBy (w1.alloc (.cells #[.slice (some ⟨w.heap.size + 1, 0, none⟩) 0 (n + 1)] 25)) none := (World.grownBy_alloc _ _ _).trans hgA
  generalize w1.alloc (.cells #[.slice (some ⟨w.heap.size + 1, 0, none⟩) 0 (n + 1)] 25) = W2 at hG0 hg0 ⊢
  generalize w1.heap.size = bo at hG0 ⊢
  generalize hNN : w.heap.size = N at *
  clear hown1 hgrow1 hbl0 hgA
  refine wp_seqS fun Kc hKc => ?_
  go_wp2
  go_loopw [10] (fun v wr => ∃ (i : Nat) (lv ov : Value), i ≤ n ∧ v = .int .i64 (i : Int) ∧ GrowOk wr N N bo n i i lv ov ∧ w.grownBy wr none ∧ (i = 0 → lv = .slice none 0 0)) (fun v _ => n - (intOf v).toNat)
  case atStart => exact ⟨0, _, _, Nat.zero_le _, rfl, hG0, hg0, fun _ => rfl⟩
  case round =>
    clear hG0 hg0
    obtain ⟨i, lv, ov, hil, rfl, hG, hgr, hlz⟩ := hrel
    obtain ⟨go, co, rfl⟩ := hG.of
    obtain ⟨la, lc, hlf⟩ := hG.lb.form
    subst hlf
    have hbl9 := bytesK_le ((lkOf n).take i)
    rw [List.length_take, lkOf_length] at hbl9
    have d7r : wr.cell? ⟨bn, 0, none⟩ = some (.int .i64 (n : Int)) := (hgr.cell_far ⟨bn, 0, none⟩ (World.block_lt_of_cell? _ _ d7) (by simp)).trans d7
    by_cases hlt : i < n
    · have hltI : (i : Int) < (n : Int) := by omega
      have hoi : off (lkOf n) i = (bytesK ((lkOf n).take i)).length := rfl
      have cl : wr.cell? ⟨N, 0, none⟩ = some (.slice la (bytesK ((lkOf n).take i)).length lc) := (cell_of_row wr _ 0 _ _ _ hG.l).trans rfl
      have co1 : wr.cell? ⟨bo, 0, none⟩ = some (.slice (some ⟨go, 0, none⟩) i co) := (cell_of_row wr _ 0 _ _ _ hG.o).trans rfl
      have HQ : Hid (GrowOk wr N N bo n i i (.slice la (bytesK ((lkOf n).take i)).length lc) (.slice (some ⟨go, 0, none⟩) i co) ∧ w.grownBy wr none ∧ off (lkOf n) i = (bytesK ((lkOf n).take i)).length) := ⟨hG, hgr, hoi⟩
      have HN : Hid (w.heap.size = N) := hNN
      have hbgo : some bo ≠ (Value.slice (some ⟨go, 0, none⟩) i co).ownBlock := fun e => by
        obtain ⟨cur, hc⟩ := own_at hG.ob e.symm
        rw [hG.o] at hc
        simp at hc
      clear hG hgr hoi hlz
      generalize hBL : (bytesK ((lkOf n).take i)).length = BL at *
      have HBL : Hid ((bytesK ((lkOf n).take i)).length = BL) := hBL
      clear hBL
      have hNr : N ≤ wr.heap.size := by have := HQ.out.2.1.size; have := HN.out; omega
      go_wp2_with (at_builtin; refine wpList_append_lies _ rfl _ _ _ rfl N 3 i3 (.int .i64 0) 1 8 Ybaf.underlying25 hi hz hs hy rfl (by omega) (.slice (some ⟨go, 0, none⟩) i co) i (offsV n i) rfl (HQ.out.1.ob.alloc _) ⟨wr.heap.size, 0, none⟩ 1 1 [.int .i64 (BL : Int)] rfl rfl (World.news_of_block (heap_alloc_new _ _)) (by simp [Value.oneCell']) (by omega) (by simp [maxLen]; omega) (by omega) (by simp; omega) _ rfl ?_; intro g2 cap2 w2 hown2 hgrow2 hat2 hlt2; have c2 : w2.cell? ⟨bo, 0, none⟩ = some (.slice (some ⟨go, 0, none⟩) i co) := ((hgrow2.cell_far ⟨bo, 0, none⟩ (by have := lt_heap HQ.out.1.o; simp; omega) hbgo).trans (World.cell?_of_block (Below.heap_alloc wr _ bo (lt_heap HQ.out.1.o)))).trans co1; have f2 : w2.frozen? ⟨bo, 0, none⟩ = false := (hgrow2.frozen_far ⟨bo, 0, none⟩ (by have := lt_heap HQ.out.1.o; simp; omega) hbgo).trans ((World.frozen?_of_block (Below.heap_alloc wr _ bo (lt_heap HQ.out.1.o))).trans (frozen_of_row wr bo 0 _ _ HQ.out.1.o)))
      have hst := (HQ.out.1.kept (World.grownBy_alloc wr (.cells #[.int .i64 (BL : Int)] 3) none)).off hgrow2 (ov' := .slice (some ⟨g2, 0, none⟩) (i + 1) cap2) (by rw [← offsV_succ, HQ.out.2.2]; exact hown2) ⟨_, _, rfl⟩
      have hgr3 := hst.2.2 w (Nat.le_of_eq HN.out) (HQ.out.2.1.trans (World.grownBy_alloc _ _ _))
      have hG3 := hst.1
      have hN3 : N ≤ (w2.setCell ⟨bo, 0, none⟩ (.slice (some ⟨g2, 0, none⟩) (i + 1) cap2)).heap.size := by have := hgr3.size; have := HN.out; omega
      clear hst hown2 hgrow2 hat2 hlt2 c2 f2
      generalize w2.setCell ⟨bo, 0, none⟩ (.slice (some ⟨g2, 0, none⟩) (i + 1) cap2) = w3 at *
      have cl3 : w3.cell? ⟨N, 0, none⟩ = some (.slice la BL lc) := (cell_of_row w3 _ 0 _ _ _ hG3.l).trans rfl
      have hnm := name_any (2 * i + 2) (by omega) w3.drew
      rw [show ((2 * i + 2 : Nat) : Int) = 2 * (i : Int) + 2 from by omega] at hnm
      have hw1 : IntKind.i64.wrap (2 * (i : Int)) = 2 * (i : Int) := by rw [IntKind.wrap_i64]; omega
      have hw2 : IntKind.i64.wrap (2 * (i : Int) + 2) = 2 * (i : Int) + 2 := by rw [IntKind.wrap_i64]; omega
      have hw3 : IntKind.u64.wrap (i : Int) = (i : Int) := by rw [IntKind.wrap_u64]; omega
      have hw4 : IntKind.u64.wrap ((i : Int) + 1) = (i : Int) + 1 := by rw [IntKind.wrap_u64]; omega
      have HG3 : Hid (GrowOk w3 N N bo n i (i + 1) (.slice la BL lc) (.slice (some ⟨g2, 0, none⟩) (i + 1) cap2) ∧ w.grownBy w3 none) := ⟨hG3, hgr3⟩
      have HAD : Hid (∀ w4, w3.grownBy w4 none → Calls Ybaf.prog 4 #[.slice la BL lc, .string (nameS (2 * i + 2)), .agg #[.string ⟨#[]⟩, .int .u64 ((i : Int) + 1)]] w4 fun e w' => ∃ v', e = .returned v' ∧ App w4 N (.slice la BL lc) (bytesK ((lkOf n).take i) ++ encK (2 * i + 2) (i + 1)) v' w') := fun w4 h4 => by
        have := appendKey_any N (2 * i + 2) (i + 1) (.slice la BL lc) _ w4 (hG3.lb.kept0 h4) (by omega) (by omega) (by rw [HBL.out]; omega) (Nat.le_trans hN3 h4.size)
        rw [show ((i + 1 : Nat) : Int) = (i : Int) + 1 from by omega] at this
        exact this
      clear hG3 hgr3 cl co1
      go_region_with (first
        | (go_at_call 5; refine hnm.mono ?_; rintro e w4 ⟨rfl, hg4⟩; have g4 := (gr_drew w3).g.trans hg4; have cl4 := (g4.cell_far ⟨N, 0, none⟩ (World.block_lt_of_cell? _ _ cl3) (by simp)).trans cl3; have HAD2 : Hid (Calls Ybaf.prog 4 _ w4 _) := HAD.out w4 g4)
        | (go_at_call 4; refine HAD2.out.mono ?_; rintro e w5 ⟨v5, rfl, ha5⟩; obtain ⟨f1, f2, f3, f4⟩ := (HG3.out.1.kept g4).key hlt ha5; obtain ⟨gq, cq, hv5, _⟩ := ha5.pl; subst hv5; rw [List.length_append] at f1 f4; have HFF : Hid (GrowOk _ _ _ _ _ _ _ _ _ ∧ _) := ⟨f1, f4 w (Nat.le_of_eq HN.out) (HG3.out.2.trans g4)⟩; clear f1 f4 ha5))
      all_goals
        go_wp2
        exact ⟨⟨i + 1, _, _, by omega, by simp, HFF.out.1, HFF.out.2, fun h => absurd h (by omega)⟩, by simp [intOf]; omega⟩
    · have hie : i = n := by omega
      subst hie
      have hltI : ¬ ((i : Int) < (i : Int)) := by omega
      have htk : (lkOf i).take i = lkOf i := by rw [List.take_of_length_le]; rw [lkOf_length]; exact Nat.le_refl _
      have hlb := hG.lb
      rw [htk] at hlb
      have hbe : (bytesK ((lkOf i).take i)).length = (bytesK (lkOf i)).length := by rw [htk]
      rw [hbe] at hG
      obtain ⟨sa, sc, hsf, hsl, hsne⟩ := hlb.sl
      obtain ⟨hso1, _, hso2⟩ := Value.slice.inj hsf
      subst hso1 hso2
      have hoi : off (lkOf i) i = (bytesK (lkOf i)).length := by unfold off; rw [htk]
      have hnil : lkOf i = [] → la = none ∧ lc = 0 := fun h => by
        have h0 : i = 0 := by rw [← lkOf_length i, h]; rfl
        have := hlz h0
        simp at this
        exact ⟨this.1, this.2.2⟩
      have cl : wr.cell? ⟨N, 0, none⟩ = some (.slice la (bytesK (lkOf i)).length lc) := (cell_of_row wr _ 0 _ _ _ hG.l).trans rfl
      have co1 : wr.cell? ⟨bo, 0, none⟩ = some (.slice (some ⟨go, 0, none⟩) i co) := (cell_of_row wr _ 0 _ _ _ hG.o).trans rfl
      have hnk := fun W' (hg : wr.grownBy W' none) => newKeyList_any W' la lc (lkOf i) (hsl.kept hg (fun R e => by simp at e)) (fun h => hsne (bytesK_ne h)) (fun k hk => by unfold lkOf at hk; simp at hk; obtain ⟨j, hj, rfl⟩ := hk; simp; omega) (by rw [lkOf_length]; omega)
      have HQ : Hid (GrowOk wr N N bo i i i (.slice la (bytesK (lkOf i)).length lc) (.slice (some ⟨go, 0, none⟩) i co) ∧ w.grownBy wr none ∧ off (lkOf i) i = (bytesK (lkOf i)).length ∧ Sl wr la lc (bytesK (lkOf i)) ∧ (bytesK (lkOf i) ≠ [] → ∃ g, la = some ⟨g, 0, none⟩) ∧ (lkOf i = [] → la = none ∧ lc = 0)) := ⟨hG, hgr, hoi, hsl, hsne, hnil⟩
      have HN : Hid (w.heap.size = N) := hNN
      have hbgo : some bo ≠ (Value.slice (some ⟨go, 0, none⟩) i co).ownBlock := fun e => by
        obtain ⟨cur, hc⟩ := own_at hG.ob e.symm
        rw [hG.o] at hc
        simp at hc
      have HNK : Hid (∀ W', wr.grownBy W' none → Calls Ybaf.prog 6 #[.slice la (bytesK (lkOf i)).length lc, .int .i64 ((lkOf i).length : Int)] W' fun e w' => ∃ p rs, e = .returned (.agg #[.pointer p]) ∧ KL w' p (lkOf i) rs ∧ rs = (if (lkOf i).length < 128 then none else some (cutRuns (lkOf i))) ∧ W'.grownBy w' none) := hnk
      clear hG hgr hoi hsl hsne hnil hlb hsf htk hbe hnk hbl9 hlz
      generalize hBL : (bytesK (lkOf i)).length = BL at *
      have HBL : Hid ((bytesK (lkOf i)).length = BL) := hBL
      clear hBL
      have hNr : N ≤ wr.heap.size := by have := HQ.out.2.1.size; have := HN.out; omega
      go_wp2
      unfold wpS
      refine wp_seqS fun Kd hKd => ?_
      go_wp2_with (at_builtin; refine wpList_append_lies _ rfl _ _ _ rfl N 3 i3 (.int .i64 0) 1 8 Ybaf.underlying25 hi hz hs hy rfl (by omega) (.slice (some ⟨go, 0, none⟩) i co) i (offsV i i) rfl (HQ.out.1.ob.alloc _) ⟨wr.heap.size, 0, none⟩ 1 1 [.int .i64 (BL : Int)] rfl rfl (World.news_of_block (heap_alloc_new _ _)) (by simp [Value.oneCell']) (by omega) (by simp [maxLen]; omega) (by omega) (by simp; omega) _ rfl ?_; intro g2 cap2 w2 hown2 hgrow2 hat2 hlt2; have c2 : w2.cell? ⟨bo, 0, none⟩ = some (.slice (some ⟨go, 0, none⟩) i co) := ((hgrow2.cell_far ⟨bo, 0, none⟩ (by have := lt_heap HQ.out.1.o; simp; omega) hbgo).trans (World.cell?_of_block (Below.heap_alloc wr _ bo (lt_heap HQ.out.1.o)))).trans co1; have f2 : w2.frozen? ⟨bo, 0, none⟩ = false := (hgrow2.frozen_far ⟨bo, 0, none⟩ (by have := lt_heap HQ.out.1.o; simp; omega) hbgo).trans ((World.frozen?_of_block (Below.heap_alloc wr _ bo (lt_heap HQ.out.1.o))).trans (frozen_of_row wr bo 0 _ _ HQ.out.1.o)))
      unfold wpS
      have hst := (HQ.out.1.kept (World.grownBy_alloc wr (.cells #[.int .i64 (BL : Int)] 3) none)).off hgrow2 (ov' := .slice (some ⟨g2, 0, none⟩) (i + 1) cap2) (by rw [← offsV_succ, HQ.out.2.2.1]; exact hown2) ⟨_, _, rfl⟩
      have hgr3 := hst.2.2 w (Nat.le_of_eq HN.out) (HQ.out.2.1.trans (World.grownBy_alloc _ _ _))
      have hG3 := hst.1
      clear hst hown2 hgrow2 hat2 hlt2 c2 f2
      generalize w2.setCell ⟨bo, 0, none⟩ (.slice (some ⟨g2, 0, none⟩) (i + 1) cap2) = w3 at *
      have htk3 : (lkOf i).take i = lkOf i := by rw [List.take_of_length_le]; rw [lkOf_length]; exact Nat.le_refl _
      have hlb3 := hG3.lb
      rw [htk3] at hlb3
      obtain ⟨sa, sc, hsf3, hsl3, hsne3⟩ := hlb3.sl
      rw [HBL.out] at hsf3
      obtain ⟨hso1, _, hso2⟩ := Value.slice.inj hsf3
      subst hso1 hso2
      have hnk3 := newKeyList_any w3 la lc (lkOf i) hsl3 (fun h => hsne3 (bytesK_ne h)) (fun k hk => by unfold lkOf at hk; simp at hk; obtain ⟨j, hj, rfl⟩ := hk; simp; omega) (by rw [lkOf_length]; omega)
      rw [HBL.out, lkOf_length] at hnk3
      have cl3 : w3.cell? ⟨N, 0, none⟩ = some (.slice la BL lc) := (cell_of_row w3 _ 0 _ _ _ hG3.l).trans rfl
      have d73 : w3.cell? ⟨bn, 0, none⟩ = some (.int .i64 (i : Int)) := (hgr3.cell_far ⟨bn, 0, none⟩ (World.block_lt_of_cell? _ _ d7) (by simp)).trans d7
      have HG3 : Hid (GrowOk w3 N N bo i i (i + 1) (.slice la BL lc) (.slice (some ⟨g2, 0, none⟩) (i + 1) cap2) ∧ w.grownBy w3 none ∧ Sl w3 la lc (bytesK (lkOf i)) ∧ (bytesK (lkOf i) ≠ [] → ∃ g, la = some ⟨g, 0, none⟩)) := ⟨hG3, hgr3, hsl3, hsne3⟩
      clear hG3 hgr3 hsl3 hsne3 hlb3 hsf3 htk3 cl co1
      refine wp_seqS fun Ke hKe => ?_
      go_wp2_with (go_at_call 6; refine hnk3.mono ?_; rintro e w4 ⟨p, rs, rfl, hkl, hrs, hg4⟩)
      unfold wpS
      have hg5 := hg4.trans (World.grownBy_alloc w4 (.cells #[.pointer p] 33) none)
      have hG5 := HG3.out.1.kept hg5
      refine HK.out _ p rs N bo w4.heap.size _ _ _ _ _ _ _ _ _ _ _ _ _ _ _ _ _ _ _ _ _ _ _ _ _ _ _ _ _ _ _ _ _ _ _ _ _ _ _ _ _ _ _ _ _ _ _ _ _ _ _ _ _ _ _ _ _ _ _ _ _ _ _ _ _ _ _ _ _ _ _ _ _ _ _ _ _ _ _ _ _ _ _ _ _ _ _ _ _ _ _ _ _ _ _ _ _ _ _ _ _ _ _ _ _ _ _ _ _ _ _ _ _ _ _ _ _ _ _ _ _ _ _ _ _ _ _ _ _ _ _ _ _ _ _ _ _ _ _ _ _ _ _ _ _ _ _ _ _ _ _ _ (HG3.out.2.1.trans hg5) (hkl.kept (World.grownBy_alloc _ _ _) (safe_none _)) hrs (heap_alloc_new w4 _) ?_ ?_
      · obtain ⟨cur, hcur⟩ := own_at hG5.ob (g := g2) rfl
        refine ⟨g2, cap2, hG5.o, cur, (0, 0), hcur, fun j hj => ?_⟩
        have := own_cell hG5.ob j (.int .i64 (off (lkOf i) j : Int)) (by unfold offsV; rw [List.getElem?_map, List.getElem?_range (by omega)]; rfl)
        rw [cell_of_row _ _ j _ _ _ hcur] at this
        exact this
      · refine ⟨la, lc, hG5.l, HG3.out.2.2.1.kept hg5 (fun R e => by simp at e), fun h => HG3.out.2.2.2 (bytesK_ne h), HQ.out.2.2.2.2.2⟩
end Go.Proofs.YbulkbasiFmt
