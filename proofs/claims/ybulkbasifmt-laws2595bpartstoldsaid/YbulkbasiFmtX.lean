import Derived.Test.YbulkbasiFmtT
namespace Go.Proofs.YbulkbasiFmt
open Go.RowKit
set_option maxRecDepth 100000

theorem newKeyList_any (w : World) (a : Option Addr) (c : Nat) (ks : List (Nat × Nat)) (hs : Sl w a c (bytesK ks)) (ha : ks ≠ [] → ∃ g, a = some ⟨g, 0, none⟩) (hv : ∀ k ∈ ks, k.2 < 16384) (hl : ks.length ≤ 1000) :
    Calls Ybaf.prog 6 #[.slice a (bytesK ks).length c, .int .i64 (ks.length : Int)] w fun e w' => ∃ p rs, e = .returned (.agg #[.pointer p]) ∧ KL w' p ks rs ∧ rs = (if ks.length < 128 then none else some (cutRuns ks)) ∧ w.grownBy w' none := by
  by_cases h : ks.length < 128
  · refine (newKeyList_small w a c ks hs ha h).mono ?_
    rintro e w' ⟨p, h1, h2, h3⟩
    exact ⟨p, none, h1, h2, by rw [if_pos h], h3⟩
  · obtain ⟨g, rfl⟩ := ha (by intro e; rw [e] at h; simp at h)
    refine (newKeyList_big w g c ks hs hv (by omega) hl).mono ?_
    rintro e w' ⟨p, h1, h2, h3⟩
    exact ⟨p, _, h1, h2, by rw [if_neg h], h3⟩
theorem bytesK_ne {ks : List (Nat × Nat)} (h : ks ≠ []) : bytesK ks ≠ [] := by
  cases ks with
  | nil => exact absurd rfl h
  | cons k t =>
    intro e
    have := congrArg List.length e
    rw [bytesK_cons, List.length_append] at this
    have := encK_length k.1 k.2
    simp only [List.length_nil] at *
    omega

set_option maxHeartbeats 4000000 in
/-- From the names on: the second list. -/
theorem main_c (w : World) (vs : List Nat) (bn bl bo b11 gN cN : Nat) (hvs : ∀ i (h : i < vs.length), w.cell? ⟨gN, i, none⟩ = some (.int .i64 (vs[i] : Int))) (hv1 : ∀ v ∈ vs, v < 1000) (hvl : vs.length ≤ 1000) (R : Ending → World → Prop)
    (hK : ∀ (w' : World) (pi : Option Addr) (irs : Option (List Run)) (b18 : Nat) (u0 u1 u2 u3 u4 u5 u10 u13 u14 u15 u16 u17 u19 u20 u21 u22 u23 u24 u25 u26 u27 u28 u29 u30 u31 u32 u33 u34 u35 u36 u37 u38 u39 u40 u41 u42 u43 u44 u45 u46 u47 u48 u49 u50 u51 u52 u53 u54 u55 u56 u57 u58 u59 u60 u61 u62 u63 u64 u65 u66 u67 u68 u69 u70 u71 u72 u73 u74 u75 u76 u77 u78 u79 u80 u81 u82 u83 u84 u85 u86 u87 u88 u89 u90 u91 u92 u93 u94 u95 u96 u97 u98 u99 u100 u101 u102 u103 u104 u105 u106 u107 u108 u109 u110 u111 u112 u113 u114 u115 u116 u117 u118 u119 u120 u121 u122 u123 u124 u125 u126 u127 u128 u129 u130 u131 u132 u133 u134 u135 u136 u137 u138 u139 u140 u141 u142 u143 u144 u145 u146 u147 u148 u149 u150 u151 u152 u153 u154 u155 u156 u157 : Value), w.grownBy w' none → KL w' pi (vs.map keyOf) irs → w'.heap[b18]? = some (.cells #[.pointer pi] 33 (0, 0)) → Code.wp Ybaf.prog (sndS (sndS (sndS (sndS (sndS (sndS (sndS (sndS (sndS (sndS (sndS (sndS (sndS (sndS (sndS (sndS (Ybaf.f3.body.getD .skip))))))))))))))))) (bodyPost Ybaf.prog Ybaf.f3 R) ⟨#[u0, u1, u2, u3, u4, u5, .bool false, .pointer (some ⟨bn, 0, none⟩), .pointer (some ⟨bl, 0, none⟩), .pointer (some ⟨bo, 0, none⟩), u10, .pointer (some ⟨b11, 0, none⟩), .slice (some ⟨gN, 0, none⟩) vs.length cN, u13, u14, u15, u16, u17, .pointer (some ⟨b18, 0, none⟩), u19, u20, u21, u22, u23, u24, u25, u26, u27, u28, u29, u30, u31, u32, u33, u34, u35, u36, u37, u38, u39, u40, u41, u42, u43, u44, u45, u46, u47, u48, u49, u50, u51, u52, u53, u54, u55, u56, u57, u58, u59, u60, u61, u62, u63, u64, u65, u66, u67, u68, u69, u70, u71, u72, u73, u74, u75, u76, u77, u78, u79, u80, u81, u82, u83, u84, u85, u86, u87, u88, u89, u90, u91, u92, u93, u94, u95, u96, u97, u98, u99, u100, u101, u102, u103, u104, u105, u106, u107, u108, u109, u110, u111, u112, u113, u114, u115, u116, u117, u118, u119, u120, u121, u122, u123, u124, u125, u126, u127, u128, u129, u130, u131, u132, u133, u134, u135, u136, u137, u138, u139, u140, u141, u142, u143, u144, u145, u146, u147, u148, u149, u150, u151, u152, u153, u154, u155, u156, u157], []⟩ w')
    (u0 u1 u2 u3 u4 u5 u10 u13 u14 u15 u16 u17 u18 u19 u20 u21 u22 u23 u24 u25 u26 u27 u28 u29 u30 u31 u32 u33 u34 u35 u36 u37 u38 u39 u40 u41 u42 u43 u44 u45 u46 u47 u48 u49 u50 u51 u52 u53 u54 u55 u56 u57 u58 u59 u60 u61 u62 u63 u64 u65 u66 u67 u68 u69 u70 u71 u72 u73 u74 u75 u76 u77 u78 u79 u80 u81 u82 u83 u84 u85 u86 u87 u88 u89 u90 u91 u92 u93 u94 u95 u96 u97 u98 u99 u100 u101 u102 u103 u104 u105 u106 u107 u108 u109 u110 u111 u112 u113 u114 u115 u116 u117 u118 u119 u120 u121 u122 u123 u124 u125 u126 u127 u128 u129 u130 u131 u132 u133 u134 u135 u136 u137 u138 u139 u140 u141 u142 u143 u144 u145 u146 u147 u148 u149 u150 u151 u152 u153 u154 u155 u156 u157 : Value) :
    Code.wp Ybaf.prog (sndS (sndS (sndS (sndS (sndS (sndS (sndS (sndS (sndS (sndS (sndS (sndS (sndS (Ybaf.f3.body.getD .skip)))))))))))))) (bodyPost Ybaf.prog Ybaf.f3 R) ⟨#[u0, u1, u2, u3, u4, u5, .bool false, .pointer (some ⟨bn, 0, none⟩), .pointer (some ⟨bl, 0, none⟩), .pointer (some ⟨bo, 0, none⟩), u10, .pointer (some ⟨b11, 0, none⟩), .slice (some ⟨gN, 0, none⟩) vs.length cN, u13, u14, u15, u16, u17, u18, u19, u20, u21, u22, u23, u24, u25, u26, u27, u28, u29, u30, u31, u32, u33, u34, u35, u36, u37, u38, u39, u40, u41, u42, u43, u44, u45, u46, u47, u48, u49, u50, u51, u52, u53, u54, u55, u56, u57, u58, u59, u60, u61, u62, u63, u64, u65, u66, u67, u68, u69, u70, u71, u72, u73, u74, u75, u76, u77, u78, u79, u80, u81, u82, u83, u84, u85, u86, u87, u88, u89, u90, u91, u92, u93, u94, u95, u96, u97, u98, u99, u100, u101, u102, u103, u104, u105, u106, u107, u108, u109, u110, u111, u112, u113, u114, u115, u116, u117, u118, u119, u120, u121, u122, u123, u124, u125, u126, u127, u128, u129, u130, u131, u132, u133, u134, u135, u136, u137, u138, u139, u140, u141, u142, u143, u144, u145, u146, u147, u148, u149, u150, u151, u152, u153, u154, u155, u156, u157], []⟩ w := by
  have HK : Hid _ := hK
  have HV : Hid (∀ i (h : i < vs.length), w.cell? ⟨gN, i, none⟩ = some (.int .i64 (vs[i] : Int))) := hvs
  clear hK hvs
  conv => arg 2; simp only [Ybaf.f3, Option.getD_some, sndS]
  refine wp_seqS fun Ka hKa => ?_
  go_wp2
  unfold wpS
  refine wp_seqS fun Kb hKb => ?_
  go_wp2
  go_loopw [15, 92] (fun ib v wr => ∃ i : Nat, i ≤ vs.length ∧ v = .int .i64 (i : Int) ∧ Buf wr w.heap.size ib (bytesK ((vs.take i).map keyOf)) ∧ w.grownBy wr none) (fun _ v _ => vs.length - (intOf v).toNat)
  case atStart => exact ⟨0, Nat.zero_le _, rfl, World.ownsRow_nil _ _ _ _, grown_refl _ _⟩
  case round =>
    obtain ⟨i, hil, rfl, hbuf, hgr⟩ := hrel
    by_cases hlt : i < vs.length
    · obtain ⟨v, hvv⟩ : ∃ v, v = vs[i] := ⟨_, rfl⟩
      have hv1k := hv1 vs[i] (List.getElem_mem hlt)
      rw [← hvv] at hv1k
      have hltI : (i : Int) < (vs.length : Int) := by omega
      have hi0 : (0 : Int) ≤ (i : Int) := by omega
      have c36 : wr.cell? ⟨gN, i, none⟩ = some (.int .i64 (v : Int)) := by rw [hvv]; exact (hgr.cell_far ⟨gN, i, none⟩ (World.block_lt_of_cell? _ _ (HV.out i hlt)) (by simp)).trans (HV.out i hlt)
      have hbl2 := bytesK_le ((vs.take i).map keyOf)
      rw [List.length_map, List.length_take] at hbl2
      have hnm := name_any v (by omega) wr
      have HQ : Hid (Buf wr w.heap.size u15 (bytesK ((vs.take i).map keyOf)) ∧ w.grownBy wr none ∧ v = vs[i]) := ⟨hbuf, hgr, hvv⟩
      obtain ⟨ba, bc, hbf⟩ := hbuf.form
      subst hbf
      clear hbuf hgr hvv
      generalize hBL : (bytesK ((vs.take i).map keyOf)).length = BL at *
      have HBL : Hid ((bytesK ((vs.take i).map keyOf)).length = BL) := hBL
      clear hBL
      have hBL9 : BL ≤ 9000 := by omega
      go_wp2_with (first
        | (go_at_call 5; refine hnm.mono ?_; rintro e w2 ⟨rfl, hg2⟩; have had := appendKey_any w.heap.size v v _ _ w2 (HQ.out.1.kept0 hg2) (by omega) (by omega) (by rw [HBL.out]; exact hBL9) (Nat.le_trans HQ.out.2.1.size hg2.size))
        | (go_at_call 4; refine had.mono ?_; rintro e w3 ⟨v3, rfl, ha3⟩; obtain ⟨gq, cq, hv3, _⟩ := ha3.pl; subst hv3))
      have happ : bytesK ((vs.take i).map keyOf) ++ encK v v = bytesK ((vs.take (i + 1)).map keyOf) := by
        rw [List.take_add_one, List.getElem?_eq_getElem hlt, Option.toList_some, List.map_append, bytesK_append, ← HQ.out.2.2]
        simp [bytesK, keyOf]
      have hown := ha3.own
      have hgr3 : w.grownBy w3 none := (HQ.out.2.1.trans hg2).andThen ha3.gr (fun j hj => .inl ((HQ.out.1.kept0 hg2).lt j hj).1)
      rw [happ] at hown
      have hlen : (bytesK ((vs.map keyOf).take i)).length + (encK v v).length = (bytesK ((vs.take (i + 1)).map keyOf)).length := by rw [← happ, List.length_append, List.map_take]
      exact ⟨⟨i + 1, by omega, by simp, by rw [hlen]; exact hown, hgr3⟩, by simp [intOf]; omega⟩
    · have hie : i = vs.length := by omega
      subst hie
      rw [List.take_length] at hbuf
      have hltI : ¬ ((vs.length : Int) < (vs.length : Int)) := by omega
      obtain ⟨ba, bc, hbf, hsl, hne⟩ := hbuf.sl
      subst hbf
      have hnk := newKeyList_any wr ba bc (vs.map keyOf) hsl (fun h => hne (bytesK_ne h)) (fun k hk => by simp at hk; obtain ⟨v, hv, rfl⟩ := hk; have := hv1 v hv; simp [keyOf]; omega) (by rw [List.length_map]; exact hvl)
      rw [List.length_map] at hnk
      have HG : Hid (w.grownBy wr none) := hgr
      clear hbuf hsl hne hgr
      go_wp2
      unfold wpS
      refine wp_seqS fun Kc hKc => ?_
      go_wp2_with (go_at_call 6; refine hnk.mono ?_; rintro e w2 ⟨p, rs, rfl, hkl, _, hg2⟩)
      unfold wpS
      refine HK.out _ p rs w2.heap.size _ _ _ _ _ _ _ _ _ _ _ _ _ _ _ _ _ _ _ _ _ _ _ _ _ _ _ _ _ _ _ _ _ _ _ _ _ _ _ _ _ _ _ _ _ _ _ _ _ _ _ _ _ _ _ _ _ _ _ _ _ _ _ _ _ _ _ _ _ _ _ _ _ _ _ _ _ _ _ _ _ _ _ _ _ _ _ _ _ _ _ _ _ _ _ _ _ _ _ _ _ _ _ _ _ _ _ _ _ _ _ _ _ _ _ _ _ _ _ _ _ _ _ _ _ _ _ _ _ _ _ _ _ _ _ _ _ _ _ _ _ _ _ _ _ _ _ _ _ _ _ ((HG.out.trans hg2).trans (World.grownBy_alloc _ _ _)) (hkl.kept (World.grownBy_alloc _ _ _) (safe_none _)) (heap_alloc_new w2 _)
end Go.Proofs.YbulkbasiFmt
