import Derived.Test.YbulkbasiFmtT
import Derived.Deep.RegionHeld3
namespace Go.Proofs.YbulkbasiFmt
open Go.RowKit
set_option maxRecDepth 100000
set_option linter.unusedSimpArgs false

set_option maxHeartbeats 4000000 in
theorem main_d33 (w : World) (lk : List (Nat × Nat)) (vs : List Nat) (l : List Run) (nR : Nat) (T f : Nat → Nat) (part : Nat → List (Nat × Nat)) (rs irs : Option (List Run)) (pl pi : Option Addr) (bn bl bo b11 b18 gN cN bnr : Nat) (hP : PC lk (vs.map keyOf) l nR T (slotF nR) f part) (hl : KL w pl lk rs) (hi : KL w pi (vs.map keyOf) irs) (hsp : spansOf lk rs = l) (hpart : ∀ s, s < nR → part s = (vs.filter fun v => slotF nR v == s).map keyOf)
    (hbn : w.heap[bn]? = some (.cells #[.int .i64 (lk.length : Int)] 3 (0, 0)))
    (hbr : w.heap[bnr]? = some (.cells #[.int .i64 (nR : Int)] 3 (0, 0)))
    (hbo : ∃ g c, w.heap[bo]? = some (.cells #[.slice (some ⟨g, 0, none⟩) (lk.length + 1) c] 25 (0, 0)) ∧ ∃ arr fr, w.heap[g]? = some (.cells arr 3 fr) ∧ ∀ i, i ≤ lk.length → arr[i]? = some (.int .i64 (off lk i : Int)))
    (hbl : ∃ a c, w.heap[bl]? = some (.cells #[.slice a (bytesK lk).length c] 24 (0, 0)) ∧ Sl w a c (bytesK lk) ∧ (lk ≠ [] → ∃ g, a = some ⟨g, 0, none⟩) ∧ (lk = [] → a = none ∧ c = 0))
    (h11 : w.heap[b11]? = some (.cells #[.pointer pl] 33 (0, 0))) (h18 : w.heap[b18]? = some (.cells #[.pointer pi] 33 (0, 0))) (hvs : ∀ i (h : i < vs.length), w.cell? ⟨gN, i, none⟩ = some (.int .i64 (vs[i] : Int))) (hv1 : ∀ v ∈ vs, v < 1000) (hvl : vs.length ≤ 1024)
    (R : Ending → World → Prop) (hR : ∀ w', w.grownBy w' none → R (.returned (.bool true)) w')
    (u0 u1 u2 u3 u4 u5 u10 u13 u14 u15 u16 u17 u20 u21 u22 u23 u24 u25 u26 u27 u28 u29 u30 u31 u32 u33 u34 u35 u36 u37 u38 u39 u40 u41 u42 u43 u44 u45 u46 u47 u48 u49 u50 u51 u52 u53 u54 u55 u56 u57 u58 u59 u60 u61 u62 u63 u64 u65 u66 u67 u68 u69 u70 u71 u72 u73 u74 u75 u76 u77 u78 u79 u80 u81 u82 u83 u84 u85 u86 u87 u88 u89 u90 u91 u92 u93 u94 u95 u96 u97 u98 u99 u100 u101 u102 u103 u104 u105 u106 u107 u108 u109 u110 u111 u112 u113 u114 u115 u116 u117 u118 u119 u120 u121 u122 u123 u124 u125 u126 u127 u128 u129 u130 u131 u132 u133 u134 u135 u136 u137 u138 u139 u140 u141 u142 u143 u144 u145 u146 u147 u148 u149 u150 u151 u152 u153 u154 u155 u156 u157 : Value) :
    Code.wp Ybaf.prog (sndS (sndS (sndS (sndS (sndS (sndS (sndS (sndS (sndS (sndS (sndS (sndS (sndS (sndS (sndS (sndS (sndS (sndS (Ybaf.f3.body.getD .skip))))))))))))))))))) (bodyPost Ybaf.prog Ybaf.f3 R) ⟨#[u0, u1, u2, u3, u4, u5, .bool false, .pointer (some ⟨bn, 0, none⟩), .pointer (some ⟨bl, 0, none⟩), .pointer (some ⟨bo, 0, none⟩), u10, .pointer (some ⟨b11, 0, none⟩), .slice (some ⟨gN, 0, none⟩) vs.length cN, u13, u14, u15, u16, u17, .pointer (some ⟨b18, 0, none⟩), .pointer (some ⟨bnr, 0, none⟩), u20, u21, u22, u23, u24, u25, u26, u27, u28, u29, u30, u31, u32, u33, u34, u35, u36, u37, u38, u39, u40, u41, u42, u43, u44, u45, u46, u47, u48, u49, u50, u51, u52, u53, u54, u55, u56, u57, u58, u59, u60, u61, u62, u63, u64, u65, u66, u67, u68, u69, u70, u71, u72, u73, u74, u75, u76, u77, u78, u79, u80, u81, u82, u83, u84, u85, u86, u87, u88, u89, u90, u91, u92, u93, u94, u95, u96, u97, u98, u99, u100, u101, u102, u103, u104, u105, u106, u107, u108, u109, u110, u111, u112, u113, u114, u115, u116, u117, u118, u119, u120, u121, u122, u123, u124, u125, u126, u127, u128, u129, u130, u131, u132, u133, u134, u135, u136, u137, u138, u139, u140, u141, u142, u143, u144, u145, u146, u147, u148, u149, u150, u151, u152, u153, u154, u155, u156, u157], []⟩ w := by
  conv => arg 2; simp only [Ybaf.f3, Option.getD_some, sndS]
  obtain ⟨i24, hi24, hz, hs, hy⟩ := info24
  have hnR1 := hP.nR1
  have hnR2 := hP.nR2
  have d19 : w.cell? ⟨bnr, 0, none⟩ = some (.int .i64 (nR : Int)) := (cell_of_row _ _ 0 _ _ _ hbr).trans rfl
  have HA : Hid (KL w pl lk rs ∧ KL w pi (vs.map keyOf) irs ∧ spansOf lk rs = l ∧ PC lk (vs.map keyOf) l nR T (slotF nR) f part ∧ w.heap[bnr]? = some (.cells #[.int .i64 (nR : Int)] 3 (0, 0))) := ⟨hl, hi, hsp, hP, hbr⟩
  have HR : Hid (∀ w', w.grownBy w' none → R (.returned (.bool true)) w') := hR
  have HV : Hid (∀ i (h : i < vs.length), w.cell? ⟨gN, i, none⟩ = some (.int .i64 (vs[i] : Int))) := hvs
  clear hl hi hsp hP hR hbr hvs
  refine wp_seqS fun Ka hKa => ?_
  go_wp2_with (at_make; refine wpList_make_full _ rfl _ _ 38 rfl w.heap.size 24 i24 (.slice none 0 0) 1 Ybaf.underlying38 hi24 hz hs .i64 .i64 _ _ nR rfl rfl rfl rfl (by rw [hy]; omega) (by simp [maxLen]; omega) (Nat.le_refl _) ?_; intro w1 hown1 hgrow1)
  unfold wpS
  have hW0 : WantOk (w1.alloc (.cells #[.slice (some ⟨w.heap.size, 0, none⟩) nR nR] 38)) (w1.heap.size + 1) w1.heap.size w.heap.size nR (fun _ => []) := by
    refine ⟨⟨nR, heap_alloc_new w1 _⟩, ?_⟩
    have ho := hown1.alloc (.cells #[.slice (some ⟨w.heap.size, 0, none⟩) nR nR] 38)
    rw [show (Value.slice none 0 0).cells = #[.slice none 0 0] from rfl, toList_madeCells_one, Nat.mul_one] at ho
    obtain ⟨cur, hcur⟩ := own_at ho (g := w.heap.size) rfl
    refine ⟨cur, fun _ => .slice none 0 0, hcur, fun s hs => ⟨?_, World.ownsRow_nil _ _ _ _⟩, fun s s' _ _ _ g hg => by simp [Value.ownBlock] at hg⟩
    have := own_cell ho s (.slice none 0 0) (by simp [hs])
    rw [cell_of_row _ _ s _ _ _ hcur] at this
    exact this
  have hg2 : w.grownBy (w1.alloc (.cells #[.slice (some ⟨w.heap.size, 0, none⟩) nR nR] 38)) none := hgrow1.trans (World.grownBy_alloc _ _ _)
  have hbwN : w.heap.size ≤ w1.heap.size := hgrow1.size
  have hNw2 : w1.heap.size + 1 ≤ (w1.alloc (.cells #[.slice (some ⟨w.heap.size, 0, none⟩) nR nR] 38)).heap.size := by simp
  generalize w1.alloc (.cells #[.slice (some ⟨w.heap.size, 0, none⟩) nR nR] 38) = W2 at hW0 hg2 hNw2 ⊢
  generalize hbw : w1.heap.size = bw at *
  generalize hgw : w.heap.size = gw at *
  clear hown1 hgrow1
  refine wp_seqS fun Kb hKb => ?_
  go_wp2
  go_loopw [116] (fun v wr => ∃ i : Nat, i ≤ vs.length ∧ v = .int .i64 (i : Int) ∧ WantOk wr (bw + 1) bw gw nR (partW nR vs i) ∧ w.grownBy wr none ∧ bw + 1 ≤ wr.heap.size) (fun v _ => vs.length - (intOf v).toNat)
  case atStart => exact ⟨0, Nat.zero_le _, rfl, hW0, hg2, hNw2⟩
  case round =>
    clear hW0 hg2 hNw2
    obtain ⟨i, hil, rfl, hwt, hgr, hNr⟩ := hrel
    by_cases hlt : i < vs.length
    · obtain ⟨v, hvv⟩ : ∃ v, v = vs[i] := ⟨_, rfl⟩
      have hv1k := hv1 vs[i] (List.getElem_mem hlt)
      rw [← hvv] at hv1k
      have hltI : (i : Int) < (vs.length : Int) := by omega
      have hi0 : (0 : Int) ≤ (i : Int) := by omega
      have c36 : wr.cell? ⟨gN, i, none⟩ = some (.int .i64 (v : Int)) := by rw [hvv]; exact (hgr.cell_far ⟨gN, i, none⟩ (World.block_lt_of_cell? _ _ (HV.out i hlt)) (by simp)).trans (HV.out i hlt)
      have d19' : wr.cell? ⟨bnr, 0, none⟩ = some (.int .i64 (nR : Int)) := (hgr.cell_far ⟨bnr, 0, none⟩ (World.block_lt_of_cell? _ _ d19) (by simp)).trans d19
      have HQ : Hid (WantOk wr (bw + 1) bw gw nR (partW nR vs i) ∧ w.grownBy wr none ∧ v = vs[i]) := ⟨hwt, hgr, hvv⟩
      clear hwt hgr hvv
      refine wp_seqS fun K1 hK1 => ?_
      go_wp2
      unfold wpS
      refine wp_seqS fun K2 hK2 => ?_
      go_wp2
      unfold wpS
      refine wp_seqS fun K3 hK3 => ?_
      refine wp_block ?_
      refine wp_seqS fun K4 hK4 => ?_
      go_wp2
      unfold wpS
      refine wp_seqS fun K5 hK5 => ?_
      go_wp2
      unfold wpS
      refine wp_seqS fun K6 hK6 => ?_
      have hsl : slotF nR v < nR := by unfold slotF; omega
      go_cut [23] from 117 to 147 (fun x wx => x = .int .i64 (slotF nR v : Int) ∧ wx = wr)
      case first =>
        refine wp_block ?_
        go_loopw [23] (fun x wq => ∃ j : Nat, j ≤ slotF nR v ∧ x = .int .i64 (j : Int) ∧ wq = wr) (fun x _ => nR - (intOf x).toNat)
        case atStart => exact ⟨0, Nat.zero_le _, rfl, rfl⟩
        case round =>
          obtain ⟨j, hjs, rfl, rfl⟩ := hrel
          have hjb : (j : Int) ≤ 100 := by omega
          have hsj : slotF nR v = min (nR - 1) ((v - 2) / 128) := rfl
          by_cases hc1 : (j : Int) + 1 < (nR : Int)
          · by_cases hc2 : 128 * ((j : Int) + 1) + 2 ≤ (v : Int)
            · have hj1 : j + 1 ≤ slotF nR v := by rw [hsj]; omega
              clear hsj
              go_wp2
              exact ⟨⟨j + 1, hj1, by simp, by trivial⟩, by simp [intOf]; omega⟩
            · have hj1 : j = slotF nR v := by rw [hsj] at hjs ⊢; omega
              have HJ : Hid (j = slotF nR v) := hj1
              clear hsj hj1 hjs
              go_wp2
              go_meet
              exact ⟨by rw [HJ.out], by trivial⟩
          · have hj1 : j = slotF nR v := by rw [hsj] at hjs ⊢; omega
            have HJ : Hid (j = slotF nR v) := hj1
            clear hsj hj1 hjs
            go_wp2
            go_meet
            exact ⟨by rw [HJ.out], by trivial⟩
      case rest =>
        obtain ⟨rfl, rfl⟩ := hcut
        apply hK6
        unfold wpS
        have hvv := HQ.out.2.2
        obtain ⟨cw, hbwc⟩ := HQ.out.1.b
        have cb : wc.cell? ⟨bw, 0, none⟩ = some (.slice (some ⟨gw, 0, none⟩) nR cw) := (cell_of_row wc _ 0 _ _ _ hbwc).trans rfl
        obtain ⟨vv, cv, fv, hbuf⟩ := HQ.out.1.at hsl
        obtain ⟨va, vc, hvf⟩ := hbuf.form
        subst hvf
        have hpl := partW_len nR vs i (slotF nR v)
        have hnm := name_any v (by omega) wc.drew
        have hsI : (slotF nR v : Int) < (nR : Int) := by omega
        have hs0 : (0 : Int) ≤ (slotF nR v : Int) := by omega
        have hadd : ∀ w2, wc.grownBy w2 none → Calls Ybaf.prog 4 #[(.slice va (bytesK (partW nR vs i (slotF nR v))).length vc), .string (nameS v), .agg #[.string ⟨#[]⟩, .int .u64 (v : Int)]] w2 fun e w' => ∃ v', e = .returned v' ∧ App w2 (bw + 1) (.slice va (bytesK (partW nR vs i (slotF nR v))).length vc) (bytesK (partW nR vs i (slotF nR v)) ++ encK v v) v' w' := fun w2 h2 => appendKey_any (bw + 1) v v (.slice va (bytesK (partW nR vs i (slotF nR v))).length vc) _ w2 (hbuf.kept0 h2) (by omega) (by omega) (by omega) (Nat.le_trans hNr h2.size)
        have hfin : ∀ w2 v' w3, wc.grownBy w2 none → App w2 (bw + 1) (.slice va (bytesK (partW nR vs i (slotF nR v))).length vc) (bytesK (partW nR vs i (slotF nR v)) ++ encK v v) v' w3 → WantOk (w3.setCell ⟨gw, slotF nR v, none⟩ v') (bw + 1) bw gw nR (partW nR vs (i + 1)) ∧ w.grownBy (w3.setCell ⟨gw, slotF nR v, none⟩ v') none ∧ bw + 1 ≤ (w3.setCell ⟨gw, slotF nR v, none⟩ v').heap.size ∧ w3.cell? ⟨gw, slotF nR v, none⟩ = some (.slice va (bytesK (partW nR vs i (slotF nR v))).length vc) ∧ w3.frozen? ⟨gw, slotF nR v, none⟩ = false ∧ w3.cell? ⟨bw, 0, none⟩ = some (.slice (some ⟨gw, 0, none⟩) nR cw) := by
          intro w2 v' w3 h2 ha
          exact want_step hlt hvv hsl HQ.out.1 HQ.out.2.1 (Nat.le_of_eq hgw) (by omega) hNr h2 cv fv cb hbuf ha
        generalize slotF nR v = s0 at *
        generalize bytesK (partW nR vs i s0) = BS at *
        generalize BS.length = BL at *
        have HF : Hid (∀ w2 v' w3, wc.grownBy w2 none → App w2 (bw + 1) (.slice va BL vc) (BS ++ encK v v) v' w3 → _) := hfin
        have HAD : Hid (∀ w2, wc.grownBy w2 none → Calls Ybaf.prog 4 #[(.slice va BL vc), .string (nameS v), .agg #[.string ⟨#[]⟩, .int .u64 (v : Int)]] w2 fun e w' => ∃ v', e = .returned v' ∧ App w2 (bw + 1) (.slice va BL vc) (BS ++ encK v v) v' w') := hadd
        have hnbg : gw ≠ bw := by
          rintro rfl
          obtain ⟨c, h1⟩ := HQ.out.1.b
          obtain ⟨arr, V, h2, _⟩ := HQ.out.1.v
          rw [h1] at h2
          simp at h2
        have hwv : IntKind.u64.wrap (v : Int) = (v : Int) := by rw [IntKind.wrap_u64]; omega
        have HVV : Hid (∀ v ∈ vs, v < 1000) := hv1
        clear hfin hvv hadd hbuf hbwc hv1 hpl c36 d19' hpart hbo hbl
        have HK3 : Hid (∀ a w, _ → K3 a w) := hK3
        clear hK3 hK6 hKb
        refine wp_region_held_drew (S := fun w' => w'.cell? ⟨bw, 0, none⟩ = some (.slice (some ⟨gw, 0, none⟩) nR cw)) (by kernel_rfl) cb (fun hHeld => ?_)
        refine wpAnyH_take (i := 0) (v := ?_) rfl (by kernel_rfl) (by kernel_rfl) (by kernel_rfl) (fun _ _ _ h => h) (Or.inl ⟨by rfl, ?_⟩) hHeld ?_
        rotate_left
        · (intro w hSw; (try dsimp only at hSw); go_simp; with_reducible rfl)
        simp only [Act.put, List.setIfInBounds_toArray, List.set_cons_zero, List.set_cons_succ]
        refine wpAnyH_take (i := 1) (v := ?_) rfl (by kernel_rfl) (by kernel_rfl) (by kernel_rfl) (fun _ _ _ h => h) (Or.inl ⟨by rfl, ?_⟩) hHeld ?_
        rotate_left
        · (intro w hSw; (try dsimp only at hSw); go_simp; with_reducible rfl)
        simp only [Act.put, List.setIfInBounds_toArray, List.set_cons_zero, List.set_cons_succ]
        refine wpAnyH_take (i := 2) (v := ?_) rfl (by kernel_rfl) (by kernel_rfl) (by kernel_rfl) (fun _ _ _ h => h) (Or.inl ⟨by rfl, ?_⟩) hHeld ?_
        rotate_left
        · (intro w hSw; (try dsimp only at hSw); go_simp; with_reducible rfl)
        simp only [Act.put, List.setIfInBounds_toArray, List.set_cons_zero, List.set_cons_succ]
        refine wpAnyH_take (i := 3) (v := ?_) rfl (by kernel_rfl) (by kernel_rfl) (by kernel_rfl) (fun _ _ _ h => h) (Or.inl ⟨by rfl, ?_⟩) hHeld ?_
        rotate_left
        · (intro w hSw; (try dsimp only at hSw); go_simp; with_reducible rfl)
        simp only [Act.put, List.setIfInBounds_toArray, List.set_cons_zero, List.set_cons_succ]
        refine wpAnyH_take (i := 4) (v := ?_) rfl (by kernel_rfl) (by kernel_rfl) (by kernel_rfl) (fun _ _ _ h => h) (Or.inl ⟨by rfl, ?_⟩) hHeld ?_
        rotate_left
        · (intro w hSw; (try dsimp only at hSw); go_simp; with_reducible rfl)
        simp only [Act.put, List.setIfInBounds_toArray, List.set_cons_zero, List.set_cons_succ]
        refine wpAnyH_take (i := 6) (v := ?_) rfl (by kernel_rfl) (by kernel_rfl) (by kernel_rfl) (fun _ _ _ h => h) (Or.inl ⟨by rfl, ?_⟩) hHeld ?_
        rotate_left
        · (intro w hSw; (try dsimp only at hSw); go_simp; with_reducible rfl)
        simp only [Act.put, List.setIfInBounds_toArray, List.set_cons_zero, List.set_cons_succ]
        refine wpAnyH_take (i := 8) (v := ?_) rfl (by kernel_rfl) (by kernel_rfl) (by kernel_rfl) (fun _ _ _ h => h) (Or.inl ⟨by rfl, ?_⟩) hHeld ?_
        rotate_left
        · (intro w hSw; (try dsimp only at hSw); go_simp; with_reducible rfl)
        simp only [Act.put, List.setIfInBounds_toArray, List.set_cons_zero, List.set_cons_succ]
        refine wpAnyH_take (i := 9) (v := ?_) rfl (by kernel_rfl) (by kernel_rfl) (by kernel_rfl) (fun _ _ _ h => h) (Or.inl ⟨by rfl, ?_⟩) hHeld ?_
        rotate_left
        · (intro w hSw; (try dsimp only at hSw); go_simp; with_reducible rfl)
        simp only [Act.put, List.setIfInBounds_toArray, List.set_cons_zero, List.set_cons_succ]
        refine wpAnyH_take (i := 10) (v := ?_) rfl (by kernel_rfl) (by kernel_rfl) (by kernel_rfl) (fun _ _ _ h => h) (Or.inl ⟨by rfl, ?_⟩) hHeld ?_
        rotate_left
        · (intro w hSw; (try dsimp only at hSw); go_simp; with_reducible rfl)
        simp only [Act.put, List.setIfInBounds_toArray, List.set_cons_zero, List.set_cons_succ]
        refine wpAnyH_ready (rs := [5, 7]) (by kernel_rfl) (by simp) ?_
        refine AllReadyH.cons rfl (fun K hK => ?_) (AllReadyH.cons rfl (fun K hK => ?_) AllReadyH.nil)
        · go_simp
          refine hK.out _ _ hHeld (fun hHeld => ?_)
          clear hK K
          try simp only [Act.put, List.setIfInBounds_toArray, List.set_cons_zero, List.set_cons_succ]
          refine wpAnyH_ready (rs := [7]) (by kernel_rfl) (by simp) ?_
          refine AllReadyH.cons rfl (fun K hK => ?_) AllReadyH.nil
          go_simp
          go_at_call 5
          refine hnm.mono ?_
          rintro e w2 ⟨rfl, hg2⟩
          have g2 := (gr_drew wc).g.trans hg2
          have cb2 : w2.cell? ⟨bw, 0, none⟩ = some (.slice (some ⟨gw, 0, none⟩) nR cw) := (g2.cell_far ⟨bw, 0, none⟩ (World.block_lt_of_cell? _ _ cb) (by simp)).trans cb
          have cv2 : w2.cell? ⟨gw, s0, none⟩ = some (.slice va BL vc) := (g2.cell_far ⟨gw, s0, none⟩ (World.block_lt_of_cell? _ _ cv) (by simp)).trans cv
          have HAD2 := HAD.out w2 g2
          refine hK.out _ _ cb2 (fun hHeld => ?_)
          clear hK K
          try simp only [Act.put, List.setIfInBounds_toArray, List.set_cons_zero, List.set_cons_succ]
          refine wpAnyH_ready (rs := [11]) (by kernel_rfl) (by simp) ?_
          refine AllReadyH.cons rfl (fun K hK => ?_) AllReadyH.nil
          go_simp
          go_at_call 4
          try rw [hwv]
          refine HAD2.mono ?_
          rintro e w3 ⟨v3, rfl, ha3⟩
          obtain ⟨gq, cq, hv3, _⟩ := ha3.pl
          subst hv3
          obtain ⟨f1, f2, f3, f4, f5, f6⟩ := HF.out w2 _ w3 g2 ha3
          refine hK.out _ _ f6 (fun hHeld => ?_)
          clear hK K
          try simp only [Act.put, List.setIfInBounds_toArray, List.set_cons_zero, List.set_cons_succ]
          refine wpAnyH_ready (rs := [12]) (by kernel_rfl) (by simp) ?_
          refine AllReadyH.cons rfl (fun K hK => ?_) AllReadyH.nil
          go_simp
          refine hK.out _ _ f6 (fun hHeld => ?_)
          clear hK K
          try simp only [Act.put, List.setIfInBounds_toArray, List.set_cons_zero, List.set_cons_succ]
          refine wpAnyH_ready (rs := [13]) (by kernel_rfl) (by simp) ?_
          refine AllReadyH.cons rfl (fun K hK => ?_) AllReadyH.nil
          go_simp
          refine hK.out _ _ ((World.cell?_setCell_far _ _ _ _ hnbg).trans f6) (fun hHeld => ?_)
          clear hK K
          try simp only [Act.put, List.setIfInBounds_toArray, List.set_cons_zero, List.set_cons_succ]
          refine wpAnyH_done (by kernel_rfl) ?_ _
          apply HK3.out
          unfold wpS
          clear HK3 HAD2 HAD HF hnm cb cb2 cv cv2 f4 f5 f6 fv hHeld ha3 g2 hg2
          go_wp2
          rw [List.length_append] at f1 f2 f3
          exact ⟨⟨i + 1, by omega, by simp, f1, f2, f3⟩, by simp [intOf]; omega⟩
        · go_simp
          go_at_call 5
          refine hnm.mono ?_
          rintro e w2 ⟨rfl, hg2⟩
          have g2 := (gr_drew wc).g.trans hg2
          have cb2 : w2.cell? ⟨bw, 0, none⟩ = some (.slice (some ⟨gw, 0, none⟩) nR cw) := (g2.cell_far ⟨bw, 0, none⟩ (World.block_lt_of_cell? _ _ cb) (by simp)).trans cb
          have cv2 : w2.cell? ⟨gw, s0, none⟩ = some (.slice va BL vc) := (g2.cell_far ⟨gw, s0, none⟩ (World.block_lt_of_cell? _ _ cv) (by simp)).trans cv
          have HAD2 := HAD.out w2 g2
          refine hK.out _ _ cb2 (fun hHeld => ?_)
          clear hK K
          try simp only [Act.put, List.setIfInBounds_toArray, List.set_cons_zero, List.set_cons_succ]
          refine wpAnyH_ready (rs := [5]) (by kernel_rfl) (by simp) ?_
          refine AllReadyH.cons rfl (fun K hK => ?_) AllReadyH.nil
          go_simp
          refine hK.out _ _ cb2 (fun hHeld => ?_)
          clear hK K
          try simp only [Act.put, List.setIfInBounds_toArray, List.set_cons_zero, List.set_cons_succ]
          refine wpAnyH_ready (rs := [11]) (by kernel_rfl) (by simp) ?_
          refine AllReadyH.cons rfl (fun K hK => ?_) AllReadyH.nil
          go_simp
          go_at_call 4
          try rw [hwv]
          refine HAD2.mono ?_
          rintro e w3 ⟨v3, rfl, ha3⟩
          obtain ⟨gq, cq, hv3, _⟩ := ha3.pl
          subst hv3
          obtain ⟨f1, f2, f3, f4, f5, f6⟩ := HF.out w2 _ w3 g2 ha3
          refine hK.out _ _ f6 (fun hHeld => ?_)
          clear hK K
          try simp only [Act.put, List.setIfInBounds_toArray, List.set_cons_zero, List.set_cons_succ]
          refine wpAnyH_ready (rs := [12]) (by kernel_rfl) (by simp) ?_
          refine AllReadyH.cons rfl (fun K hK => ?_) AllReadyH.nil
          go_simp
          refine hK.out _ _ f6 (fun hHeld => ?_)
          clear hK K
          try simp only [Act.put, List.setIfInBounds_toArray, List.set_cons_zero, List.set_cons_succ]
          refine wpAnyH_ready (rs := [13]) (by kernel_rfl) (by simp) ?_
          refine AllReadyH.cons rfl (fun K hK => ?_) AllReadyH.nil
          go_simp
          refine hK.out _ _ ((World.cell?_setCell_far _ _ _ _ hnbg).trans f6) (fun hHeld => ?_)
          clear hK K
          try simp only [Act.put, List.setIfInBounds_toArray, List.set_cons_zero, List.set_cons_succ]
          refine wpAnyH_done (by kernel_rfl) ?_ _
          apply HK3.out
          unfold wpS
          clear HK3 HAD2 HAD HF hnm cb cb2 cv cv2 f4 f5 f6 fv hHeld ha3 g2 hg2
          go_wp2
          rw [List.length_append] at f1 f2 f3
          exact ⟨⟨i + 1, by omega, by simp, f1, f2, f3⟩, by simp [intOf]; omega⟩
    · have hie : i = vs.length := by omega
      subst hie
      have hltI : ¬ ((vs.length : Int) < (vs.length : Int)) := by omega
      have HQ : Hid (WantOk wr (bw + 1) bw gw nR (partW nR vs vs.length) ∧ w.grownBy wr none) := ⟨hwt, hgr⟩
      clear hwt hgr
      go_wp2
      unfold wpS
      have hwf : ∀ s, s < nR → partW nR vs vs.length s = part s := fun s hs => by rw [hpart s hs]; unfold partW; rw [List.take_length]
      have hgr := HQ.out.2
      have key : ∀ (k : Nat) (o : Obj), w.heap[k]? = some o → wr.heap[k]? = some o := fun k o hk => (hgr.block k (lt_heap hk) (by simp)).trans hk
      refine main_end wr lk (vs.map keyOf) l nR T (slotF nR) f part rs irs pl pi bn bl bo b11 b18 bnr bw HA.out.2.2.2.1 (HA.out.1.kept hgr (safe_none _)) (HA.out.2.1.kept hgr (safe_none _)) HA.out.2.2.1 ⟨key _ _ HA.out.2.2.2.2, key _ _ hbn, ?_, ?_, ?_⟩ (key _ _ h11) (key _ _ h18) R (fun w' h => HR.out w' (hgr.trans h)) _ _ _ _ _ _ _ _ _ _ _ _ _ _ _ _ _ _ _ _ _ _ _ _ _ _ _ _ _ _ _ _ _ _ _ _ _ _ _ _ _ _ _ _ _ _ _ _ _ _ _ _ _ _ _ _ _ _ _ _ _ _ _ _ _ _ _ _ _ _ _ _ _ _ _ _ _ _ _ _ _ _ _ _ _ _ _ _ _ _ _ _ _ _ _ _ _ _ _ _ _ _ _ _ _ _ _ _ _ _ _ _ _ _ _ _ _ _ _ _ _ _ _ _ _ _ _ _ _ _ _ _ _ _ _ _ _ _ _ _ _ _ _ _ _ _ _ _ _ _
      · obtain ⟨g, c, h1, arr, fr, h2, h3⟩ := hbo
        exact ⟨g, c, key _ _ h1, arr, fr, key _ _ h2, h3⟩
      · obtain ⟨a, c, h1, h2, h3⟩ := hbl
        exact ⟨a, c, key _ _ h1, h2.kept hgr (fun R e => by simp at e), h3⟩
      · obtain ⟨c, h1⟩ := HQ.out.1.b
        obtain ⟨arr, V, h2, h3, _⟩ := HQ.out.1.v
        refine ⟨gw, c, h1, arr, (0, 0), h2, fun s hs => ?_⟩
        obtain ⟨h4, h5⟩ := h3 s hs
        rw [hwf s hs] at h5
        obtain ⟨a, c, h6, h7, _⟩ := h5.sl
        exact ⟨a, c, by rw [h4, h6], h7⟩
end Go.Proofs.YbulkbasiFmt
