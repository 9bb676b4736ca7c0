import Derived.Test.YbulkbaswPutB
namespace Go.Proofs.Ybulkbasw
open Go.RowKit
theorem info66 : ∃ i z, Yba.prog.info? 66 = some i ∧ i.zero = some z ∧ i.size = 2 ∧ i.bytes = 24 := by
  have h1 : (Yba.prog.info? 66).map (·.size) = some 2 := by kernel_rfl
  have h2 : (Yba.prog.info? 66).map (·.bytes) = some 24 := by kernel_rfl
  have h3 : ((Yba.prog.info? 66).bind (·.zero)).isSome = true := by kernel_rfl
  obtain ⟨i, hi, hb⟩ := Option.map_eq_some_iff.1 h1
  rw [hi] at h2 h3
  obtain ⟨z, hz⟩ := Option.isSome_iff_exists.1 h3
  exact ⟨i, z, hi, hz, hb, by simpa using h2⟩
theorem ptsV_get (l : List (Int × Nat)) : ∀ (i : Nat) (p : Int × Nat), l[i]? = some p → (ptsV l)[i * 2]? = some (.int .i64 p.1) ∧ (ptsV l)[i * 2 + 1]? = some (.int .i64 (p.2 : Int)) := by
  induction l with
  | nil => intro i p h; simp at h
  | cons a r ih =>
    intro i p h
    cases i with
    | zero => simp at h; subst h; exact ⟨rfl, rfl⟩
    | succ i =>
      have := ih i p (by simpa using h)
      rw [show (i + 1) * 2 = i * 2 + 1 + 1 from by omega]
      exact this
/-- What 'Lookup' hands out for a key: rows of (spelling, value). -/
def viewK (k : Key) : List (List UInt8 × Int) := k.pts.map fun p => (k.sps.getD p.2 [], p.1)
/-- The first t elements of the row are filled. -/
def Filled (k : Key) (t : Nat) (xs : List Value) : Prop := xs.length = k.pts.length * 2 ∧ ∀ j p, j < t → k.pts[j]? = some p → xs[j * 2]? = some (strV (k.sps.getD p.2 [])) ∧ xs[j * 2 + 1]? = some (.int .i64 p.1)
theorem Filled.step {k : Key} {t : Nat} {xs : List Value} {p : Int × Nat} (h : Filled k t xs) (hp : k.pts[t]? = some p) : Filled k (t + 1) ((xs.set (t * 2) (strV (k.sps.getD p.2 []))).set (t * 2 + 1) (.int .i64 p.1)) := by
  have hlt := (List.getElem?_eq_some_iff.1 hp).1
  have hlen := h.1
  refine ⟨by simpa using h.1, fun j q hj hq => ?_⟩
  by_cases he : j = t
  · subst he
    rw [hp] at hq
    simp at hq
    subst hq
    refine ⟨?_, ?_⟩
    · rw [List.getElem?_set_ne (by omega), List.getElem?_set_self (by omega)]
    · rw [List.getElem?_set_self (by simp; omega)]
  · have := h.2 j q (by omega) hq
    refine ⟨?_, ?_⟩
    · rw [List.getElem?_set_ne (by omega), List.getElem?_set_ne (by omega)]; exact this.1
    · rw [List.getElem?_set_ne (by omega), List.getElem?_set_ne (by omega)]; exact this.2

set_option maxHeartbeats 2000000 in
set_option maxRecDepth 100000 in
theorem lookup_tail (N T M1 M2 gk capk i : Nat) (K : List Key) (S : List (List UInt8 × Nat × Nat)) (V : List (Value × Value)) (k : Key) (w : World) (R : Ending → World → Prop) (h : TabOk w N T M1 M2 0 K S (.slice (some ⟨gk, 0, none⟩) K.length capk) V)
    (hk : K[i]? = some k) (hK2 : k.pts.length ≤ 2000) (hne : k.pts ≠ []) (hsp : ∀ p ∈ k.pts, p.2 < k.sps.length)
    (hR : ∀ g xs w', w'.ownsRow w.heap.size 66 2 (.slice (some ⟨g, 0, none⟩) k.pts.length k.pts.length) k.pts.length xs → Filled k k.pts.length xs → Below w.heap.size w w' → R (.returned (.slice (some ⟨g, 0, none⟩) k.pts.length k.pts.length)) w')
    (u1 u2 u3 u4 u6 u7 u8 u9 u10 u11 u12 u13 u14 u15 u16 u17 u18 u19 u20 u21 u22 u23 u24 u25 u26 u27 u28 u29 u30 u31 u32 u33 u34 u35 u36 u37 u38 u39 u40 u41 u42 u43 u44 u45 u46 u47 u48 u49 u50 u51 u52 u53 u54 u55 u56 u57 u58 u59 u60 u61 u62 u63 u64 u65 u66 u67 u68 u69 u70 u71 u72 u73 u74 u75 u76 u77 u78 u79 u80 u81 u82 u83 u84 u85 u86 : Value) :
    Code.wp Yba.prog (sndS (sndS (sndS (Yba.f16.body.getD .skip)))) (bodyPost Yba.prog Yba.f16 R) ⟨#[.pointer (some ⟨T, 0, none⟩), u1, u2, u3, u4, .int .i64 (i : Int), u6, u7, u8, u9, u10, u11, u12, u13, u14, u15, u16, u17, u18, u19, u20, u21, u22, u23, u24, u25, u26, u27, u28, u29, u30, u31, u32, u33, u34, u35, u36, u37, u38, u39, u40, u41, u42, u43, u44, u45, u46, u47, u48, u49, u50, u51, u52, u53, u54, u55, u56, u57, u58, u59, u60, u61, u62, u63, u64, u65, u66, u67, u68, u69, u70, u71, u72, u73, u74, u75, u76, u77, u78, u79, u80, u81, u82, u83, u84, u85, u86], []⟩ w := by
  conv => arg 2; simp only [Yba.f16, Option.getD_some, sndS]
  obtain ⟨q, hq⟩ : ∃ q, V[i]? = some q := ⟨_, List.getElem?_eq_getElem (by rw [h.len]; exact (List.getElem?_eq_some_iff.1 hk).1)⟩
  have hpt := h.pt i k q hk hq
  have hspr := h.sp i k q hk hq
  obtain ⟨sv, pv⟩ := q
  obtain ⟨n, hn⟩ : ∃ n, k.pts.length = n + 1 := ⟨k.pts.length - 1, by have := List.length_pos_iff.2 hne; omega⟩
  obtain ⟨gp, capp, rfl⟩ : ∃ gp c, pv = .slice (some ⟨gp, 0, none⟩) k.pts.length c := by
    rcases hpt.2 with ⟨_, e⟩ | ⟨g, cap, cur, e, _⟩
    · omega
    · exact ⟨g, cap, e⟩
  obtain ⟨gs, caps, rfl⟩ : ∃ gs c, sv = .slice (some ⟨gs, 0, none⟩) k.sps.length c := by
    rcases hspr.2 with ⟨_, e⟩ | ⟨g, cap, cur, e, _⟩
    · exfalso
      obtain ⟨p, hp⟩ := List.exists_mem_of_ne_nil _ hne
      have := hsp p hp
      omega
    · exact ⟨g, cap, e⟩
  have hik : i < K.length := (List.getElem?_eq_some_iff.1 hk).1
  have hik' : (i : Int) < (K.length : Int) := by omega
  have hi0 : (0 : Int) ≤ (i : Int) := by omega
  obtain ⟨hfl1, hfl2⟩ := flatV_get V i _ hq
  have gk2 : w.cell? ⟨gk, i * 2 + 1, none⟩ = some (.slice (some ⟨gp, 0, none⟩) k.pts.length capp) := own_cell h.keys (i * 2 + 1) _ hfl2
  have gT1 : w.cell? ⟨T, 1, none⟩ = some (.slice (some ⟨gk, 0, none⟩) K.length capk) := (cell_of_row w T 1 _ _ _ h.tb).trans rfl
  clear hfl1 hfl2
  rw [hn] at gk2 hpt
  have hpl := ptsV_get k.pts n (k.pts[n]'(by omega)) (by simp [hn])
  have gp2 := own_cell hpt (n * 2 + 1) _ hpl.2
  go_upto_region 5 with fail
  go_quiet (fail)
  rename_i nq
  have h5 : TabOk (w.drewN nq) N T M1 M2 0 K S (.slice (some ⟨gk, 0, none⟩) K.length capk) V := h.keeps ((Keeps.refl _ w).drewN nq)
  have b5 : Below w.heap.size w (w.drewN nq) := (Below.refl _ w).trans ⟨rfl, rfl, rfl, Nat.le_refl _, fun _ _ => rfl⟩
  generalize w.drewN nq = w5 at h5 b5 ⊢
  clear gk2 gT1 gp2 hpt hspr
  have hfl := flatV_get V i _ hq
  have gk2 : w5.cell? ⟨gk, i * 2 + 1, none⟩ = some (.slice (some ⟨gp, 0, none⟩) (n + 1) capp) := by rw [← hn]; exact own_cell h5.keys (i * 2 + 1) _ hfl.2
  obtain ⟨i66, z66, hi, hz, hs, hy⟩ := info66
  have hsz5 := b5.size
  go_wp2_with (at_make; refine wpList_make_full _ rfl _ _ 63 rfl w.heap.size 66 i66 z66 2 Yba.underlying63 hi hz hs .i64 .i64 _ _ (n + 1) rfl rfl (by omega) (by omega) (by rw [hy]; omega) (by simp [maxLen]; omega) hsz5 ?_; intro w6 hown6 hgrow6; have gk6 : w6.cell? ⟨gk, i * 2 + 1, none⟩ = some (.slice (some ⟨gp, 0, none⟩) (n + 1) capp) := (hgrow6.cell_far ⟨gk, i * 2 + 1, none⟩ (World.block_lt_of_cell? _ _ gk2) (by simp)).trans gk2)
  have h6 : TabOk w6 N T M1 M2 0 K S (.slice (some ⟨gk, 0, none⟩) K.length capk) V := h5.keeps ((Keeps.refl _ w5).grown hgrow6 (by simp))
  have b6 : Below w.heap.size w w6 := b5.grown hgrow6 hsz5 (by simp)
  have hx6 : Filled k 0 (madeCells z66.cells ((n + 1) * 2)).toList := ⟨by rw [hn]; exact hown6.1, fun j p hj => by omega⟩
  have hgB : w.heap.size ≤ w5.heap.size := hsz5
  generalize w5.heap.size = g at hown6 hgB ⊢
  generalize (madeCells z66.cells ((n + 1) * 2)).toList = xs0 at hown6 hx6
  clear hgrow6 hsz5 gk2 gk6 b5 h5
  go_loopw [56] (fun v wr => ∃ (t : Nat) (xs : List Value), t ≤ n + 1 ∧ v = .int .i64 (t : Int) ∧ wr.ownsRow w.heap.size 66 2 (.slice (some ⟨g, 0, none⟩) (n + 1) (n + 1)) (n + 1) xs ∧ Filled k t xs ∧ TabOk wr N T M1 M2 0 K S (.slice (some ⟨gk, 0, none⟩) K.length capk) V ∧ Below w.heap.size w wr)
    (fun v _ => n + 1 - (intOf v).toNat)
  case atStart => exact ⟨0, xs0, Nat.zero_le _, rfl, hown6, hx6, h6, b6⟩
  case round =>
    obtain ⟨t, xs, ht, rfl, ho, hf, htab, hbel⟩ := hrel
    by_cases hlt : t < n + 1
    · have htp : t < k.pts.length := by omega
      have hpt := htab.pt i k _ hk hq
      have hspr := htab.sp i k _ hk hq
      have hsl := hsp k.pts[t] (List.getElem_mem htp)
      have hpg := ptsV_get k.pts t k.pts[t] (by simp)
      generalize hp : k.pts[t] = p at hpg hsl
      have Hp : Hid (k.pts[t] = p) := hp
      clear hp
      obtain ⟨pv, ps⟩ := p
      have e0 : wr.cell? ⟨gp, t * 2, none⟩ = some (.int .i64 pv) := own_cell hpt _ _ hpg.1
      have e1 : wr.cell? ⟨gp, t * 2 + 1, none⟩ = some (.int .i64 (ps : Int)) := own_cell hpt _ _ hpg.2
      have gT0 : wr.cell? ⟨T, 0, none⟩ = some (.int .u8 0) := (cell_of_row wr T 0 _ _ _ htab.tb).trans rfl
      have gT0' : ∀ o, (wr.alloc o).cell? ⟨T, 0, none⟩ = some (.int .u8 0) := fun o => (World.cell?_of_block (w := wr) (a := ⟨T, 0, none⟩) (Below.heap_alloc wr o T (World.block_lt_of_cell? wr _ gT0))).trans gT0
      have hltI : (t : Int) < (n : Int) + 1 := by omega
      have ht0 : (0 : Int) ≤ (t : Int) := by omega
      go_upto_region 16 with fail
      have pA : (wr.alloc (.cells #[.int .i64 pv, .int .i64 (ps : Int)] 61)).heap[wr.heap.size]? = some (.cells #[.int .i64 pv, .int .i64 (ps : Int)] 61 (0, 0)) := heap_alloc_new _ _
      have tA := htab.keeps (keeps_alloc wr (.cells #[.int .i64 pv, .int .i64 (ps : Int)] 61) isTab)
      have oA := ho.alloc (.cells #[.int .i64 pv, .int .i64 (ps : Int)] 61)
      have bA := hbel.alloc hbel.size (.cells #[.int .i64 pv, .int .i64 (ps : Int)] 61)
      generalize wr.alloc (.cells #[.int .i64 pv, .int .i64 (ps : Int)] 61) = wA at pA tA oA bA ⊢
      generalize wr.heap.size = P at pA ⊢
      clear e0 e1 gT0 gT0' hpt hspr
      have hspr := tA.sp i k _ hk hq
      have hfl := flatV_get V i _ hq
      have gk1 : wA.cell? ⟨gk, i * 2, none⟩ = some (.slice (some ⟨gs, 0, none⟩) k.sps.length caps) := own_cell tA.keys (i * 2) _ hfl.1
      have gs1 : wA.cell? ⟨gs, ps, none⟩ = some (strV (k.sps.getD ps [])) := own_cell hspr ps _ (by rw [List.getElem?_map, List.getD_eq_getElem?_getD, List.getElem?_eq_getElem hsl]; rfl)
      have gP0 : wA.cell? ⟨P, 0, none⟩ = some (.int .i64 pv) := (cell_of_row wA P 0 _ _ _ pA).trans rfl
      have hpsI : (ps : Int) < (k.sps.length : Int) := by omega
      have hps0 : (0 : Int) ≤ (ps : Int) := by omega
      obtain ⟨cg, hcg⟩ := own_at oA (g := g) rfl
      have hxl := hf.1
      obtain ⟨x0, hx0⟩ : ∃ x0, xs[t * 2]? = some x0 := ⟨_, List.getElem?_eq_getElem (by omega)⟩
      obtain ⟨x1, hx1⟩ : ∃ x1, xs[t * 2 + 1]? = some x1 := ⟨_, List.getElem?_eq_getElem (by omega)⟩
      have gg0 := own_cell oA (t * 2) _ hx0
      have gg1 := own_cell oA (t * 2 + 1) _ hx1
      have fg0 : wA.frozen? ⟨g, t * 2, none⟩ = false := frozen_of_row wA g (t * 2) cg 66 hcg
      have fg1 : wA.frozen? ⟨g, t * 2 + 1, none⟩ = false := frozen_of_row wA g (t * 2 + 1) cg 66 hcg
      generalize hS0 : k.sps.getD ps [] = s0 at gs1
      have HS0 : Hid (k.sps.getD ps [] = s0) := hS0
      clear hS0
      go_region
      all_goals
        go_wp2
        have oB := own_set (own_set oA (t * 2) (strV s0)) (t * 2 + 1) (.int .i64 pv)
        have hfs : Filled k (t + 1) ((xs.set (t * 2) (strV s0)).set (t * 2 + 1) (.int .i64 pv)) := by
          have := hf.step (p := (pv, ps)) (by rw [List.getElem?_eq_getElem htp, Hp.out])
          rw [HS0.out] at this
          exact this
        have kB : Keeps isTab wA ((wA.setCell ⟨g, t * 2, none⟩ (strV s0)).setCell ⟨g, t * 2 + 1, none⟩ (.int .i64 pv)) := by
          refine ((Keeps.refl _ wA).setCell (fun o ho hp => ?_) _).setCell (fun o ho hp => ?_) _
          · rw [hcg] at ho; simp at ho; subst ho; simp [isTab] at hp
          · rw [heap_setCell_same wA g (t * 2) _ _ _ hcg] at ho; simp at ho; subst ho; simp [isTab] at hp
        refine ⟨⟨t + 1, _, by omega, by simp, oB, hfs, tA.keeps kB.drew, ((bA.setCell hgB _).setCell hgB _).drew⟩, ?_⟩
        simp [intOf]
        omega
    · have hlt' : ¬ (t : Int) < (n : Int) + 1 := by omega
      have et : t = n + 1 := by omega
      subst et
      rw [hn] at hR
      go_wp2
      exact hR g xs wr ho (by rw [← hn] at hf ⊢; exact hf) hbel
end Go.Proofs.Ybulkbasw
