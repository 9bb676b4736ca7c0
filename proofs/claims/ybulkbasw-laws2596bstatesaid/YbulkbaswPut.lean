import Derived.Test.YbulkbaswAddB
import Derived.Deep.QuietTactic
import Derived.BigQuiet
namespace Go.Proofs.Ybulkbasw
open Go.RowKit

set_option maxHeartbeats 2000000 in
set_option maxRecDepth 100000 in
theorem put_tail (N T M1 M2 R0 gk capk i j : Nat) (pol v : Int) (K : List Key) (S : List (List UInt8 × Nat × Nat)) (V : List (Value × Value)) (k : Key) (w : World) (R : Ending → World → Prop) (h : TabOk w N T M1 M2 pol K S (.slice (some ⟨gk, 0, none⟩) K.length capk) V)
    (hk : K[i]? = some k) (hR0 : w.heap[R0]? = some (.cells #[.int .i64 (i : Int), .int .i64 (j : Int)] 72 (0, 0))) (hK2 : k.pts.length ≤ 2000)
    (hR : ∀ kv' V' w', TabOk w' N T M1 M2 pol (K.set i { k with pts := k.pts ++ [(v, j)] }) S kv' V' → Below N w w' → Keeps notTab w w' → R (.returned (.tuple #[])) w')
    (u1 u3 u4 u5 u7 u8 u9 u10 u11 u12 u13 u14 u15 u16 u17 u18 u19 u20 u21 u22 u23 u24 u25 u26 u27 u28 u29 u30 u31 u32 u33 u34 u35 u36 u37 u38 u39 u40 u41 u42 u43 : Value) :
    Code.wp Yba.prog (sndS (sndS (sndS (Yba.f14.body.getD .skip)))) (bodyPost Yba.prog Yba.f14 R) ⟨#[.pointer (some ⟨T, 0, none⟩), u1, .int .i64 v, u3, u4, u5, .pointer (some ⟨R0, 0, none⟩), u7, u8, u9, u10, u11, u12, u13, u14, u15, u16, u17, u18, u19, u20, u21, u22, u23, u24, u25, u26, u27, u28, u29, u30, u31, u32, u33, u34, u35, u36, u37, u38, u39, u40, u41, u42, u43], []⟩ w := by
  conv => arg 2; simp only [Yba.f14, Option.getD_some, sndS]
  obtain ⟨q, hq⟩ : ∃ q, V[i]? = some q := ⟨_, List.getElem?_eq_getElem (by rw [h.len]; exact (List.getElem?_eq_some_iff.1 hk).1)⟩
  obtain ⟨sa, sc, hsv⟩ := kv_form (h.pt i k q hk hq)
  obtain ⟨sv, pv⟩ := q
  simp only at hsv
  subst hsv
  have hik : i < K.length := (List.getElem?_eq_some_iff.1 hk).1
  have hik' : (i : Int) < (K.length : Int) := by omega
  have hi0 : (0 : Int) ≤ (i : Int) := by omega
  obtain ⟨hfl1, hfl2⟩ := flatV_get V i _ hq
  have gk1 : w.cell? ⟨gk, i * 2 + 1, none⟩ = some (.slice sa k.pts.length sc) := own_cell h.keys (i * 2 + 1) _ hfl2
  have gT1 : w.cell? ⟨T, 1, none⟩ = some (.slice (some ⟨gk, 0, none⟩) K.length capk) := (cell_of_row w T 1 _ _ _ h.tb).trans rfl
  have gR0 : w.cell? ⟨R0, 0, none⟩ = some (.int .i64 (i : Int)) := (cell_of_row w R0 0 _ _ _ hR0).trans rfl
  have gR1 : w.cell? ⟨R0, 1, none⟩ = some (.int .i64 (j : Int)) := (cell_of_row w R0 1 _ _ _ hR0).trans rfl
  clear hfl1 hfl2
  go_upto_region 4 with fail
  go_quiet (fail)
  rename_i nq
  have g4R : (w.drewN nq).heap[R0]? = some (.cells #[.int .i64 (i : Int), .int .i64 (j : Int)] 72 (0, 0)) := hR0
  have h4 : TabOk (w.drewN nq) N T M1 M2 pol K S (.slice (some ⟨gk, 0, none⟩) K.length capk) V := h.keeps ((Keeps.refl _ w).drewN nq)
  have b4 : Below N w (w.drewN nq) := (Below.refl _ w).trans ⟨rfl, rfl, rfl, Nat.le_refl _, fun _ _ => rfl⟩
  have k4 : Keeps (fun _ => True) w (w.drewN nq) := (Keeps.refl _ w).drewN nq
  generalize w.drewN nq = w8 at g4R h4 b4 k4 ⊢
  clear gk1 gT1 gR0 gR1
  obtain ⟨hfl1, hfl2⟩ := flatV_get V i _ hq
  have gk1 : w8.cell? ⟨gk, i * 2 + 1, none⟩ = some (.slice sa k.pts.length sc) := own_cell h4.keys (i * 2 + 1) _ hfl2
  have gR1 : w8.cell? ⟨R0, 1, none⟩ = some (.int .i64 (j : Int)) := (cell_of_row w8 R0 1 _ _ _ g4R).trans rfl
  clear hfl1 hfl2
  go_wp2_with fail
  obtain ⟨i61, hi, hz, hs, hy⟩ := info61
  have hpt8 := h4.pt i k _ hk hq
  obtain ⟨ck, hck⟩ := own_at h4.keys (g := gk) rfl
  have hptA : ∀ o, (w8.alloc o).drew.ownsRow N 61 2 (.slice sa k.pts.length sc) k.pts.length (ptsV k.pts) := fun o => hpt8.alloc o
  have hnwA : ∀ x u, [Value.int .i64 v, .int .i64 (j : Int)][x]? = some u → (w8.alloc (.cells #[.int .i64 v, .int .i64 (j : Int)] 61)).drew.cell? ((⟨w8.heap.size, 0, none⟩ : Addr).add x) = some u := World.news_of_block (heap_alloc_new w8 (.cells #[.int .i64 v, .int .i64 (j : Int)] 61))
  have hbsA : N ≤ (w8.alloc (.cells #[.int .i64 v, .int .i64 (j : Int)] 61)).drew.heap.size := by have := (tab_lt h4).2; show N ≤ (w8.alloc (.cells #[.int .i64 v, .int .i64 (j : Int)] 61)).heap.size; simp; omega
  have hne1 : some gk ≠ (Value.slice sa k.pts.length sc).ownBlock := fun e => (h4.pt_ne hk hq e.symm).2.2.2.1 rfl
  have gkA : (w8.alloc (.cells #[.int .i64 v, .int .i64 (j : Int)] 61)).drew.cell? ⟨gk, i * 2 + 1, none⟩ = some (.slice sa k.pts.length sc) := (World.cell?_of_block (w := w8) (a := ⟨gk, i * 2 + 1, none⟩) (Below.heap_alloc w8 _ gk (World.block_lt_of_cell? w8 _ gk1))).trans gk1
  have fkA : (w8.alloc (.cells #[.int .i64 v, .int .i64 (j : Int)] 61)).drew.frozen? ⟨gk, i * 2 + 1, none⟩ = false := frozen_of_row (w8.alloc (.cells #[.int .i64 v, .int .i64 (j : Int)] 61)) gk (i * 2 + 1) ck 59 ((Below.heap_alloc w8 _ gk (lt_heap hck)).trans hck)
  go_region_law ((refine step_append_lies _ (by rfl) _ _ _ (by rfl) N 61 i61 (.agg #[.int .i64 0, .int .i64 0]) 2 16 Yba.underlying57 hi hz hs hy rfl (by omega) (.slice sa k.pts.length sc) k.pts.length (ptsV k.pts) (by rfl) (hptA _) ⟨w8.heap.size, 0, none⟩ 1 1 [.int .i64 v, .int .i64 (j : Int)] (by rfl) (by rfl) hnwA (by simp [Value.oneCell']) (by omega) (by simp [maxLen]; omega) (by omega) hbsA _ (by rfl) ?_; intro g9 cap9 w9 hown9 hgrow9 hat9 hlt9; have gk9 := (hgrow9.cell_far ⟨gk, i * 2 + 1, none⟩ (World.block_lt_of_cell? _ _ gkA) hne1).trans gkA; have fk9 := (hgrow9.frozen_far ⟨gk, i * 2 + 1, none⟩ (World.block_lt_of_cell? _ _ gkA) hne1).trans fkA))
  all_goals
    have hAA : TabOk (w8.alloc (.cells #[.int .i64 v, .int .i64 (j : Int)] 61)).drew N T M1 M2 pol K S (.slice (some ⟨gk, 0, none⟩) K.length capk) V := h4.keeps (keeps_alloc w8 _ _)
    have h9 := hAA.addPt (v := v) (j := j) hk hq rfl hgrow9 hown9 (by rcases hat9 with e | e; exact .inl e; exact .inr (Nat.le_of_eq e.symm))
    refine ⟨rfl, .tuple #[], by simp [results, Yba.results14, go_sem], hR _ _ _ h9 ?_ ?_⟩
    · refine (((b4.alloc (tab_lt h4).2 _).drew).grown hgrow9 hbsA (fun x hx => (hpt8.lt x hx).1)).setCell ?_ _
      exact (h4.keys.lt gk rfl).1
    · intro x o ho hn
      cases o with
      | cells c t f =>
        have ht : t ∉ [54, 59, 43, 61] := hn
        have a8 := k4 x _ ho trivial
        have aA : (w8.alloc (.cells #[.int .i64 v, .int .i64 (j : Int)] 61)).heap[x]? = some (.cells c t f) := (Below.heap_alloc w8 _ x (lt_heap a8)).trans a8
        refine (heap_setCell_other w9 ⟨gk, i * 2 + 1, none⟩ x _ (fun e => ?_)).trans ((hgrow9.block x (lt_heap aA) (fun e => ?_)).trans aA)
        · subst e
          rw [hck] at a8
          simp at a8
          exact ht (by simp [← a8.2.1])
        · obtain ⟨c2, h2⟩ := own_at hpt8 e.symm
          rw [a8] at h2
          simp at h2
          exact ht (by simp [h2.2.1])
      | map _ _ => exact hn.elim
      | _ => exact hn.elim
end Go.Proofs.Ybulkbasw
