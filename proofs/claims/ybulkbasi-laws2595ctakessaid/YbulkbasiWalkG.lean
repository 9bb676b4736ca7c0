import Derived.Test.YbulkbasiWalkF
namespace Go.Proofs.Ybulkbasi
open Go.RowKit
open Go.MuLone

theorem method_done (a : Addr) (w : World) : (method 249 39 (.pointer (some a)) "Done").run Yba.prog w = .ok (80, .pointer (some a)) w := by kernel_rfl
theorem method_err (a : Addr) (w : World) : (method 249 39 (.pointer (some a)) "Err").run Yba.prog w = .ok (81, .pointer (some a)) w := by kernel_rfl

def sndS : Code → Code
  | .seq _ b => b
  | c => c

set_option maxHeartbeats 400000 in
set_option maxRecDepth 100000 in
theorem await_rest (B W C D G X g cap N : Nat) (fr n : Int) (y : Bool) (x0 er : Value) (w : World) (R : Ending → World → Prop) (h : Bq w B 1 fr (.slice (some ⟨g, 0, none⟩) 1 cap)) (hW : Wt w W n y (.chan (some G))) (hX : Bx w X W)
    (hC : Cx w C D x0 er 0 0) (hD : w.heap[D]? = some (.chan 0 #[] true 0 0 false)) (hG : w.heap[G]? = some (.chan 0 #[] false 0 0 false))
    (hown : w.ownsRow N 44 1 (.slice (some ⟨g, 0, none⟩) 1 cap) 1 [.pointer (some ⟨W, 0, none⟩)]) (hlt : fr < n)
    (hR : ∀ w', Bq w' B 0 fr (.slice (some ⟨g, 0, none⟩) 0 cap) → Cx w' C D x0 er 1 1 → w'.ownsRow N 44 1 (.slice (some ⟨g, 0, none⟩) 0 cap) 0 [] → Kp [B, C, g] w w' → R (.returned er) w')
    (u2 u3 u4 u7 u8 u9 u10 u11 u12 u13 u14 u15 u16 u17 u18 u19 u20 u21 u22 u23 u24 u25 u26 u27 u28 u29 u30 u31 u32 u33 u34 u35 u36 u37 u38 u39 u40 u41 u42 u43 u44 u45 u46 u47 u48 u49 u50 u51 u52 u53 u54 u55 u56 u57 u58 u59 u60 u61 u62 u63 u64 u65 u66 u67 u68 u69 u70 u71 u72 u73 u74 u75 u76 u77 u78 u79 u80 u81 u82 u83 u84 u85 u86 u87 u88 u89 u90 u91 u92 u93 u94 u95 u96 u97 u98 u99 u100 u101 u102 u103 u104 u105 u106 u107 u108 u109 u110 u111 u112 u113 u114 u115 u116 : Value) :
    wpN Yba.prog (sndS (sndS (sndS (sndS (sndS (sndS (sndS (Yba.f8.body.getD .skip)))))))) (bodyPostD Yba.prog Yba.f8 R) ⟨#[.pointer (some ⟨B, 0, none⟩), .iface 39 (.pointer (some ⟨C, 0, none⟩)), u2, u3, u4, .pointer (some ⟨X, 0, none⟩), .nilIface, u7, u8, u9, u10, u11, u12, u13, u14, u15, u16, u17, u18, u19, u20, u21, u22, u23, u24, u25, u26, u27, u28, u29, u30, u31, u32, u33, u34, u35, u36, u37, u38, u39, u40, u41, u42, u43, u44, u45, u46, u47, u48, u49, u50, u51, u52, u53, u54, u55, u56, u57, u58, u59, u60, u61, u62, u63, u64, u65, u66, u67, u68, u69, u70, u71, u72, u73, u74, u75, u76, u77, u78, u79, u80, u81, u82, u83, u84, u85, u86, u87, u88, u89, u90, u91, u92, u93, u94, u95, u96, u97, u98, u99, u100, u101, u102, u103, u104, u105, u106, u107, u108, u109, u110, u111, u112, u113, u114, u115, u116], []⟩ w := by
  obtain ⟨cur, hg, hcap, hcs, hc0⟩ : ∃ cur, w.heap[g]? = some (.cells cur 44 (0, 0)) ∧ 1 ≤ cap ∧ cur.size = cap * 1 ∧ cur[0]? = some (.pointer (some ⟨W, 0, none⟩)) := by
    rcases hown.2 with ⟨h', _⟩ | ⟨g', cap', cur, e, _, hg, h1, _, h2, h3⟩
    · simp at h'
    · simp at e
      obtain ⟨rfl, rfl⟩ := e
      refine ⟨cur, hg, h1, h2, ?_⟩
      have := congrArg (fun l => l[0]?) h3
      simpa using this
  have hBW := blk_ne h hW (cells_ne (by decide))
  have hBC := blk_ne h hC (cells_ne (by decide))
  have hWC := blk_ne hW hC (cells_ne (by decide))
  have hBX := blk_ne h hX (cells_ne (by decide))
  have hCX := blk_ne hC hX (cells_ne (by decide))
  have hBg := blk_ne h hg (cells_ne (by decide))
  have hCg := blk_ne hC hg (cells_ne (by decide))
  have hWg := blk_ne hW hg (cells_ne (by decide))
  have hBD := blk_ne h hD chan_ne
  have hCD := blk_ne hC hD chan_ne
  have hgD := blk_ne hg hD chan_ne
  have hBG := blk_ne h hG chan_ne
  have hCG := blk_ne hC hG chan_ne
  have hgG := blk_ne hg hG chan_ne
  have hmd := method_done ⟨C, 0, none⟩
  have hme := method_err ⟨C, 0, none⟩
  conv => arg 2; simp only [Yba.f8, Option.getD_some, sndS]
  refine wpN_seqF fun K hK => ?_
  go_wp2_with fail
  refine (grant_one B g cap W 1 fr n cur w h hg hc0 hcap hW.c0 hW.c2 hlt).mono ?_
  rintro e w5 ⟨rfl, k5⟩
  have b5 := h.kp k5 (by simp)
  have t5 := hW.kp k5 (by simp)
  have x5 := hX.kp k5 (by simp)
  have c5 := hC.kp k5 (by simp)
  have d5 := k5.heap hD (by simp)
  have j5 := k5.heap hG (by simp)
  have g5 := k5.heap hg (by simp)
  go_wp2_with fail
  refine wpN_seqF fun K hK => ?_
  go_wp2_with fail
  refine (unlock_held Yba.muLib ⟨B, 0, none⟩ _ b5.c0 (b5.fz 0)).mono ?_
  rintro e w6 ⟨rfl, hw6⟩
  have b6 : Bq w6 B 0 fr (.slice (some ⟨g, 0, none⟩) 1 cap) := by rw [hw6]; exact b5.set0 0
  have k6 : Kp [B] w5 w6 := by rw [hw6]; exact (Kp.refl _ _).setCell (by simp) _
  clear hw6
  have t6 := t5.kp k6 (by simpa using hBW.symm)
  have x6 := x5.kp k6 (by simpa using hBX.symm)
  have c6 := c5.kp k6 (by simpa using hBC.symm)
  have d6 := k6.heap d5 (by simpa using hBD.symm)
  have j6 := k6.heap j5 (by simpa using hBG.symm)
  have g6 := k6.heap g5 (by simpa using hBg.symm)
  have gX := x6.c0
  have gW3 := t6.c3
  go_wp2_with fail
  refine wpN_seq fun K hK => ?_
  refine wpN_seqF fun K' hK' => ?_
  go_wp2_with fail
  -- region 14: ctx.Done()
  refine (done_any C 0 (.chan (some D)) w6 c6.c1 c6.c3 (c6.fz 3)).mono ?_
  rintro e w7 ⟨rfl, hw7⟩
  have c7 : Cx w7 C D x0 er 1 0 := by rw [hw7, show wrap64 (0 + 1) = 1 from by unfold wrap64; omega]; exact c6.set3 1
  have k7 : Kp [C] w6 w7 := by rw [hw7]; exact (Kp.refl _ _).setCell (by simp) _
  clear hw7
  have b7 := b6.kp k7 (by simpa using hBC)
  have t7 := t6.kp k7 (by simpa using hWC)
  have x7 := x6.kp k7 (by simpa using hCX.symm)
  have d7 := k7.heap d6 (by simpa using hCD.symm)
  have j7 := k7.heap j6 (by simpa using hCG.symm)
  have g7 := k7.heap g6 (by simpa using hCg.symm)
  clear gX gW3
  have gX := x7.c0
  have gW3 := t7.c3
  go_wp2_with fail
  -- region 15: the select
  refine wpN_seq fun K2 hK2 => ?_
  refine wpN_select_shut (c0 := G) (c := D) (cap0 := 0) (s0 := 0) (r0 := 0) (tm0 := false) (cap := 0) (s := 0) (r := 0) (tm := false) (z0 := .agg #[]) (z := .agg #[]) ?_ ?_ j7 d7 ?_
  · rfl
  · simp [go_sem, execOp, Conc.rcase, Act.eval]
  go_wp2_with fail
  -- behind the select: its second case has an empty body
  refine wpN_of_wp ?_
  go_wp2_with fail
  -- region 17: Lock
  refine wpN_seqF fun K hK => ?_
  go_wp2_with fail
  refine (lock_free Yba.muLib ⟨B, 0, none⟩ _ b7.c0 (b7.fz 0)).mono ?_
  rintro e w8 ⟨rfl, hw8⟩
  have b8 : Bq w8 B 1 fr (.slice (some ⟨g, 0, none⟩) 1 cap) := by rw [hw8]; exact b7.set0 1
  have k8 : Kp [B] w7 w8 := by rw [hw8]; exact (Kp.refl _ _).setCell (by simp) _
  clear hw8
  have t8 := t7.kp k8 (by simpa using hBW.symm)
  have x8 := x7.kp k8 (by simpa using hBX.symm)
  have c8 := c7.kp k8 (by simpa using hBC.symm)
  have j8 := k8.heap j7 (by simpa using hBG.symm)
  have g8 := k8.heap g7 (by simpa using hBg.symm)
  have kk8 : Kp [B, C, g] w w8 := ((((k5.mono (by simp)).trans (k6.mono (by simp))).trans (k7.mono (by simp))).trans (k8.mono (by simp)))
  clear gX gW3 k8 k7 k6 k5 d7 d6 d5 t7 t6 t5 x7 x6 x5 c7 c6 c5 b7 b6 b5 j7 j6 j5 g7 g6 g5
  have gX := x8.c0
  have gW3 := t8.c3
  have g4 := b8.c4
  have z4 := b8.fz 4
  go_wp2_with fail
  -- region 18: defer
  refine wpN_seqF fun K hK => ?_
  go_wp2_with fail
  -- regions 19, 20: the second select
  refine wpN_seq fun K hK => ?_
  refine wpN_seqF fun K' hK' => ?_
  go_wp2_with fail
  refine wpN_seq fun K2 hK2 => ?_
  refine wpN_select_default (c := G) (cap := 0) (s := 0) (r := 0) (tm := false) (z := .agg #[]) ?_ ?_ j8 ?_
  · rfl
  · simp [go_sem, execOp, Conc.rcase, Act.eval]
  go_wp2_with fail
  refine wpN_of_wp ?_
  go_wp2_with fail
  -- the rest holds no communication
  refine wpN_of_wp ?_
  go_wp2_with fail
  have q0 : w8.cell? ⟨g, 0, none⟩ = some (.pointer (some ⟨W, 0, none⟩)) := (cell_of_row w8 g 0 _ _ _ g8).trans hc0
  refine (delete_one g cap ⟨W, 0, none⟩ ⟨X, 0, none⟩ w8 q0 (frozen_of_row w8 g 0 _ _ g8) x8.c0).mono ?_
  rintro e w9 ⟨rfl, hw9⟩
  have k9 : Kp [g] w8 w9 := by rw [hw9]; exact (Kp.refl _ _).setCell (by simp) _
  have g9 : w9.heap[g]? = some (.cells (cur.setIfInBounds 0 (.pointer none)) 44 (0, 0)) := by rw [hw9]; exact heap_setCell_same w8 g 0 _ _ _ g8
  clear hw9
  have b9 := b8.kp k9 (by simpa using hBg)
  have c9 := c8.kp k9 (by simpa using hCg)
  clear gX gW3 g4 z4 q0
  have g4 := b9.c4
  have z4 := b9.fz 4
  go_wp2_with fail
  -- region 23: grant, the line empty
  have b10 := b9.set4 (.slice (some ⟨g, 0, none⟩) 0 cap)
  have c10 : Cx (w9.setCell ⟨B, 4, none⟩ (.slice (some ⟨g, 0, none⟩) 0 cap)) C D x0 er 1 0 := c9.kp ((Kp.refl [B] w9).setCell (by simp) _) (by simpa using hBC.symm)
  have g10 := Kp.heap ((Kp.refl [B] w9).setCell (p := ⟨B, 4, none⟩) (by simp) (.slice (some ⟨g, 0, none⟩) 0 cap)) g9 (by simpa using hBg.symm)
  have k10 : Kp [B, C, g] w (w9.setCell ⟨B, 4, none⟩ (.slice (some ⟨g, 0, none⟩) 0 cap)) := (kk8.trans (k9.mono (by simp))).setCell (by simp) _
  generalize w9.setCell ⟨B, 4, none⟩ (.slice (some ⟨g, 0, none⟩) 0 cap) = w10 at b10 c10 g10 k10 ⊢
  refine (grant_empty B (some ⟨g, 0, none⟩) cap w10 b10.c4 (b10.fz 4)).mono ?_
  rw [b10.same4]
  rintro e w11 ⟨rfl, rfl⟩
  go_wp2_with fail
  -- region 24: ctx.Err()
  refine (err_any C 0 er w11 c10.c2 c10.c4 (c10.fz 4)).mono ?_
  rintro e w12 ⟨rfl, hw12⟩
  have c12 : Cx w12 C D x0 er 1 1 := by rw [hw12, show wrap64 (0 + 1) = 1 from by unfold wrap64; omega]; exact c10.set4 1
  have kC : Kp [C] w11 w12 := by rw [hw12]; exact (Kp.refl _ _).setCell (by simp) _
  clear hw12
  have b12 := b10.kp kC (by simpa using hBC)
  have g12 := kC.heap g10 (by simpa using hCg.symm)
  have k12 := k10.trans (kC.mono (by simp))
  go_wp2_with fail
  -- the door
  refine leaves_cons (f := 12) (args := #[.pointer (some ⟨B, 0, none⟩)]) (by simp) (by simp [go_sem]) ?_
  refine (unlock_deferred Yba.muLib ⟨B, 0, none⟩ .returning w12 b12.c0 (b12.fz 0)).mono ?_
  rintro e u' w13 ⟨rfl, rfl, hw13⟩
  have b13 : Bq w13 B 0 fr (.slice (some ⟨g, 0, none⟩) 0 cap) := by rw [hw13]; exact b12.set0 0
  have kB : Kp [B] w12 w13 := by rw [hw13]; exact (Kp.refl _ _).setCell (by simp) _
  clear hw13
  refine ⟨_, results_tmp rfl _ _ _, ?_⟩
  have g13 := kB.heap g12 (by simpa using hBg.symm)
  have hcm : cap ≤ maxLen ∧ N ≤ g := by
    rcases hown.2 with ⟨h', _⟩ | ⟨g', cap', cur', e, hb, _, _, hm, _⟩
    · simp at h'
    · simp at e
      obtain ⟨rfl, rfl⟩ := e
      exact ⟨hm, hb⟩
  exact hR w13 b13 (c12.kp kB (by simpa using hBC.symm)) ⟨rfl, .inr ⟨g, cap, _, rfl, hcm.2, g13, Nat.zero_le _, hcm.1, by simpa using hcs, by simp⟩⟩ (k12.trans (kB.mono (by simp)))
end Go.Proofs.Ybulkbasi
