import Derived.Test.YbulkbasiFmtP
namespace Go.Proofs.YbulkbasiFmt
open Go.RowKit
set_option maxRecDepth 100000

theorem off_split (lk : List (Nat × Nat)) (lo hi : Nat) (h : lo ≤ hi) : bytesK lk = bytesK (lk.take lo) ++ bytesK ((lk.take hi).drop lo) ++ bytesK (lk.drop hi) := by
  rw [← bytesK_append, ← bytesK_append]
  congr 1
  have : lk.take lo = (lk.take hi).take lo := by rw [List.take_take]; congr 1; omega
  rw [this, List.take_append_drop, List.take_append_drop]

set_option maxHeartbeats 4000000 in
/-- The law's function, in numbers. -/
theorem clo_core (w W : World) (E : Env) (nR j n N1 LO HI D NW A B2 X Y L go co gl cl gw cw XB : Nat) (a1 a2 aw : Option Addr) (c1 c2 cww : Nat) (Fin : World → Prop)
    (hW : w.alloc (.cells #[.int .i64 (A : Int), .int .i64 (D : Int), .int .u64 (NW : Int)] 41) = W) (hXB : w.heap.size = XB)
    (hN1 : n < N1) (hj : j < nR) (hnR : nR ≤ 100) (hn : n ≤ 1000) (hLO : (j : Int) * 64 = (LO : Int)) (hLH : LO ≤ HI) (hHn : HI ≤ n) (hD : D = HI - LO) (hAX : A + X ≤ L) (hB2 : B2 = A + X) (hL : L ≤ cl) (_hL2 : L ≤ 90000)
    (hc1 : (((j : Int) == (nR : Int) - 1) = true ∧ HI = n) ∨ (((j : Int) == (nR : Int) - 1) = false ∧ (LO : Int) + 64 = (HI : Int)))
    (hc2 : ((128 : Int) ≤ (n : Int) ∧ NW = HI) ∨ ((n : Int) < 128 ∧ NW = 18446744073709551615))
    (d1 : W.cell? ⟨E.bc, 0, none⟩ = some (.int .i64 (j : Int))) (f1 : W.frozen? ⟨E.bc, 0, none⟩ = false) (d2 : W.cell? ⟨E.bnr, 0, none⟩ = some (.int .i64 (nR : Int))) (d4 : W.cell? ⟨E.bn, 0, none⟩ = some (.int .i64 (n : Int)))
    (d5 : W.cell? ⟨E.bo, 0, none⟩ = some (.slice (some ⟨go, 0, none⟩) N1 co)) (d6 : W.cell? ⟨E.bl, 0, none⟩ = some (.slice (some ⟨gl, 0, none⟩) L cl)) (d7 : W.cell? ⟨E.bw, 0, none⟩ = some (.slice (some ⟨gw, 0, none⟩) nR cw)) (d8 : W.cell? ⟨gw, j, none⟩ = some (.slice aw Y cww))
    (hoA : W.cell? ⟨go, LO, none⟩ = some (.int .i64 (A : Int))) (hoB : W.cell? ⟨go, HI, none⟩ = some (.int .i64 (B2 : Int)))
    (x0 : W.cell? ⟨XB, 0, none⟩ = some (.int .i64 (A : Int))) (x1 : W.cell? ⟨XB, 1, none⟩ = some (.int .i64 (D : Int))) (x2 : W.cell? ⟨XB, 2, none⟩ = some (.int .u64 (NW : Int)))
    (heq1 : ∀ m, Calls Ybaf.prog 11 #[.slice a1 X c1, .slice (if cl = A then some ⟨gl, 0, none⟩ else some ⟨gl, A, none⟩) X (cl - A)] (W.drewN m) fun e w' => e = .returned (.bool true) ∧ w' = W.drewN m)
    (heq2 : ∀ m, Calls Ybaf.prog 11 #[.slice a2 Y c2, .slice aw Y cww] (W.drewN m) fun e w' => e = .returned (.bool true) ∧ w' = W.drewN m)
    (hFin : ∀ m, Fin ((W.drewN m).setCell ⟨E.bc, 0, none⟩ (.int .i64 ((j : Int) + 1)))) :
    Calls Ybaf.prog 10 #[.agg #[.int .i64 (A : Int), .int .i64 (D : Int), .int .u64 (NW : Int)], .slice a1 X c1, .slice a2 Y c2, .pointer (some ⟨E.bc, 0, none⟩), .pointer (some ⟨E.bnr, 0, none⟩), .pointer (some ⟨E.bok, 0, none⟩), .pointer (some ⟨E.bn, 0, none⟩), .pointer (some ⟨E.bo, 0, none⟩), .pointer (some ⟨E.bl, 0, none⟩), .pointer (some ⟨E.bw, 0, none⟩)] w fun e w' => e = .returned (.tuple #[]) ∧ Fin w' := by
  have hj1 : (j : Int) < (nR : Int) := by omega
  have hwD : IntKind.i64.wrap ((HI : Int) - (LO : Int)) = (D : Int) := by rw [IntKind.wrap_i64]; omega
  have hb1 : (LO : Int) < (N1 : Int) := by omega
  have hb2 : (HI : Int) < (N1 : Int) := by omega
  have hb3 : (0 : Int) ≤ (LO : Int) := by omega
  have hb4 : (0 : Int) ≤ (HI : Int) := by omega
  have hjb : (j : Int) ≤ 100 := by omega
  have hs1 : (0 : Int) ≤ (A : Int) := by omega
  have hs2 : (A : Int) ≤ (B2 : Int) := by omega
  have hs3 : (B2 : Int) ≤ (cl : Int) := by omega
  have hs4 : B2 - A = X := by omega
  clear hB2
  have HD : Hid (D = HI - LO) := hD
  have HEN : Hid (∀ m, Fin ((W.drewN m).setCell ⟨E.bc, 0, none⟩ (.int .i64 ((j : Int) + 1)))) := hFin
  clear hFin hD
  rcases hc1 with ⟨hc1, rfl⟩ | ⟨hc1, hc1'⟩ <;> rcases hc2 with ⟨hc2, rfl⟩ | ⟨hc2, rfl⟩
  all_goals
    try (rw [show ((18446744073709551615 : Nat) : Int) = 18446744073709551615 from rfl] at hW x2 ⊢)
    go_enter Ybaf.func10, Ybaf.ntmps10
    go_wp2
    go_quiet (fail)
    go_wp2
    have hq1 : ∀ m, Calls Ybaf.prog 11 #[.slice a1 X c1, .slice (if cl = A then some ⟨gl, 0, none⟩ else some ⟨gl, A, none⟩) X (cl - A)] (W.drewN (nq + m)) fun e w' => e = .returned (.bool true) ∧ ∃ n, w' = W.drewN (nq + n) := fun m => (heq1 _).mono fun e w' h => ⟨h.1, m, h.2⟩
    go_quiet (first | (go_at_call 11; exact hq1 _))
    go_wp2_with (go_at_call 11; refine (heq2 _).mono ?_; rintro e w' ⟨rfl, rfl⟩)
    all_goals
      go_end0
      exact ⟨rfl, HEN.out _⟩
theorem clo_any (w : World) (E : Env) (lk : List (Nat × Nat)) (nR : Nat) (part : Nat → List (Nat × Nat)) (j : Nat) (h : EnvOk w E lk nR part j) (hj : j < nR) (hnR : nR ≤ 100) (hlk : lk ≠ []) (hn : lk.length ≤ 1000) (hle : 64 * j ≤ hiR lk.length nR j) (hhi : hiR lk.length nR j ≤ lk.length) (hval : ∀ k ∈ lk, k.1 < 65536 ∧ k.2 < 16384) (hvp : ∀ k ∈ part j, k.1 < 65536 ∧ k.2 < 16384)
    (a1 a2 : Option Addr) (c1 c2 : Nat) (hk : Sl w a1 c1 (bytesK ((lk.take (hiR lk.length nR j)).drop (64 * j)))) (hi : Sl w a2 c2 (bytesK (part j))) :
    Calls Ybaf.prog 10 #[.agg #[.int .i64 (off lk (64 * j) : Int), .int .i64 ((hiR lk.length nR j - 64 * j : Nat) : Int), .int .u64 (nwR lk.length nR j : Int)], .slice a1 (bytesK ((lk.take (hiR lk.length nR j)).drop (64 * j))).length c1, .slice a2 (bytesK (part j)).length c2, .pointer (some ⟨E.bc, 0, none⟩), .pointer (some ⟨E.bnr, 0, none⟩), .pointer (some ⟨E.bok, 0, none⟩), .pointer (some ⟨E.bn, 0, none⟩), .pointer (some ⟨E.bo, 0, none⟩), .pointer (some ⟨E.bl, 0, none⟩), .pointer (some ⟨E.bw, 0, none⟩)] w fun e w' => e = .returned (.tuple #[]) ∧ EnvOk w' E lk nR part (j + 1) ∧ w.grownBy w' (some E.bc) := by
  have hbl := bytesK_le lk
  have hjn : 64 * j ≤ lk.length := by omega
  obtain ⟨W, hW⟩ : ∃ W, W = w.alloc (.cells #[.int .i64 (off lk (64 * j) : Int), .int .i64 ((hiR lk.length nR j - 64 * j : Nat) : Int), .int .u64 (nwR lk.length nR j : Int)] 41) := ⟨_, rfl⟩
  have hgW : w.grownBy W none := by rw [hW]; exact World.grownBy_alloc _ _ _
  have hX : W.heap[w.heap.size]? = some (.cells #[.int .i64 (off lk (64 * j) : Int), .int .i64 ((hiR lk.length nR j - 64 * j : Nat) : Int), .int .u64 (nwR lk.length nR j : Int)] 41 (0, 0)) := by rw [hW]; exact heap_alloc_new _ _
  have hE := h.step hgW (fun R e => by simp at e)
  have hk1 := hk.kept hgW (fun R e => by simp at e)
  have hi1 := hi.kept hgW (fun R e => by simp at e)
  have hsp := off_split lk (64 * j) (hiR lk.length nR j) hle
  obtain ⟨go, co, ho1, arr, fr, ho2, ho3, ho4⟩ := hE.o
  obtain ⟨al, cl, hl1, hl2, hl3, _⟩ := hE.l
  obtain ⟨gl, rfl⟩ := hl3 hlk
  obtain ⟨gw, cw, hw1, arrw, frw, hw2, hw3⟩ := hE.w'
  obtain ⟨aw, cww, hw4, hw5⟩ := hw3 j hj
  have hov : ∀ i, i ≤ lk.length → W.cell? ⟨go, i, none⟩ = some (.int .i64 (off lk i : Int)) := fun i hi => (cell_of_row W go i _ _ _ ho2).trans (ho4 i hi)
  have hoff2 : off lk (hiR lk.length nR j) = off lk (64 * j) + (bytesK ((lk.take (hiR lk.length nR j)).drop (64 * j))).length := by
    unfold off
    rw [← List.length_append, ← bytesK_append]
    have e : lk.take (64 * j) = (lk.take (hiR lk.length nR j)).take (64 * j) := by rw [List.take_take]; congr 1; omega
    rw [e, List.take_append_drop]
  have hAX : off lk (64 * j) + (bytesK ((lk.take (hiR lk.length nR j)).drop (64 * j))).length ≤ (bytesK lk).length := by
    have := congrArg List.length hsp
    rw [List.length_append, List.length_append] at this
    have e : (bytesK (lk.take (64 * j))).length = off lk (64 * j) := rfl
    omega
  have hmid : Sl W (if cl = off lk (64 * j) then some ⟨gl, 0, none⟩ else some ⟨gl, off lk (64 * j), none⟩) (cl - off lk (64 * j)) (bytesK ((lk.take (hiR lk.length nR j)).drop (64 * j))) := by
    have hl2' := hl2
    rw [hsp] at hl2'
    have hm := hl2'.mid
    rw [Nat.zero_add] at hm
    exact hm
  have hbv1 := bytesK_lt (ks := (lk.take (hiR lk.length nR j)).drop (64 * j)) (fun k hk => hval k (List.mem_of_mem_take (List.mem_of_mem_drop hk)))
  refine clo_core w W E nR j lk.length (lk.length + 1) (64 * j) (hiR lk.length nR j) (hiR lk.length nR j - 64 * j) (nwR lk.length nR j) (off lk (64 * j)) (off lk (hiR lk.length nR j)) (bytesK ((lk.take (hiR lk.length nR j)).drop (64 * j))).length (bytesK (part j)).length (bytesK lk).length go co gl cl gw cw w.heap.size a1 a2 aw c1 c2 cww (fun w' => EnvOk w' E lk nR part (j + 1) ∧ w.grownBy w' (some E.bc))
    hW.symm rfl (by omega) hj hnR hn (by omega) hle hhi rfl hAX hoff2 hl2.le (by omega) ?_ ?_
    ((cell_of_row W _ 0 _ _ _ hE.c).trans rfl) (frozen_of_row W _ 0 _ _ hE.c) ((cell_of_row W _ 0 _ _ _ hE.nr).trans rfl) ((cell_of_row W _ 0 _ _ _ hE.n).trans rfl) ((cell_of_row W _ 0 _ _ _ ho1).trans rfl) ((cell_of_row W _ 0 _ _ _ hl1).trans rfl) ((cell_of_row W _ 0 _ _ _ hw1).trans rfl) ((cell_of_row W _ j _ _ _ hw2).trans hw4) (hov _ (by omega)) (hov _ hhi)
    ((cell_of_row W _ 0 _ _ _ hX).trans rfl) ((cell_of_row W _ 1 _ _ _ hX).trans rfl) ((cell_of_row W _ 2 _ _ _ hX).trans rfl)
    (fun m => equal_any _ a1 _ c1 _ _ (hk1.kept0 (gr_drewN W m)) (hmid.kept0 (gr_drewN W m)) hbv1) (fun m => equal_any _ a2 aw c2 cww _ (hi1.kept0 (gr_drewN W m)) (hw5.kept0 (gr_drewN W m)) (bytesK_lt hvp)) (fun m => ⟨?_, ?_⟩)
  · unfold hiR
    by_cases hjl : j = nR - 1
    · rw [if_pos hjl]
      exact .inl ⟨by simp; omega, rfl⟩
    · rw [if_neg hjl]
      refine .inr ⟨?_, by omega⟩
      rw [beq_eq_false_iff_ne]
      omega
  · unfold nwR
    by_cases h128 : 128 ≤ lk.length
    · rw [if_pos h128]
      exact .inl ⟨by omega, rfl⟩
    · rw [if_neg h128]
      exact .inr ⟨by omega, rfl⟩
  · exact (hE.step (gr_drewN W m).g (fun R e => by simp at e)).count
  · exact ((hgW.trans (gr_drewN W m).g).but _).trans (gr_setCell _ ⟨E.bc, 0, none⟩ _).g
end Go.Proofs.YbulkbasiFmt
