import Derived.Test.YbulkbasiFmtP
namespace Go.Proofs.YbulkbasiFmt
open Go.RowKit
set_option maxRecDepth 100000

set_option maxHeartbeats 2000000 in
theorem clo_core0 (w W : World) (E : Env) (Y go co gw cw XB : Nat) (a1 a2 aw : Option Addr) (c1 c2 cww : Nat) (Fin : World → Prop)
    (hW : w.alloc (.cells #[.int .i64 0, .int .i64 0, .int .u64 18446744073709551615] 41) = W) (hXB : w.heap.size = XB)
    (d1 : W.cell? ⟨E.bc, 0, none⟩ = some (.int .i64 0)) (f1 : W.frozen? ⟨E.bc, 0, none⟩ = false) (d2 : W.cell? ⟨E.bnr, 0, none⟩ = some (.int .i64 1)) (d4 : W.cell? ⟨E.bn, 0, none⟩ = some (.int .i64 0))
    (d5 : W.cell? ⟨E.bo, 0, none⟩ = some (.slice (some ⟨go, 0, none⟩) 1 co)) (d6 : W.cell? ⟨E.bl, 0, none⟩ = some (.slice none 0 0)) (d7 : W.cell? ⟨E.bw, 0, none⟩ = some (.slice (some ⟨gw, 0, none⟩) 1 cw)) (d8 : W.cell? ⟨gw, 0, none⟩ = some (.slice aw Y cww))
    (hoA : W.cell? ⟨go, 0, none⟩ = some (.int .i64 0))
    (x0 : W.cell? ⟨XB, 0, none⟩ = some (.int .i64 0)) (x1 : W.cell? ⟨XB, 1, none⟩ = some (.int .i64 0)) (x2 : W.cell? ⟨XB, 2, none⟩ = some (.int .u64 18446744073709551615))
    (heq1 : ∀ m, Calls Ybaf.prog 11 #[.slice a1 0 c1, .slice none 0 0] (W.drewN m) fun e w' => e = .returned (.bool true) ∧ w' = W.drewN m)
    (heq2 : ∀ m, Calls Ybaf.prog 11 #[.slice a2 Y c2, .slice aw Y cww] (W.drewN m) fun e w' => e = .returned (.bool true) ∧ w' = W.drewN m)
    (hFin : ∀ m, Fin ((W.drewN m).setCell ⟨E.bc, 0, none⟩ (.int .i64 1))) :
    Calls Ybaf.prog 10 #[.agg #[.int .i64 0, .int .i64 0, .int .u64 18446744073709551615], .slice a1 0 c1, .slice a2 Y c2, .pointer (some ⟨E.bc, 0, none⟩), .pointer (some ⟨E.bnr, 0, none⟩), .pointer (some ⟨E.bok, 0, none⟩), .pointer (some ⟨E.bn, 0, none⟩), .pointer (some ⟨E.bo, 0, none⟩), .pointer (some ⟨E.bl, 0, none⟩), .pointer (some ⟨E.bw, 0, none⟩)] w fun e w' => e = .returned (.tuple #[]) ∧ Fin w' := by
  have HEN : Hid (∀ m, Fin ((W.drewN m).setCell ⟨E.bc, 0, none⟩ (.int .i64 1))) := hFin
  clear hFin
  go_enter Ybaf.func10, Ybaf.ntmps10
  go_wp2
  go_quiet (fail)
  go_wp2
  have hq1 : ∀ m, Calls Ybaf.prog 11 #[.slice a1 0 c1, .slice none 0 0] (W.drewN (nq + m)) fun e w' => e = .returned (.bool true) ∧ ∃ n, w' = W.drewN (nq + n) := fun m => (heq1 _).mono fun e w' h => ⟨h.1, m, h.2⟩
  go_quiet (first | (go_at_call 11; exact hq1 _))
  go_wp2_with (go_at_call 11; refine (heq2 _).mono ?_; rintro e w' ⟨rfl, rfl⟩)
  all_goals
    go_end0
    exact ⟨rfl, HEN.out _⟩

theorem clo_nil (w : World) (E : Env) (part : Nat → List (Nat × Nat)) (h : EnvOk w E [] 1 part 0) (hvp : ∀ k ∈ part 0, k.1 < 65536 ∧ k.2 < 16384)
    (a1 a2 : Option Addr) (c1 c2 : Nat) (hk : Sl w a1 c1 []) (hi : Sl w a2 c2 (bytesK (part 0))) :
    Calls Ybaf.prog 10 #[.agg #[.int .i64 0, .int .i64 0, .int .u64 18446744073709551615], .slice a1 0 c1, .slice a2 (bytesK (part 0)).length c2, .pointer (some ⟨E.bc, 0, none⟩), .pointer (some ⟨E.bnr, 0, none⟩), .pointer (some ⟨E.bok, 0, none⟩), .pointer (some ⟨E.bn, 0, none⟩), .pointer (some ⟨E.bo, 0, none⟩), .pointer (some ⟨E.bl, 0, none⟩), .pointer (some ⟨E.bw, 0, none⟩)] w fun e w' => e = .returned (.tuple #[]) ∧ EnvOk w' E [] 1 part 1 ∧ w.grownBy w' (some E.bc) := by
  obtain ⟨W, hW⟩ : ∃ W, W = w.alloc (.cells #[.int .i64 0, .int .i64 0, .int .u64 18446744073709551615] 41) := ⟨_, rfl⟩
  have hgW : w.grownBy W none := by rw [hW]; exact World.grownBy_alloc _ _ _
  have hX : W.heap[w.heap.size]? = some (.cells #[.int .i64 0, .int .i64 0, .int .u64 18446744073709551615] 41 (0, 0)) := by rw [hW]; exact heap_alloc_new _ _
  have hE := h.step hgW (fun R e => by simp at e)
  have hk1 := hk.kept hgW (fun R e => by simp at e)
  have hi1 := hi.kept hgW (fun R e => by simp at e)
  obtain ⟨go, co, ho1, arr, fr, ho2, ho3, ho4⟩ := hE.o
  obtain ⟨al, cl, hl1, hl2, _, hl3⟩ := hE.l
  obtain ⟨rfl, rfl⟩ := hl3 rfl
  obtain ⟨gw, cw, hw1, arrw, frw, hw2, hw3⟩ := hE.w'
  obtain ⟨aw, cww, hw4, hw5⟩ := hw3 0 (by omega)
  refine clo_core0 w W E (bytesK (part 0)).length go co gw cw w.heap.size a1 a2 aw c1 c2 cww (fun w' => EnvOk w' E [] 1 part 1 ∧ w.grownBy w' (some E.bc)) hW.symm rfl
    ((cell_of_row W _ 0 _ _ _ hE.c).trans rfl) (frozen_of_row W _ 0 _ _ hE.c) ((cell_of_row W _ 0 _ _ _ hE.nr).trans rfl) ((cell_of_row W _ 0 _ _ _ hE.n).trans rfl) ((cell_of_row W _ 0 _ _ _ ho1).trans rfl) ((cell_of_row W _ 0 _ _ _ hl1).trans rfl) ((cell_of_row W _ 0 _ _ _ hw1).trans rfl) ((cell_of_row W _ 0 _ _ _ hw2).trans hw4) ((cell_of_row W _ 0 _ _ _ ho2).trans (ho4 0 (Nat.le_refl _)))
    ((cell_of_row W _ 0 _ _ _ hX).trans rfl) ((cell_of_row W _ 1 _ _ _ hX).trans rfl) ((cell_of_row W _ 2 _ _ _ hX).trans rfl)
    (fun m => equal_any _ a1 none c1 0 [] (hk1.kept0 (gr_drewN W m)) ⟨Nat.le_refl _, fun ad e => by simp at e, fun _ => rfl⟩ (by simp)) (fun m => equal_any _ a2 aw c2 cww _ (hi1.kept0 (gr_drewN W m)) (hw5.kept0 (gr_drewN W m)) (bytesK_lt hvp)) (fun m => ⟨?_, ?_⟩)
  · exact (hE.step (gr_drewN W m).g (fun R e => by simp at e)).count
  · exact ((hgW.trans (gr_drewN W m).g).but _).trans (gr_setCell _ ⟨E.bc, 0, none⟩ _).g
end Go.Proofs.YbulkbasiFmt
