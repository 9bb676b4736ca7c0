import Derived.Test.YbulkbasiWalkG
namespace Go.Proofs.Ybulkbasi
open Go.RowKit
open Go.MuLone

set_option maxHeartbeats 1000000 in
set_option maxRecDepth 10000 in
theorem await_no (B W C D N : Nat) (fr n : Int) (y : Bool) (a : Option Addr) (c : Nat) (x0 er : Value) (w : World) (h : Bq w B 0 fr (.slice a 0 c)) (hW : Wt w W n y (.chan none)) (hC : Cx w C D x0 er 0 0) (hD : w.heap[D]? = some (.chan 0 #[] true 0 0 false))
    (hown : w.ownsRow N 44 1 (.slice a 0 c) 0 []) (hN : N ≤ w.heap.size) (hWB : W ≠ B) (hWC : W ≠ C) (hCB : C ≠ B) (hlt : fr < n) :
    Calls Yba.prog 8 #[.pointer (some ⟨B, 0, none⟩), .iface 39 (.pointer (some ⟨C, 0, none⟩)), .pointer (some ⟨W, 0, none⟩)] w fun e w' => ∃ g c', e = .returned er ∧ Bq w' B 0 fr (.slice (some ⟨g, 0, none⟩) 0 c') ∧
      Cx w' C D x0 er 1 1 ∧ w'.ownsRow N 44 1 (.slice (some ⟨g, 0, none⟩) 0 c') 0 [] ∧ Kp (B :: W :: C :: (Value.slice a 0 c).ownBlock.toList) w w' := by
  have hm0 := mk0
  have kA : Kp [] w (w.alloc (.cells #[.pointer (some ⟨W, 0, none⟩)] 44)) := (Kp.refl _ _).alloc _
  have hA := h.kp kA (by simp)
  have xA : Bx (w.alloc (.cells #[.pointer (some ⟨W, 0, none⟩)] 44)) w.heap.size W := heap_alloc_new _ _
  have hXB : w.heap.size ≠ B := by have := h.lt; omega
  have hno : decide (n ≤ fr) = false := decide_eq_false (by omega)
  refine calls_of_wpN_defers Yba.func8 rfl ?_
  simp only [Yba.ntmps8, List.size_toArray, List.length_cons, List.length_nil, Nat.reduceAdd, Nat.reduceSub, Array.replicate_succ, Array.replicate_zero, List.push_toArray, List.append_toArray, List.nil_append, List.cons_append]
  -- region 0: the box; region 1: Lock
  refine wpN_seqF fun K hK => ?_
  go_wp2_with fail
  refine wpN_seqF fun K hK => ?_
  go_wp2_with fail
  refine (lock_free Yba.muLib ⟨B, 0, none⟩ _ hA.c0 (hA.fz 0)).mono ?_
  rintro e w1 ⟨rfl, hw1⟩
  have k1 : Kp [B] (w.alloc (.cells #[.pointer (some ⟨W, 0, none⟩)] 44)) w1 := by rw [hw1]; exact (Kp.refl _ _).setCell (by simp) _
  have b1 : Bq w1 B 1 fr (.slice a 0 c) := by rw [hw1]; exact hA.set0 1
  clear hw1
  have x1 := xA.kp k1 (by simpa using hXB)
  have kk1 : Kp [B] w w1 := ((Kp.refl [B] w).alloc _).trans k1
  have t1 := hW.kp kk1 (by simpa using hWB)
  have hs1 : w.heap.size + 1 ≤ w1.heap.size := by have := k1.size; simpa using this
  clear k1 kA hA xA
  have g4 := b1.c4
  have gX := x1.c0
  have gW1 := t1.c1
  have gW3 := t1.c3
  have fW3 := t1.fz 3
  go_wp2_with fail
  -- region 2: the test
  refine wpN_seqF fun K hK => ?_
  go_wp2_with (go_at_call 16; refine (fits_no B W n fr _ b1.c2 t1.c0 hno).mono ?_; rintro e w2 ⟨rfl, nk, rfl⟩)
  -- region 6
  have qX : ∀ m o, ((w1.drewN m).alloc o).cell? ⟨w.heap.size, 0, none⟩ = some (.pointer (some ⟨W, 0, none⟩)) := fun m o => (x1.kp (((Kp.refl [] w1).drewN m).alloc o) (by simp)).c0
  have qW : ∀ m o, ((w1.drewN m).alloc o).cell? ⟨W, 3, none⟩ = some (.chan none) := fun m o => (t1.kp (((Kp.refl [] w1).drewN m).alloc o) (by simp)).c3
  have qF : ∀ m o, ((w1.drewN m).alloc o).frozen? ⟨W, 3, none⟩ = false := fun m o => (t1.kp (((Kp.refl [] w1).drewN m).alloc o) (by simp)).fz 3
  refine wpN_seqF fun K hK => ?_
  go_wp2_with fail
  go_region
  have k2 : Kp [W] w1 (((w1.drewN (nk + 1)).alloc (.chan 0 #[] false 0 0 false)).setCell ⟨W, 3, none⟩ (.chan (some w1.heap.size))) := (((Kp.refl _ _).drewN _).alloc _).setCell (by simp) _
  have t2 : Wt (((w1.drewN (nk + 1)).alloc (.chan 0 #[] false 0 0 false)).setCell ⟨W, 3, none⟩ (.chan (some w1.heap.size))) W n y (.chan (some w1.heap.size)) :=
    (t1.kp (((Kp.refl [] w1).drewN (nk + 1)).alloc (.chan 0 #[] false 0 0 false)) (by simp)).set3 _
  have c2 : (((w1.drewN (nk + 1)).alloc (.chan 0 #[] false 0 0 false)).setCell ⟨W, 3, none⟩ (.chan (some w1.heap.size))).heap[w1.heap.size]? = some (.chan 0 #[] false 0 0 false) :=
    (heap_setCell_other _ _ _ _ (by have := t1.lt; show w1.heap.size ≠ W; omega)).trans (heap_alloc_new (w1.drewN (nk + 1)) _)
  generalize ((w1.drewN (nk + 1)).alloc (.chan 0 #[] false 0 0 false)).setCell ⟨W, 3, none⟩ (.chan (some w1.heap.size)) = w2 at k2 t2 c2 ⊢
  have hGW : w1.heap.size ≠ W := by have := t1.lt; omega
  have hGB : w1.heap.size ≠ B := by have := b1.lt; omega
  have hGX : w1.heap.size ≠ w.heap.size := by omega
  have hG1 : w.heap.size < w1.heap.size := by omega
  generalize w1.heap.size = G at t2 c2 hGW hGB hGX hG1 ⊢
  have b2 := b1.kp k2 (by simpa using hWB.symm)
  have x2 := x1.kp k2 (by have := hW.lt; simp; omega)
  have kk2 : Kp [B, W] w w2 := (kk1.mono (by simp)).trans (k2.mono (by simp))
  clear g4 gX gW1 gW3 fW3 qX qW qF x1 t1 b1 k2
  have g4 := b2.c4
  have gX := x2.c0
  have gW1 := t2.c1
  have gW3 := t2.c3
  go_wp2_with fail
  -- region 7, the loop that stands still
  refine wpN_seqF fun K hK => ?_
  go_wp2_with fail
  refine wpN_seqF fun K hK => ?_
  go_wp2_with fail
  refine wp_loop_rounds 1 ?_
  rw [rounds_succ]
  have o2 : w2.ownsRow N 44 1 (.slice a 0 c) 0 [] := own_kp hown kk2 (by
    intro x hx
    simp at hx
    rcases hx with rfl | rfl
    · exact own_ne hown h (by decide)
    · exact own_ne hown hW (by decide))
  have qX : ∀ o, (w2.alloc o).cell? ⟨w.heap.size, 0, none⟩ = some (.pointer (some ⟨W, 0, none⟩)) := fun o => (x2.kp ((Kp.refl [] w2).alloc o) (by simp)).c0
  have qB : ∀ o, (w2.alloc o).cell? ⟨B, 4, none⟩ = some (.slice a 0 c) := fun o => (b2.kp ((Kp.refl [] w2).alloc o) (by simp)).c4
  have kT : Kp [] w2 (w2.alloc (.cells #[.pointer (some ⟨W, 0, none⟩)] 44)).drew := ((Kp.refl _ _).alloc _).drew
  have oT := own_kp o2 kT (by simp)
  have hT : (w2.alloc (.cells #[.pointer (some ⟨W, 0, none⟩)] 44)).drew.heap[w2.heap.size]? = some (.cells #[.pointer (some ⟨W, 0, none⟩)] 44 (0, 0)) := heap_alloc_new w2 _
  have hNT : N ≤ (w2.alloc (.cells #[.pointer (some ⟨W, 0, none⟩)] 44)).drew.heap.size := Nat.le_trans hN (Nat.le_trans kk2.size kT.size)
  have bT := b2.kp kT (by simp)
  have nB := own_ne oT bT (by decide)
  have hTh : Hid (Kp [] w2 (w2.alloc (.cells #[.pointer (some ⟨W, 0, none⟩)] 44)).drew) := kT
  have oTh : Hid ((w2.alloc (.cells #[.pointer (some ⟨W, 0, none⟩)] 44)).drew.ownsRow N 44 1 (.slice a 0 c) 0 []) := oT
  have hTT : Hid ((w2.alloc (.cells #[.pointer (some ⟨W, 0, none⟩)] 44)).drew.heap[w2.heap.size]? = some (.cells #[.pointer (some ⟨W, 0, none⟩)] 44 (0, 0))) := hT
  have nBh : Hid ((Value.slice a 0 c).ownBlock ≠ some B) := nB
  clear kT oT hT nB
  cases y
  all_goals
    go_wp2_with fail
    refine wpN_seqF fun K hK => ?_
    go_wp2_with fail
    go_region_with (go_at_call 18; refine (insert_any a c w2.heap.size N (.pointer (some ⟨W, 0, none⟩)) rfl _ oTh.out hTT.out hNT).mono ?_; rintro e w3 ⟨g, cap, rfl, o3, g3, l3⟩; have b3 := bT.kp (kp_of_grown g3) (by simpa using nBh.out); have g43 := b3.c4; have z43 := b3.fz 4)
  all_goals
    have kR := kp_of_grown g3
    have nX : w.heap.size ∉ (Value.slice a 0 c).ownBlock.toList := by
      intro hx
      have := (hown.lt w.heap.size (by simpa using hx)).2
      omega
    have wT := t2.kp hTh.out (by simp)
    have xT := x2.kp hTh.out (by simp)
    have cT := (hC.kp kk2 (by simp; exact ⟨hCB, hWC.symm⟩)).kp hTh.out (by simp)
    have dT := hTh.out.heap (kk2.heap hD (by simp; exact ⟨fun e => blk_ne h hD chan_ne e.symm, fun e => blk_ne hW hD chan_ne e.symm⟩)) (by simp)
    have jT := hTh.out.heap c2 (by simp)
    have w3W := wT.kp kR (by simpa using own_ne oTh.out wT (by decide))
    have w3X := xT.kp kR nX
    have w3C := cT.kp kR (by simpa using own_ne oTh.out cT (by decide))
    have w3D := kR.heap dT (by simpa using own_ne_chan oTh.out dT)
    have w3G := kR.heap jT (by simpa using own_ne_chan oTh.out jT)
    have kS : Kp [B] w3 (w3.setCell ⟨B, 4, none⟩ (.slice (some ⟨g, 0, none⟩) 1 cap)) := (Kp.refl _ _).setCell (by simp) _
    go_wp2_with fail
    refine await_rest B W C D G w.heap.size g cap N fr n _ x0 er _ _ (b3.set4 _) (w3W.kp kS (by simpa using hWB)) (w3X.kp kS (by simpa using hXB)) (w3C.kp kS (by simpa using hCB)) (kS.heap w3D (by simpa using (blk_ne b3 w3D chan_ne).symm)) (kS.heap w3G (by simpa using (blk_ne b3 w3G chan_ne).symm))
      (own_kp o3 kS (by simpa using fun e => own_ne o3 b3 (by decide) (by simpa [Value.ownBlock] using e))) hlt (fun w' q1 q2 q3 q4 => ?_) _ _ _ _ _ _ _ _ _ _ _ _ _ _ _ _ _ _ _ _ _ _ _ _ _ _ _ _ _ _ _ _ _ _ _ _ _ _ _ _ _ _ _ _ _ _ _ _ _ _ _ _ _ _ _ _ _ _ _ _ _ _ _ _ _ _ _ _ _ _ _ _ _ _ _ _ _ _ _ _ _ _ _ _ _ _ _ _ _ _ _ _ _ _ _ _ _ _ _ _ _ _ _ _ _ _ _ _ _ _ _ _ _
    refine ⟨g, cap, rfl, q1, q2, q3, ?_⟩
    refine (((((kk2.mono (T := B :: W :: C :: (Value.slice a 0 c).ownBlock.toList) (by simp)).trans (hTh.out.mono (by simp))).trans (kR.mono (by intro x hx; simp [hx]))).trans (kS.mono (by simp))).trans_new q4 ?_)
    intro x hx
    simp only [List.mem_cons, List.not_mem_nil, or_false] at hx
    rcases hx with rfl | rfl | rfl
    · left; simp
    · left; simp
    · rcases l3 with l3 | l3
      · left; rw [l3]; simp
      · right; rw [l3]; exact Nat.le_trans kk2.size hTh.out.size
end Go.Proofs.Ybulkbasi
