import Derived.Test.YbulkbasiWalkD
namespace Go.Proofs.Ybulkbasi
open Go.RowKit
open Go.MuLone

/-- The wait at block W. -/
def Wt (w : World) (W : Nat) (n : Int) (y : Bool) (ch : Value) : Prop := w.heap[W]? = some (.cells #[.int .i64 n, .bool y, .pointer none, ch] 48 (0, 0))
section
variable {w : World} {W : Nat} {n : Int} {y : Bool} {ch : Value}
theorem Wt.c0 (h : Wt w W n y ch) : w.cell? ⟨W, 0, none⟩ = some (.int .i64 n) := by rw [cell_of_row w W 0 _ _ _ h]; rfl
theorem Wt.c1 (h : Wt w W n y ch) : w.cell? ⟨W, 1, none⟩ = some (.bool y) := by rw [cell_of_row w W 1 _ _ _ h]; rfl
theorem Wt.c2 (h : Wt w W n y ch) : w.cell? ⟨W, 2, none⟩ = some (.pointer none) := by rw [cell_of_row w W 2 _ _ _ h]; rfl
theorem Wt.c3 (h : Wt w W n y ch) : w.cell? ⟨W, 3, none⟩ = some ch := by rw [cell_of_row w W 3 _ _ _ h]; rfl
theorem Wt.fz (h : Wt w W n y ch) (i : Nat) : w.frozen? ⟨W, i, none⟩ = false := frozen_of_row w W i _ _ h
theorem Wt.lt (h : Wt w W n y ch) : W < w.heap.size := lt_of_heap h
theorem Wt.set3 (h : Wt w W n y ch) (ch' : Value) : Wt (w.setCell ⟨W, 3, none⟩ ch') W n y ch' := heap_setCell_same w W 3 _ _ _ h
theorem Wt.kp {w' : World} {S : List Nat} (h : Wt w W n y ch) (k : Kp S w w') (hB : W ∉ S) : Wt w' W n y ch := k.heap h hB
end
/-- A variable that a closure captures: a block of one cell. -/
def Bx (w : World) (X : Nat) (W : Nat) : Prop := w.heap[X]? = some (.cells #[.pointer (some ⟨W, 0, none⟩)] 44 (0, 0))
section
variable {w : World} {X W : Nat}
theorem Bx.c0 (h : Bx w X W) : w.cell? ⟨X, 0, none⟩ = some (.pointer (some ⟨W, 0, none⟩)) := by rw [cell_of_row w X 0 _ _ _ h]; rfl
theorem Bx.kp {w' : World} {S : List Nat} (h : Bx w X W) (k : Kp S w w') (hB : X ∉ S) : Bx w' X W := k.heap h hB
theorem Bx.lt (h : Bx w X W) : X < w.heap.size := lt_of_heap h
end

set_option maxHeartbeats 1000000 in
set_option maxRecDepth 10000 in
theorem await_yes (B W : Nat) (cx : Value) (fr n : Int) (y : Bool) (a : Option Addr) (c : Nat) (w : World) (h : Bq w B 0 fr (.slice a 0 c)) (hW : Wt w W n y (.chan none)) (hne : W ≠ B) (hle : n ≤ fr) :
    Calls Yba.prog 8 #[.pointer (some ⟨B, 0, none⟩), cx, .pointer (some ⟨W, 0, none⟩)] w fun e w' => e = .returned .nilIface ∧ Bq w' B 0 (wrap64 (fr - n)) (.slice a 0 c) ∧ Kp [B] w w' := by
  have kA : Kp [B] w (w.alloc (.cells #[.pointer (some ⟨W, 0, none⟩)] 44)) := (Kp.refl _ _).alloc _
  have kA0 : Kp [] w (w.alloc (.cells #[.pointer (some ⟨W, 0, none⟩)] 44)) := (Kp.refl _ _).alloc _
  have hA := h.kp kA0 (by simp)
  have xA : Bx (w.alloc (.cells #[.pointer (some ⟨W, 0, none⟩)] 44)) w.heap.size W := heap_alloc_new _ _
  have hXB : w.heap.size ≠ B := by have := h.lt; omega
  go_enter_defers Yba.func8, Yba.ntmps8
  go_wp2_with fail
  refine (lock_free Yba.muLib ⟨B, 0, none⟩ _ hA.c0 (hA.fz 0)).mono ?_
  rintro e w1 ⟨rfl, hw1⟩
  have k1 : Kp [B] (w.alloc (.cells #[.pointer (some ⟨W, 0, none⟩)] 44)) w1 := by rw [hw1]; exact (Kp.refl _ _).setCell (by simp) _
  have b1 : Bq w1 B 1 fr (.slice a 0 c) := by rw [hw1]; exact hA.set0 1
  have x1 := xA.kp k1 (by simpa using hXB)
  have t1 := hW.kp (kA.trans k1) (by simpa using hne)
  have kk1 := kA.trans k1
  clear hw1 k1 kA kA0 hA xA
  have g4 := b1.c4
  have gX := x1.c0
  go_wp2_with fail
  refine (fits_yes B W n fr _ b1.c2 t1.c0 t1.c2 hle).mono ?_
  rintro e w2 ⟨rfl, nk, rfl⟩
  go_wp2_with fail
  refine (hand_any B W n fr (w1.drewN nk) b1.c2 (b1.fz 2) t1.c0 t1.c2 hne).mono ?_
  rintro e w2 ⟨rfl, hw2⟩
  have b2 : Bq w2 B 1 (wrap64 (fr - n)) (.slice a 0 c) := by rw [hw2]; exact Bq.set2 (w := w1.drewN nk) b1 (wrap64 (fr - n))
  have k2 : Kp [B] w w2 := by rw [hw2]; exact ((kk1.drewN nk).setCell (by simp) _).drew
  clear hw2
  go_wp2_with fail
  refine (unlock_held Yba.muLib ⟨B, 0, none⟩ _ b2.c0 (b2.fz 0)).mono ?_
  rintro e w3 ⟨rfl, hw3⟩
  have b3 : Bq w3 B 0 (wrap64 (fr - n)) (.slice a 0 c) := by rw [hw3]; exact b2.set0 0
  have k3 : Kp [B] w w3 := by rw [hw3]; exact k2.setCell (by simp) _
  clear hw3
  go_wp2
  go_outline
  exact ⟨_, results_tmp rfl _ _ _, rfl, b3, k3⟩
end Go.Proofs.Ybulkbasi
