import Derived.Test.YbulkbasiWalkE
import Derived.Test.YbulkbasiSel
import Derived.Deep.RegionWith
namespace Go.Proofs.Ybulkbasi
open Go.RowKit
open Go.MuLone

theorem Kp.mono {S T : List Nat} {a b : World} (h : Kp S a b) (hs : ∀ x ∈ S, x ∈ T) : Kp T a b := ⟨h.os, h.tape, h.output, h.size, fun k hk ht => h.block k hk (fun hx => ht (hs k hx))⟩

theorem own_ne {w : World} {N : Nat} {v : Value} {n k : Nat} {xs : List Value} {cs : Array Value} {t : TypeId} {f : Nat × Nat} (h : w.ownsRow N 44 1 v n xs) (hk : w.heap[k]? = some (.cells cs t f)) (ht : t ≠ 44) : v.ownBlock ≠ some k := by
  intro e
  rcases h.2 with ⟨rfl, _⟩ | ⟨g, cap, cur, rfl, _, hg, _⟩
  · simp [Value.ownBlock] at e
  · simp [Value.ownBlock] at e
    subst e
    rw [hg] at hk
    simp at hk
    exact ht hk.2.1.symm
theorem own_ne_chan {w : World} {N : Nat} {v : Value} {n k : Nat} {xs : List Value} {a b c : Nat} {ys : Array Value} {p q : Bool} (h : w.ownsRow N 44 1 v n xs) (hk : w.heap[k]? = some (.chan a ys p b c q)) : v.ownBlock ≠ some k := by
  intro e
  rcases h.2 with ⟨rfl, _⟩ | ⟨g, cap, cur, rfl, _, hg, _⟩
  · simp [Value.ownBlock] at e
  · simp [Value.ownBlock] at e
    subst e
    rw [hg] at hk
    simp at hk
theorem own_kp {w w' : World} {N : Nat} {v : Value} {n : Nat} {xs : List Value} {S : List Nat} (h : w.ownsRow N 44 1 v n xs) (k : Kp S w w') (hs : ∀ x ∈ S, v.ownBlock ≠ some x) : w'.ownsRow N 44 1 v n xs := by
  refine ⟨h.1, ?_⟩
  rcases h.2 with hn | ⟨g, cap, cur, rfl, hb, hg, rest⟩
  · exact .inl hn
  · exact .inr ⟨g, cap, cur, rfl, hb, k.heap hg (fun hx => hs g hx rfl), rest⟩

theorem kp_of_grown {w w' : World} {row : Option Nat} (h : w.grownBy w' row) : Kp row.toList w w' :=
  (Kp.refl _ _).grown h (fun k hk => .inl (by rw [hk]; simp))

/-- The ended context at block C: its channel D, its error, how often it was asked. -/
def Cx (w : World) (C D : Nat) (x0 er : Value) (d s : Int) : Prop := w.heap[C]? = some (.cells #[x0, .chan (some D), er, .int .i64 d, .int .i64 s] 52 (0, 0))
section
variable {w : World} {C D : Nat} {x0 er : Value} {d s : Int}
theorem Cx.c1 (h : Cx w C D x0 er d s) : w.cell? ⟨C, 1, none⟩ = some (.chan (some D)) := by rw [cell_of_row w C 1 _ _ _ h]; rfl
theorem Cx.c2 (h : Cx w C D x0 er d s) : w.cell? ⟨C, 2, none⟩ = some er := by rw [cell_of_row w C 2 _ _ _ h]; rfl
theorem Cx.c3 (h : Cx w C D x0 er d s) : w.cell? ⟨C, 3, none⟩ = some (.int .i64 d) := by rw [cell_of_row w C 3 _ _ _ h]; rfl
theorem Cx.c4 (h : Cx w C D x0 er d s) : w.cell? ⟨C, 4, none⟩ = some (.int .i64 s) := by rw [cell_of_row w C 4 _ _ _ h]; rfl
theorem Cx.fz (h : Cx w C D x0 er d s) (i : Nat) : w.frozen? ⟨C, i, none⟩ = false := frozen_of_row w C i _ _ h
theorem Cx.set3 (h : Cx w C D x0 er d s) (d' : Int) : Cx (w.setCell ⟨C, 3, none⟩ (.int .i64 d')) C D x0 er d' s := heap_setCell_same w C 3 _ _ _ h
theorem Cx.set4 (h : Cx w C D x0 er d s) (s' : Int) : Cx (w.setCell ⟨C, 4, none⟩ (.int .i64 s')) C D x0 er d s' := heap_setCell_same w C 4 _ _ _ h
theorem Cx.kp {w' : World} {S : List Nat} (h : Cx w C D x0 er d s) (k : Kp S w w') (hB : C ∉ S) : Cx w' C D x0 er d s := k.heap h hB
theorem Cx.lt (h : Cx w C D x0 er d s) : C < w.heap.size := lt_of_heap h
end

theorem blk_ne {w : World} {i j : Nat} {a b : Obj} (hi : w.heap[i]? = some a) (hj : w.heap[j]? = some b) (h : a ≠ b) : i ≠ j := by
  rintro rfl
  rw [hi] at hj
  exact h (by simpa using hj)
theorem cells_ne {c c' : Array Value} {t t' : TypeId} {f f' : Nat × Nat} (h : t ≠ t') : Obj.cells c t f ≠ Obj.cells c' t' f' := by
  intro e
  simp at e
  exact h e.2.1
theorem chan_ne {c : Array Value} {t : TypeId} {f : Nat × Nat} {a b d : Nat} {ys : Array Value} {p q : Bool} : Obj.cells c t f ≠ Obj.chan a ys p b d q := by
  intro e
  simp at e

end Go.Proofs.Ybulkbasi
