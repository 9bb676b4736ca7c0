import Derived.Test.YbulkbasiWalkB
import Derived.Deep.AppendLies
import Derived.Defers
namespace Go.Proofs.Ybulkbasi
open Go.RowKit
open Go.MuLone

/-! ### What may have turned: the blocks of a list; all else is as it was -/
structure Kp (S : List Nat) (w w' : World) : Prop where
  os : w'.os = w.os
  tape : w'.tape = w.tape
  output : w'.output = w.output
  size : w.heap.size ≤ w'.heap.size
  block : ∀ k, k < w.heap.size → k ∉ S → w'.heap[k]? = w.heap[k]?

theorem Kp.refl (S : List Nat) (w : World) : Kp S w w := ⟨rfl, rfl, rfl, Nat.le_refl _, fun _ _ _ => rfl⟩
theorem Kp.trans {S : List Nat} {a b c : World} (h : Kp S a b) (k : Kp S b c) : Kp S a c :=
  ⟨k.os.trans h.os, k.tape.trans h.tape, k.output.trans h.output, Nat.le_trans h.size k.size, fun i hi hs => (k.block i (Nat.lt_of_lt_of_le hi h.size) hs).trans (h.block i hi hs)⟩
/-- Blocks that were not there at the start need not be listed. -/
theorem Kp.trans_new {S T : List Nat} {a b c : World} (h : Kp S a b) (k : Kp T b c) (hT : ∀ x ∈ T, x ∈ S ∨ a.heap.size ≤ x) : Kp S a c :=
  ⟨k.os.trans h.os, k.tape.trans h.tape, k.output.trans h.output, Nat.le_trans h.size k.size, fun i hi hs =>
    (k.block i (Nat.lt_of_lt_of_le hi h.size) (fun hx => (hT i hx).elim hs (fun h' => by omega))).trans (h.block i hi hs)⟩
theorem Kp.setCell {S : List Nat} {a w : World} (h : Kp S a w) {p : Addr} (hp : p.block ∈ S ∨ a.heap.size ≤ p.block) (v : Value) : Kp S a (w.setCell p v) :=
  h.trans_new (T := [p.block]) ⟨rfl, rfl, rfl, by simp, fun k _ hk => heap_setCell_other w p k v (by simpa using hk)⟩ (by simpa using hp)
theorem Kp.alloc {S : List Nat} {a w : World} (h : Kp S a w) (o : Obj) : Kp S a (w.alloc o) :=
  h.trans_new (T := []) ⟨rfl, rfl, rfl, by simp, fun k hk _ => Below.heap_alloc w o k hk⟩ (by simp)
theorem Kp.drew {S : List Nat} {a w : World} (h : Kp S a w) : Kp S a w.drew := ⟨h.os, h.tape, h.output, h.size, h.block⟩
theorem Kp.drewN {S : List Nat} {a w : World} (h : Kp S a w) (n : Nat) : Kp S a (w.drewN n) := ⟨h.os, h.tape, h.output, h.size, h.block⟩
theorem Kp.grown {S : List Nat} {a w w' : World} {row : Option Nat} (h : Kp S a w) (hg : w.grownBy w' row) (hr : ∀ k, row = some k → k ∈ S ∨ a.heap.size ≤ k) : Kp S a w' := by
  refine ⟨hg.os.trans h.os, hg.tape.trans h.tape, hg.output.trans h.output, Nat.le_trans h.size hg.size, fun i hi hs => ?_⟩
  refine (hg.block i (Nat.lt_of_lt_of_le hi h.size) (fun e => ?_)).trans (h.block i hi hs)
  rcases hr i e.symm with h' | h'
  · exact hs h'
  · omega
theorem Kp.below {S : List Nat} {N : Nat} {a w : World} (h : Kp S a w) (hN : N ≤ a.heap.size) (hS : ∀ x ∈ S, N ≤ x) : Below N a w :=
  ⟨h.os, h.tape, h.output, h.size, fun k hk => h.block k (by omega) (fun hx => by have := hS k hx; omega)⟩
theorem Kp.heap {S : List Nat} {a w : World} (h : Kp S a w) {k : Nat} {o : Obj} (hk : a.heap[k]? = some o) (hs : k ∉ S) : w.heap[k]? = some o :=
  (h.block k (Array.getElem?_eq_some_iff.1 hk).1 hs).trans hk
theorem lt_of_heap {w : World} {k : Nat} {o : Obj} (h : w.heap[k]? = some o) : k < w.heap.size := (Array.getElem?_eq_some_iff.1 h).1
theorem heap_drewN (w : World) (n : Nat) : (w.drewN n).heap = w.heap := rfl

/-- The budget at block B: the lock's state word, the free bytes, the line. -/
def Bq (w : World) (B : Nat) (st fr : Int) (v : Value) : Prop := w.heap[B]? = some (.cells #[.int .i32 st, .int .u32 0, .int .i64 fr, .slice none 0 0, v, .slice none 0 0] 38 (0, 0))
section
variable {w : World} {B : Nat} {st fr : Int} {v : Value}
theorem Bq.c0 (h : Bq w B st fr v) : w.cell? ⟨B, 0, none⟩ = some (.int .i32 st) := by rw [cell_of_row w B 0 _ _ _ h]; rfl
theorem Bq.c2 (h : Bq w B st fr v) : w.cell? ⟨B, 2, none⟩ = some (.int .i64 fr) := by rw [cell_of_row w B 2 _ _ _ h]; rfl
theorem Bq.c4 (h : Bq w B st fr v) : w.cell? ⟨B, 4, none⟩ = some v := by rw [cell_of_row w B 4 _ _ _ h]; rfl
theorem Bq.fz (h : Bq w B st fr v) (i : Nat) : w.frozen? ⟨B, i, none⟩ = false := frozen_of_row w B i _ _ h
theorem Bq.lt (h : Bq w B st fr v) : B < w.heap.size := lt_of_heap h
theorem Bq.set0 (h : Bq w B st fr v) (st' : Int) : Bq (w.setCell ⟨B, 0, none⟩ (.int .i32 st')) B st' fr v := heap_setCell_same w B 0 _ _ _ h
theorem Bq.set2 (h : Bq w B st fr v) (fr' : Int) : Bq (w.setCell ⟨B, 2, none⟩ (.int .i64 fr')) B st fr' v := heap_setCell_same w B 2 _ _ _ h
theorem Bq.set4 (h : Bq w B st fr v) (v' : Value) : Bq (w.setCell ⟨B, 4, none⟩ v') B st fr v' := heap_setCell_same w B 4 _ _ _ h
theorem Bq.kp {w' : World} {S : List Nat} (h : Bq w B st fr v) (k : Kp S w w') (hB : B ∉ S) : Bq w' B st fr v := k.heap h hB
end

set_option maxHeartbeats 400000 in
theorem give_any (B : Nat) (fr n : Int) (a : Option Addr) (c : Nat) (w : World) (h : Bq w B 0 fr (.slice a 0 c)) :
    Calls Yba.prog 6 #[.pointer (some ⟨B, 0, none⟩), .int .i64 n] w fun e w' => e = .returned (.tuple #[]) ∧ Bq w' B 0 (wrap64 (fr + n)) (.slice a 0 c) ∧ Kp [B] w w' := by
  have h1 := h.set0 1
  have h2 := h1.set2 (wrap64 (fr + n))
  have h3 := h2.set4 (.slice a 0 c)
  have h4 := h3.set0 0
  have g0 := h.c0
  have z0 := h.fz 0
  have g2 := h1.c2
  have z2 := h1.fz 2
  go_enter_defers Yba.func6, Yba.ntmps6
  go_wp2_with (first
    | (go_at_call 11; refine (lock_free Yba.muLib ⟨B, 0, none⟩ _ g0 z0).mono ?_; rintro e w' ⟨rfl, rfl⟩)
    | (go_at_call 13; refine (grant_empty B a c _ h2.c4 (h2.fz 4)).mono ?_; rintro e w' ⟨rfl, rfl⟩))
  refine leaves_cons (f := 12) (args := #[.pointer (some ⟨B, 0, none⟩)]) (by simp) (by simp [go_sem]) ?_
  refine (unlock_deferred Yba.muLib ⟨B, 0, none⟩ .returning _ h3.c0 (h3.fz 0)).mono ?_
  rintro e u' w'' ⟨rfl, rfl, rfl⟩
  exact ⟨_, results_none rfl _ _ _, rfl, h4, (((((Kp.refl _ _).setCell (by simp) _).setCell (by simp) _).setCell (by simp) _).setCell (by simp) _)⟩

theorem info44 : ∃ i, Yba.prog.info? 44 = some i ∧ i.zero = some (.pointer none) ∧ i.size = 1 ∧ i.bytes = 8 := by
  have h1 : (Yba.prog.info? 44).map (·.size) = some 1 := by kernel_rfl
  have h2 : (Yba.prog.info? 44).map (·.bytes) = some 8 := by kernel_rfl
  have h3 : (Yba.prog.info? 44).bind (·.zero) = some (.pointer none) := by kernel_rfl
  obtain ⟨i, hi, hb⟩ := Option.map_eq_some_iff.1 h1
  rw [hi] at h2 h3
  exact ⟨i, hi, h3, hb, by simpa using h2⟩

set_option maxHeartbeats 400000 in
set_option maxRecDepth 10000 in
theorem insert_any (a : Option Addr) (c T base : Nat) (p : Value) (hp : p.oneCell' = true) (w : World) (hown : w.ownsRow base 44 1 (.slice a 0 c) 0 []) (hT : w.heap[T]? = some (.cells #[p] 44 (0, 0))) (hb : base ≤ w.heap.size) :
    Calls Yba.prog 18 #[.slice a 0 c, .int .i64 0, .slice (some ⟨T, 0, none⟩) 1 1] w fun e w' => ∃ g cap, e = .returned (.slice (some ⟨g, 0, none⟩) 1 cap) ∧
      w'.ownsRow base 44 1 (.slice (some ⟨g, 0, none⟩) 1 cap) 1 [p] ∧ w.grownBy w' (Value.slice a 0 c).ownBlock ∧ ((Value.slice a 0 c).ownBlock = some g ∨ g = w.heap.size) := by
  obtain ⟨i, hi, hz, hs, hy⟩ := info44
  go_enter Yba.func18, Yba.ntmps18
  go_wp2_with (at_builtin; refine wpList_append_lies _ rfl _ _ _ rfl base 44 i (.pointer none) 1 8 Yba.underlying36 hi hz hs hy rfl (by omega) (.slice a 0 c) 0 [] rfl hown ⟨T, 0, none⟩ 1 1 [p] rfl rfl (World.news_of_block hT) (by simp [hp]) (by omega) (by simp [maxLen]) (by omega) hb _ rfl ?_; intro g cap w1 hown1 hgrow hat hlt)
  go_ret
  exact ⟨g, cap, rfl, hown1, hgrow, hat⟩

set_option maxHeartbeats 400000 in
theorem index_one (g c : Nat) (x cap : Addr) (w : World) (hg : w.cell? ⟨g, 0, none⟩ = some (.pointer (some x))) (hc : w.cell? cap = some (.pointer (some x))) :
    Calls Yba.prog 26 #[.slice (some ⟨g, 0, none⟩) 1 c, .func (.func 20) #[] #[.pointer (some cap)]] w fun e w' => e = .returned (.int .i64 0) ∧ w' = w := by
  go_enter Yba.func26, Yba.ntmps26
  go_wp2
  refine wp_loop_rounds 1 ?_
  rw [rounds_succ]
  go_wp2_with (go_at_call 20; refine (cl_same x cap _ hc).mono ?_; rintro e w' ⟨rfl, rfl⟩)
  go_ret
  exact ⟨rfl, rfl⟩

set_option maxHeartbeats 400000 in
set_option maxRecDepth 10000 in
theorem delete_one (g c : Nat) (x cap : Addr) (w : World) (hg : w.cell? ⟨g, 0, none⟩ = some (.pointer (some x))) (fg : w.frozen? ⟨g, 0, none⟩ = false) (hc : w.cell? cap = some (.pointer (some x))) :
    Calls Yba.prog 19 #[.slice (some ⟨g, 0, none⟩) 1 c, .func (.func 20) #[] #[.pointer (some cap)]] w fun e w' => e = .returned (.slice (some ⟨g, 0, none⟩) 0 c) ∧ w' = w.setCell ⟨g, 0, none⟩ (.pointer none) := by
  have e1 : ∀ j, j < 1 → (w.cell? ⟨g, 0 + j, none⟩).isSome = true := by
    intro j hj
    obtain rfl : j = 0 := by omega
    simp [hg]
  have e2 : ∀ j, j < 1 → w.frozen? ⟨g, 0 + j, none⟩ = false := by
    intro j hj
    obtain rfl : j = 0 := by omega
    simpa using fg
  have hcl := fun ty => Lib.run_clear_slice (P := Yba.prog) w 36 44 ty (.pointer none) Yba.underlying36 Yba.zeroValue44 rfl rfl g 0 1 c (by omega) e1 e2
  clear e1 e2
  simp only [List.replicate, World.setCells] at hcl
  go_enter Yba.func19, Yba.ntmps19
  go_wp2_with (go_at_call 26; refine (index_one g c x cap _ hg hc).mono ?_; rintro e w' ⟨rfl, rfl⟩)
  refine wp_loop_rounds 1 ?_
  rw [rounds_succ]
  go_wp2
  go_ret
  exact ⟨rfl, rfl⟩

end Go.Proofs.Ybulkbasi
