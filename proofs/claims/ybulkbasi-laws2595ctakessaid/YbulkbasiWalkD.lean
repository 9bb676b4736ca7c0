import Derived.Test.YbulkbasiWalkC
namespace Go.Proofs.Ybulkbasi
open Go.RowKit
open Go.MuLone

theorem run_append_same (w : World) (ty : TypeId) (g c T : Nat) (cur : Array Value) (p : Value) (hg : w.heap[g]? = some (.cells cur 44 (0, 0))) (h0 : cur[0]? = some p) (hT : w.heap[T]? = some (.cells #[p] 44 (0, 0))) (hp : p.oneCell' = true) (hc : 1 ≤ c) :
    (Builtin.append_ #[36, 36] ty #[.slice (some ⟨g, 0, none⟩) 0 c, .slice (some ⟨T, 0, none⟩) 1 1]).run Yba.prog w = .ok (.slice (some ⟨g, 0, none⟩) 1 c) w := by
  obtain ⟨i, hi, hz, hs, hy⟩ := info44
  have hcur : 0 < cur.size := (Array.getElem?_eq_some_iff.1 h0).1
  have := run_append_room (P := Yba.prog) w 36 ty 44 i Yba.underlying36 hi g 0 c cur hg ⟨T, 0, none⟩ 1 1 [p] (by simp [hs]) (World.news_of_block hT) (by simp [hp]) (by omega) (by simp; omega)
  rw [this]
  have e : (cur.toList.take (0 * i.size) ++ [p] ++ cur.toList.drop (0 * i.size + [p].length)).toArray = cur := by
    obtain ⟨l⟩ := cur
    cases l with
    | nil => simp at h0
    | cons x r => simp at h0; simp [h0]
  rw [e, setRow_self w g cur 44 _ hg]

theorem wpList_append_same {ops : Array Oper} {rest : List Oper} {o : Oper} {a : Act} {w : World} {Q : Exit → Act → World → Prop} (hgd : o.guard = none) (s x : Operand)
    (ho : o.op = .call { callee := .builtin .append, args := #[s, x], argTypes := #[36, 36] }) (g c T : Nat) (cur : Array Value) (p : Value)
    (hs : a.eval s = .slice (some ⟨g, 0, none⟩) 0 c) (hx : a.eval x = .slice (some ⟨T, 0, none⟩) 1 1)
    (hg : w.heap[g]? = some (.cells cur 44 (0, 0))) (h0 : cur[0]? = some p) (hT : w.heap[T]? = some (.cells #[p] 44 (0, 0))) (hp : p.oneCell' = true) (hc : 1 ≤ c)
    (h : wpList Yba.prog ops Q rest (a.put o.dst (.slice (some ⟨g, 0, none⟩) 1 c)) w) : wpList Yba.prog ops Q (o :: rest) a w :=
  wpList_plain hgd fun _ hK => by
    unfold Oper.wp execOp
    simp only [ho, resolve, invoke, builtin, Sem.run_bind, Sem.run_pure, Result.andThen_ok, List.map_toArray, List.map_cons, List.map_nil, hs, hx, run_append_same w o.type g c T cur p hg h0 hT hp hc]
    exact hK _ _ h

theorem Bq.same4 {w : World} {B : Nat} {st fr : Int} {v : Value} (h : Bq w B st fr v) : w.setCell ⟨B, 4, none⟩ v = w := by
  rw [setCell_eq_setRow w B 4 _ _ _ _ h]
  exact setRow_self w B _ _ _ h

set_option maxHeartbeats 1000000 in
set_option maxRecDepth 10000 in
theorem grant_one (B g c W : Nat) (st fr n : Int) (cur : Array Value) (w : World) (h : Bq w B st fr (.slice (some ⟨g, 0, none⟩) 1 c)) (hg : w.heap[g]? = some (.cells cur 44 (0, 0))) (hcur : cur[0]? = some (.pointer (some ⟨W, 0, none⟩))) (hc : 1 ≤ c)
    (h0 : w.cell? ⟨W, 0, none⟩ = some (.int .i64 n)) (h2 : w.cell? ⟨W, 2, none⟩ = some (.pointer none)) (hlt : fr < n) :
    Calls Yba.prog 13 #[.pointer (some ⟨B, 0, none⟩)] w fun e w' => e = .returned (.tuple #[]) ∧ Kp [] w w' := by
  have g4 := h.c4
  have g2 := h.c2
  have z4 := h.fz 4
  have gg : w.cell? ⟨g, 0, none⟩ = some (.pointer (some ⟨W, 0, none⟩)) := by rw [cell_of_row w g 0 _ _ _ hg]; exact hcur
  have hcl := fun a c ty w => clear_zero a c ty w
  have hBlt := h.lt
  have hno : decide (n ≤ fr) = false := decide_eq_false (by omega)
  go_enter Yba.func13, Yba.ntmps13
  go_wp2
  refine wp_loop_rounds 2 ?_
  rw [rounds_succ]
  go_wp2_with (go_at_call 16; refine (fits_no B W n fr _ g2 h0 hno).mono ?_; rintro e w' ⟨rfl, k, rfl⟩)
  go_quiet (fail)
  go_wp2_with (at_builtin; refine wpList_append_same rfl _ _ rfl g c w.heap.size cur (.pointer (some ⟨W, 0, none⟩)) rfl rfl ((Below.heap_alloc _ _ _ (lt_of_heap hg)).trans hg) hcur (heap_alloc_new _ _) rfl hc ?_)
  have hk2 : Kp [] w ((w.drewN (k + nq)).alloc (.cells #[.pointer (some ⟨W, 0, none⟩)] 44)) := ((Kp.refl _ _).drewN _).alloc _
  generalize (w.drewN (k + nq)).alloc (.cells #[.pointer (some ⟨W, 0, none⟩)] 44) = W2 at hk2 ⊢
  have hb2 := h.kp hk2 (by simp)
  have e4 := hb2.c4
  have y4 := hb2.fz 4
  obtain rfl | hc1 : c = 1 ∨ 1 < c := by omega
  all_goals
   rw [rounds_succ]
   go_wp2
   go_end0
   refine ⟨rfl, ?_⟩
   rw [hb2.same4]
   exact hk2
end Go.Proofs.Ybulkbasi
