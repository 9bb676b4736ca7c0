import Derived.Test.YbulkbasiWalkA
import Derived.Conc.LoneSelectN
import Derived.Conc.SmallLaws
import Derived.Conc.EventLaws
import Derived.LaidEqlPtr
import Derived.Lib.SliceRun
namespace Go.Proofs.Ybulkbasi
open Go.RowKit
open Go.MuLone

theorem info28 : ∃ i, Yba.prog.info? 28 = some i ∧ i.bytes = 0 := by
  have h : (Yba.prog.info? 28).map (·.bytes) = some 0 := by kernel_rfl
  obtain ⟨i, hi, hb⟩ := Option.map_eq_some_iff.1 h
  exact ⟨i, hi, hb⟩
theorem mk0 (w : World) : (Instr.makeChan 46 (.int .i64 0)).run Yba.prog w = .ok (.chan (some w.heap.size)) (w.alloc (.chan 0 #[] false 0 0 false)) := by
  obtain ⟨i, hi, hb⟩ := info28
  simpa using Conc.run_makeChan (P := Yba.prog) (w := w) Yba.underlying46 hi .i64 0 (by omega) (by rw [hb]; omega)

set_option maxHeartbeats 400000 in
theorem fits_yes (B W : Nat) (n fr : Int) (w : World) (hB : w.cell? ⟨B, 2, none⟩ = some (.int .i64 fr)) (h0 : w.cell? ⟨W, 0, none⟩ = some (.int .i64 n)) (h2 : w.cell? ⟨W, 2, none⟩ = some (.pointer none)) (hle : n ≤ fr) :
    Calls Yba.prog 16 #[.pointer (some ⟨B, 0, none⟩), .pointer (some ⟨W, 0, none⟩)] w fun e w' => e = .returned (.bool true) ∧ ∃ k, w' = w.drewN k := by
  go_enter Yba.func16, Yba.ntmps16
  go_wp2
  go_quiet (fail)
  go_wp2
  go_ret
  exact ⟨rfl, _, rfl⟩

set_option maxHeartbeats 400000 in
theorem fits_no (B W : Nat) (n fr : Int) (w : World) (hB : w.cell? ⟨B, 2, none⟩ = some (.int .i64 fr)) (h0 : w.cell? ⟨W, 0, none⟩ = some (.int .i64 n)) (hle : decide (n ≤ fr) = false) :
    Calls Yba.prog 16 #[.pointer (some ⟨B, 0, none⟩), .pointer (some ⟨W, 0, none⟩)] w fun e w' => e = .returned (.bool false) ∧ ∃ k, w' = w.drewN k := by
  go_enter Yba.func16, Yba.ntmps16
  go_wp2
  go_quiet (fail)
  go_wp2
  go_ret
  exact ⟨rfl, _, rfl⟩

set_option maxHeartbeats 400000 in
theorem hand_any (B W : Nat) (n fr : Int) (w : World) (hB : w.cell? ⟨B, 2, none⟩ = some (.int .i64 fr)) (fB : w.frozen? ⟨B, 2, none⟩ = false) (h0 : w.cell? ⟨W, 0, none⟩ = some (.int .i64 n)) (h2 : w.cell? ⟨W, 2, none⟩ = some (.pointer none)) (hne : W ≠ B) :
    Calls Yba.prog 17 #[.pointer (some ⟨B, 0, none⟩), .pointer (some ⟨W, 0, none⟩)] w fun e w' => e = .returned (.tuple #[]) ∧ w' = (w.setCell ⟨B, 2, none⟩ (.int .i64 (wrap64 (fr - n)))).drew := by
  go_enter Yba.func17, Yba.ntmps17
  go_wp2
  go_region
  all_goals go_wp2
  all_goals go_end0
  all_goals exact ⟨rfl, rfl⟩

set_option maxHeartbeats 400000 in
theorem cl_same (x c : Addr) (w : World) (h : w.cell? c = some (.pointer (some x))) :
    Calls Yba.prog 20 #[.pointer (some x), .pointer (some c)] w fun e w' => e = .returned (.bool true) ∧ w' = w := by
  have hq : ∀ w, (binOp .eql 44 (.pointer (some x)) (.pointer (some x))).run Yba.prog w = .ok (.bool true) w := fun w => by
    obtain ⟨j, hj⟩ : ∃ j, Yba.prog.info? 48 = some j := Option.isSome_iff_exists.1 (by kernel_rfl)
    exact run_eql_ptr_same w x Yba.underlying44 hj
  go_enter Yba.func20, Yba.ntmps20
  go_wp2
  go_ret
  exact ⟨rfl, rfl⟩

set_option maxHeartbeats 400000 in
theorem ended_any (w : World) :
    Calls Yba.prog 7 #[] w fun e w' => e = .returned (.pointer (some ⟨w.heap.size + 2, 0, none⟩)) ∧
      w' = ((w.alloc (.chan 0 #[] true 0 0 false)).alloc (.cells #[.string ⟨#[122, 122, 32, 101, 110, 100, 101, 100]⟩] 76)).alloc (.cells #[.iface 73 (.agg #[]), .chan (some w.heap.size), .iface 74 (.pointer (some ⟨w.heap.size + 1, 0, none⟩)), .int .i64 0, .int .i64 0] 52) := by
  have hm0 := mk0
  have hcl := fun ats ty => run_close_open (P := Yba.prog) (w := w.alloc (.chan 0 #[] false 0 0 false)) ats ty (heap_alloc_new w _)
  have hw : { w.alloc (.chan 0 #[] false 0 0 false) with heap := (w.alloc (.chan 0 #[] false 0 0 false)).heap.setIfInBounds w.heap.size (.chan 0 #[] true 0 0 false) } = w.alloc (.chan 0 #[] true 0 0 false) := by
    have e : (w.heap.push (.chan 0 #[] false 0 0 false)).setIfInBounds w.heap.size (.chan 0 #[] true 0 0 false) = w.heap.push (.chan 0 #[] true 0 0 false) := by
      apply Array.ext'
      simp
    show ({ w with heap := (w.heap.push (.chan 0 #[] false 0 0 false)).setIfInBounds w.heap.size (.chan 0 #[] true 0 0 false) } : World) = _
    rw [e]
    rfl
  rw [hw] at hcl
  clear hw
  go_enter Yba.func7, Yba.ntmps7
  go_wp2_with (first | (go_at_call 14; refine (background_any _).mono ?_; rintro e w' ⟨rfl, rfl⟩) | (go_at_call 15; refine (new_any _ _).mono ?_; rintro e w' ⟨rfl, rfl⟩))
  go_ret
  exact ⟨rfl, rfl⟩

theorem clear_zero (a : Option Addr) (c : Nat) (ty : TypeId) (w : World) : (Builtin.clear_ #[36] ty #[.slice a 0 c]).run Yba.prog w = .ok (.tuple #[]) w := by
  cases a <;> simp [Builtin.clear_, Yba.runUnderlying36]

set_option maxHeartbeats 400000 in
set_option maxRecDepth 10000 in
theorem grant_empty (B : Nat) (a : Option Addr) (c : Nat) (w : World) (hB : w.cell? ⟨B, 4, none⟩ = some (.slice a 0 c)) (fB : w.frozen? ⟨B, 4, none⟩ = false) :
    Calls Yba.prog 13 #[.pointer (some ⟨B, 0, none⟩)] w fun e w' => e = .returned (.tuple #[]) ∧ w' = w.setCell ⟨B, 4, none⟩ (.slice a 0 c) := by
  have hcl := fun a c ty => clear_zero a c ty w
  go_enter Yba.func13, Yba.ntmps13
  go_wp2
  refine wp_loop_rounds 1 ?_
  rw [rounds_succ]
  go_wp2
  go_end0
  exact ⟨rfl, rfl⟩

end Go.Proofs.Ybulkbasi
