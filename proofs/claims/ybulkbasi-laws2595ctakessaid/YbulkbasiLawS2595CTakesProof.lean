import Derived.Test.YbulkbasiRows
import Derived.WalkKit
import Derived.ProofKit
import Derived.OpenShut
import Derived.ShutString
import Derived.ChangeOld
import Derived.Below
import Derived.Test.YbulkbasiWalkI
import Derived.Deep.SlicePairs
namespace Go.Proofs.Ybulkbasi.lawS2595CTakes
open Go.ChangeShapes Go.WideShapes Go.ChangeAt Go.RowKit
open Go.ChangeMaps (open_string shut_string)
set_option linter.unusedVariables false

theorem own : ownKnob Yba.prog.godebug = none := by kernel_rfl
theorem laidOut : laidOutB Yba.prog = true := by kernel_rfl

theorem addr_add (b off j : Nat) : (⟨b, off, none⟩ : Addr).add j = ⟨b, off + j, none⟩ := by
  unfold Addr.add
  split <;> simp_all

/-- What the walk is told of the steps that came in: nil, or a row of pairs. -/
def IsSteps (w : World) (a : Option Addr) (len cap : Nat) (op ns : Nat → Int) : Prop :=
  (len ≤ maxLen) ∧ (len = 0 ∨
  ∃ b off, a = some ⟨b, off, none⟩ ∧ b < w.heap.size ∧ (∀ j, j < len → w.cell? ⟨b, off + j * 2, none⟩ = some (.int .u8 (op j))) ∧ (∀ j, j < len → w.cell? ⟨b, off + j * 2 + 1, none⟩ = some (.int .i64 (ns j))) ∧ ∀ j, j < len → 0 ≤ op j ∧ op j ≤ 255)

set_option maxHeartbeats 2000000 in
set_option maxRecDepth 100000 in
theorem law_zero (free : Int) (a : Option Addr) (cap : Nat) (w : World) :
    Calls Yba.prog 3 #[.int .i64 free, .slice a 0 cap] w fun e w' => e = .returned (.bool true) ∧ Below w.heap.size w w' := by
  go_enter Yba.func3, Yba.ntmps3
  go_wp2_with (go_at_call 5; refine (newBudget_any free w).mono ?_; rintro e w' ⟨rfl, rfl⟩)
  refine wp_loop_rounds 1 ?_
  rw [rounds_succ]
  go_wp2
  go_ret
  exact ⟨rfl, (Below.refl _ _).alloc (Nat.le_refl _) _⟩

theorem walk (a0 : Int) (a1 : Option Addr) (len1 cap1 : Nat) (op ns : Nat → Int) (w : World) (w1 : IsSteps w a1 len1 cap1 op ns) :
    Calls Yba.prog 3 #[.int .i64 a0, .slice a1 len1 cap1] w fun e w' => e = .returned (.bool true) ∧ Below w.heap.size w w' := by
  by_cases hl : 1024 < len1
  · exact law_long a0 a1 len1 cap1 hl w1.1 w
  · rcases w1.2 with rfl | ⟨b, off, rfl, hb, h0, h1, h2⟩
    · exact law_zero a0 a1 cap1 w
    · exact law_short a0 b off len1 cap1 op ns (by omega) w (fun _ => hb) h0 h1 h2

/-! ### THE ROW's STEP: WRITTEN OUT: LEAVE IT -/
set_option maxRecDepth 100000 in
theorem lifted (os : Os) (started : os.Started) (H : Type) (enc : TypeId × Value → H) :
    ReturnsInHanded {} Yba.checked os 3 .any (Rows.lawS2595CTakesSpec.pre6 enc Yba.prog Yba.f3 Rows.lawS2595CTakesRow.domain false) (Rows.lawS2595CTakesSpec.post enc Yba.prog Yba.f3 false true false false) := by
  refine returnsInHanded_of_change (C := Yba.checked) own started (by kernel_rfl) Yba.func3
    (ChangeSpec.witness6 (enc := enc) (C := Yba.checked) false ⟨#[], #[.int .i64 0, .slice none 0 0], []⟩ 8 (by kernel_rfl) (by kernel_rfl) (by kernel_rfl) (by kernel_rfl)) ?_
  intro W base args ds gs before hval0 hW hcnd _
  have hval : ∀ (j : Nat) t v, Yba.f3.params[j]? = some t → args[j]? = some v → Value.okWide Yba.prog W .any base t v := hval0
  have hW' := hW
  obtain ⟨p, q, hA0, hV, rfl, hfz, hnd⟩ := hW
  have hA : DataW.TrodAll enc Yba.prog W 0 (fun _ => true) true Yba.f3.params.toList args.toList ds p := hA0
  rw [Yba.params3] at hA hval
  obtain ⟨v0, vs0, d0, ds0, p0, q0, hargs, rfl, rfl, h0, r0⟩ := trodAll_cons hA
  obtain ⟨v1, vs1, d1, ds1, p1, q1, rfl, rfl, rfl, h1, r1⟩ := trodAll_cons r0
  obtain ⟨rfl, rfl, rfl⟩ := trodAll_nil r1
  obtain rfl : args = #[v0, v1] := by cases args; simp_all
  obtain ⟨rfl, rfl⟩ := trodVars_none hV
  obtain ⟨a0, rfl, rfl, rfl, w0⟩ := open_int Yba.underlying3 (hval 0 3 v0 rfl rfl) h0
  obtain ⟨a1, len1, cap1, rfl⟩ := okWide_slice Yba.underlying22 (hval 1 22 v1 rfl rfl)
  have k1 := h1
  have lt1 : ∀ x ∈ p1, x.block < W.heap.size := by obtain ⟨m, hm⟩ := k1; exact DataW.trod_lt m _ _ _ hm
  obtain ⟨op, ns, w1⟩ : ∃ op ns, IsSteps W a1 len1 cap1 op ns := by
    obtain ⟨fuel, hf⟩ := h1
    rcases Deep.open_slice_pairs Yba.underlying22 Yba.underlying26 (by kernel_rfl) rfl rfl (by kernel_rfl) (by kernel_rfl) hf with ⟨hcs, _⟩ | ⟨x, l, c, m, n, V0, V1, D0, D1, P0, P1, hcs, _, hl, hm, hmm, _, hcell⟩
    · simp [Value.cells] at hcs
      obtain ⟨rfl, rfl, rfl⟩ := hcs
      exact ⟨fun _ => 0, fun _ => 0, by simp [maxLen], .inl rfl⟩
    · simp [Value.cells] at hcs
      obtain ⟨rfl, rfl, rfl⟩ := hcs
      simp only [if_true] at hmm
      subst hmm
      by_cases hz : len1 = 0
      · exact ⟨fun _ => 0, fun _ => 0, by omega, .inl hz⟩
      have hspot : x.spot = none := by simpa [Addr.add] using World.cell?_spot (hcell 0 (by omega)).1
      obtain ⟨b, off, spot⟩ := x
      simp only at hspot
      subst hspot
      have hv : ∀ j, j < len1 → ∃ q : Int × Int, V0 j = .int .u8 q.1 ∧ V1 j = .int .i64 q.2 ∧ (Lit.int .u8 q.1).wf = true := by
        intro j hj
        obtain ⟨_, _, t0, t1⟩ := hcell j (by omega)
        obtain ⟨x0, e0, _, wf0⟩ := DataW.trod_int Yba.underlying5 t0
        obtain ⟨x1, e1, _, wf1⟩ := DataW.trod_int Yba.underlying3 t1
        exact ⟨(x0, x1), by simpa using e0, by simpa using e1, wf0⟩
      obtain ⟨q, hq⟩ := Deep.choose_lt hv
      refine ⟨fun j => (q j).1, fun j => (q j).2, by omega, .inr ⟨b, off, rfl, World.block_lt_of_cell? W _ (hcell 0 (by omega)).1, ?_, ?_, ?_⟩⟩
      · intro j hj
        have := (hcell j (by omega)).1
        rw [(hq j hj).1] at this
        rwa [addr_add] at this
      · intro j hj
        have := (hcell j (by omega)).2.1
        rw [(hq j hj).2.1] at this
        rwa [addr_add, ← Nat.add_assoc] at this
      · intro j hj
        have := bounds_u8 (hq j hj).2.2
        omega
  clear hA0 hval0
  refine (walk a0 a1 len1 cap1 op ns W w1).mono fun e W' ⟨he, bel⟩ => ?_
  subst he
  exact ⟨_, rfl, _, _, _, [], _, [], hW', trodAll_mk1 (shut_bool Yba.underlying4 _), (trodAll_cons_mk (shut_int Yba.underlying3 w0) (trodAll_cons_mk (Below.trod laidOut (by kernel_rfl) (of_decide_eq_true (by kernel_rfl)) k1 bel lt1) trodAll_mk0)), rfl, bel.frame _, fun h => by cases h⟩

theorem over : Rows.lawS2595CTakesRow.holds Yba.pinned (OpenSpec.ofChange Rows.lawS2595CTakesSpec) :=
  OpenClaim.holds_of_wide 3 Yba.f3 rfl rfl rfl rfl rfl rfl rfl ⟨rfl, rfl, rfl, rfl, rfl⟩ rfl rfl rfl rfl rfl (by kernel_rfl) Yba.func3 (by kernel_rfl)
    (of_decide_eq_true (by kernel_rfl)) (by unfold Func.isWrapper; first | (rw [if_pos (by decide +kernel)]; kernel_rfl) | (rw [if_neg (by decide +kernel)]; exact ⟨rfl, rfl⟩))
    (fun os started H enc _ => lifted os started H enc)

end Go.Proofs.Ybulkbasi.lawS2595CTakes

namespace Go.Proofs.Ybulkbasi
/-- The statement. -/
theorem takes_proved : Rows.LawS2595CTakesSaid := lawS2595CTakes.over
end Go.Proofs.Ybulkbasi
