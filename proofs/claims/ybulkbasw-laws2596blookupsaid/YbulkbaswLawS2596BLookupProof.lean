import Derived.Test.YbulkbaswOpenPuts
import Derived.Test.YbulkbaswLawL
namespace Go.Proofs.Ybulkbasw.lawS2596BLookup
open Go.ChangeShapes Go.WideShapes Go.ChangeAt Go.RowKit
open Go.ChangeMaps (open_string shut_string)
set_option linter.unusedVariables false

theorem walk (a0 : Option Addr) (len0 cap0 : Nat) (qs : Int) (sel val : Nat → Int) (w : World) (h0 : IsPuts w a0 len0 sel val) (hq0 : 0 ≤ qs) (hq1 : qs ≤ 65535) :
    Calls Yba.prog 6 #[.slice a0 len0 cap0, .int .u16 qs] w fun e w' => e = .returned (.bool true) ∧ Below w.heap.size w w' := by
  by_cases hl : 1024 < len0
  · exact lookup_long a0 len0 cap0 qs hl w
  · rcases h0.2 with rfl | ⟨b, off, rfl, hb, h0, h1, h2⟩
    · exact lookup_zero a0 cap0 qs hq0 hq1 w
    · exact lookup_short b off len0 cap0 sel val qs (by omega) w (fun _ => hb) h0 h1 h2 hq0 hq1

/-! ### THE ROW's STEP -/
set_option maxRecDepth 100000 in
theorem lifted (os : Os) (started : os.Started) (H : Type) (enc : TypeId × Value → H) :
    ReturnsInHanded {} Yba.checked os 6 .any (Rows.lawS2596BLookupSpec.pre6 enc Yba.prog Yba.f6 Rows.lawS2596BLookupRow.domain false) (Rows.lawS2596BLookupSpec.post enc Yba.prog Yba.f6 false true false false) := by
  refine returnsInHanded_of_change (C := Yba.checked) own started (by kernel_rfl) Yba.func6
    (ChangeSpec.witness6 (enc := enc) (C := Yba.checked) false ⟨#[], #[.slice none 0 0, .int .u16 0], []⟩ 8 (by kernel_rfl) (by kernel_rfl) (by kernel_rfl) (by kernel_rfl)) ?_
  intro W base args ds gs before hval0 hW hcnd _
  have hval : ∀ (j : Nat) t v, Yba.f6.params[j]? = some t → args[j]? = some v → Value.okWide Yba.prog W .any base t v := hval0
  have hW' := hW
  obtain ⟨p, q, hA0, hV, rfl, hfz, hnd⟩ := hW
  have hA : DataW.TrodAll enc Yba.prog W 0 (fun _ => true) true Yba.f6.params.toList args.toList ds p := hA0
  rw [Yba.params6] at hA hval
  obtain ⟨v0, vs0, d0, ds0, p0, q0, hargs, rfl, rfl, h0, r0⟩ := trodAll_cons hA
  obtain ⟨v1, vs1, d1, ds1, p1, q1, rfl, rfl, rfl, h1, r1⟩ := trodAll_cons r0
  obtain ⟨rfl, rfl, rfl⟩ := trodAll_nil r1
  obtain rfl : args = #[v0, v1] := by cases args; simp_all
  obtain ⟨rfl, rfl⟩ := trodVars_none hV
  obtain ⟨a0, len0, cap0, rfl⟩ := okWide_slice Yba.underlying32 (hval 0 32 v0 rfl rfl)
  obtain ⟨a1, rfl, rfl, rfl, w1⟩ := open_int Yba.underlying37 (hval 1 37 v1 rfl rfl) h1
  have k0 := h0
  have lt0 : ∀ x ∈ p0, x.block < W.heap.size := by obtain ⟨m, hm⟩ := k0; exact DataW.trod_lt m _ _ _ hm
  obtain ⟨sel, val, w0⟩ := open_puts h0
  clear hA0 hval0
  obtain ⟨b0, b1⟩ := bounds_u16 w1
  refine (walk a0 len0 cap0 a1 sel val W w0 b0 b1).mono fun e W' ⟨he, bel⟩ => ?_
  subst he
  exact ⟨_, rfl, _, _, _, [], _, [], hW', trodAll_mk1 (shut_bool Yba.underlying4 _), (trodAll_cons_mk (Below.trod laidOut (by kernel_rfl) (of_decide_eq_true (by kernel_rfl)) k0 bel lt0) (trodAll_cons_mk (shut_int Yba.underlying37 w1) trodAll_mk0)), rfl, bel.frame _, fun h => by cases h⟩

theorem over : Rows.lawS2596BLookupRow.holds Yba.pinned (OpenSpec.ofChange Rows.lawS2596BLookupSpec) :=
  OpenClaim.holds_of_wide 6 Yba.f6 rfl rfl rfl rfl rfl rfl rfl ⟨rfl, rfl, rfl, rfl, rfl⟩ rfl rfl rfl rfl rfl (by kernel_rfl) Yba.func6 (by kernel_rfl)
    (of_decide_eq_true (by kernel_rfl)) (by unfold Func.isWrapper; first | (rw [if_pos (by decide +kernel)]; kernel_rfl) | (rw [if_neg (by decide +kernel)]; exact ⟨rfl, rfl⟩))
    (fun os started H enc _ => lifted os started H enc)

end Go.Proofs.Ybulkbasw.lawS2596BLookup

namespace Go.Proofs.Ybulkbasw
/-- The statement. -/
theorem lookup_proved : Rows.LawS2596BLookupSaid := lawS2596BLookup.over
end Go.Proofs.Ybulkbasw
