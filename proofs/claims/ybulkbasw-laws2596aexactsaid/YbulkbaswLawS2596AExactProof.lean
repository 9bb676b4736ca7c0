import Derived.Test.YbulkbaswRows
import Derived.WalkKit
import Derived.ProofKit
import Derived.OpenShut
import Derived.ShutString
import Derived.Test.YbulkbaswWord
namespace Go.Proofs.Ybulkbasw.lawS2596AExact
open Go.ChangeShapes Go.WideShapes Go.ChangeAt Go.RowKit
open Go.ChangeMaps (open_string shut_string)
set_option linter.unusedVariables false      -- a walk need not use every 'w<i>' (that an integer argument fits its kind)

theorem own : ownKnob Yba.prog.godebug = none := by kernel_rfl

/-- One round: 'want<<8 | c'. -/
theorem round8 (x c : Int) (hx : 0 ≤ x) (hx' : x < 72057594037927936) (hc : 0 ≤ c) (hc' : c < 256) : bits BinOp.or IntKind.u64 (IntKind.u64.wrap (x * 256)) c = x * 256 + c := by
  rw [u64_wrap_id (x * 256) (by omega) (by omega)]
  exact bits_join .u64 64 (by decide) wraps_u64 8 (x * 256) c (by omega) (by omega) (by omega) hc (by omega) (by omega)
theorem first8 (c : Int) (hc : 0 ≤ c) (hc' : c < 256) : bits BinOp.or IntKind.u64 0 c = c := by
  have := bits_join .u64 64 (by decide) wraps_u64 8 0 c (by omega) (by omega) (by omega) hc (by omega) (by omega)
  omega
theorem rounds8 (c0 c1 c2 c3 c4 c5 c6 c7 : Int) (b0 : 0 ≤ c0 ∧ c0 < 256) (b1 : 0 ≤ c1 ∧ c1 < 256) (b2 : 0 ≤ c2 ∧ c2 < 256) (b3 : 0 ≤ c3 ∧ c3 < 256) (b4 : 0 ≤ c4 ∧ c4 < 256) (b5 : 0 ≤ c5 ∧ c5 < 256) (b6 : 0 ≤ c6 ∧ c6 < 256) (b7 : 0 ≤ c7 ∧ c7 < 256) :
    bits BinOp.or IntKind.u64 (IntKind.u64.wrap (bits BinOp.or IntKind.u64 (IntKind.u64.wrap (bits BinOp.or IntKind.u64 (IntKind.u64.wrap (bits BinOp.or IntKind.u64 (IntKind.u64.wrap (bits BinOp.or IntKind.u64 (IntKind.u64.wrap (bits BinOp.or IntKind.u64 (IntKind.u64.wrap (bits BinOp.or IntKind.u64 (IntKind.u64.wrap (bits BinOp.or IntKind.u64 0 c7 * 256)) c6 * 256)) c5 * 256)) c4 * 256)) c3 * 256)) c2 * 256)) c1 * 256)) c0 =
      c0 + c1 * 256 + c2 * 65536 + c3 * 16777216 + c4 * 4294967296 + c5 * 1099511627776 + c6 * 281474976710656 + c7 * 72057594037927936 := by
  rw [first8 c7 b7.1 b7.2, round8 c7 c6 (by omega) (by omega) b6.1 b6.2, round8 _ c5 (by omega) (by omega) b5.1 b5.2, round8 _ c4 (by omega) (by omega) b4.1 b4.2, round8 _ c3 (by omega) (by omega) b3.1 b3.2, round8 _ c2 (by omega) (by omega) b2.1 b2.2, round8 _ c1 (by omega) (by omega) b1.1 b1.2, round8 _ c0 (by omega) (by omega) b0.1 b0.2]
  omega

set_option maxHeartbeats 1000000 in
set_option maxRecDepth 100000 in
theorem walk (a0 : ByteArray) (w0 : a0.size ≤ maxLen) (w : World) :
    Calls Yba.prog 3 #[.string a0] w fun e w' => e = .returned (.bool true) ∧ Grown w w' := by
  unfold maxLen at w0
  by_cases hl : 4096 < a0.size
  · have hl' : (4096 : Int) < (a0.size : Int) := by omega
    go_enter Yba.func3, Yba.ntmps3
    go_wp2
    go_ret
    exact ⟨rfl, Grown.refl _⟩
  · have hl' : ¬ (4096 : Int) < (a0.size : Int) := by omega
    have h8 := padB_size a0
    go_enter Yba.func3, Yba.ntmps3
    go_wp2_with (go_at_call 9; refine (pad_any _ _).mono ?_; rintro e w' ⟨rfl, rfl⟩)
    generalize padB a0 = t at h8 ⊢
    have i0 := run_index t 0 (by omega)
    have i1 := run_index t 1 (by omega)
    have i2 := run_index t 2 (by omega)
    have i3 := run_index t 3 (by omega)
    have i4 := run_index t 4 (by omega)
    have i5 := run_index t 5 (by omega)
    have i6 := run_index t 6 (by omega)
    have i7 := run_index t 7 (by omega)
    have b0 := oct_bd t 0
    have b1 := oct_bd t 1
    have b2 := oct_bd t 2
    have b3 := oct_bd t 3
    have b4 := oct_bd t 4
    have b5 := oct_bd t 5
    have b6 := oct_bd t 6
    have b7 := oct_bd t 7
    simp only [Int.cast_ofNat_Int] at i0 i1 i2 i3 i4 i5 i6 i7
    refine wp_loop_rounds 9 ?_
    have hfin := rounds8 (oct t 0) (oct t 1) (oct t 2) (oct t 3) (oct t 4) (oct t 5) (oct t 6) (oct t 7) b0 b1 b2 b3 b4 b5 b6 b7
    have HF : Hid (_ = le8 t) := hfin
    clear hfin
    generalize oct t 0 = c0 at i0 b0 HF
    generalize oct t 1 = c1 at i1 b1 HF
    generalize oct t 2 = c2 at i2 b2 HF
    generalize oct t 3 = c3 at i3 b3 HF
    generalize oct t 4 = c4 at i4 b4 HF
    generalize oct t 5 = c5 at i5 b5 HF
    generalize oct t 6 = c6 at i6 b6 HF
    generalize oct t 7 = c7 at i7 b7 HF
    rw [rounds_succ]
    go_wp2
    rw [rounds_succ]
    go_wp2
    rw [rounds_succ]
    go_wp2
    rw [rounds_succ]
    go_wp2
    rw [rounds_succ]
    go_wp2
    rw [rounds_succ]
    go_wp2
    rw [rounds_succ]
    go_wp2
    rw [rounds_succ]
    go_wp2
    rw [rounds_succ]
    go_wp2_with fail
    rw [HF.out]
    refine (word_any t h8 _).mono ?_
    rintro e w1 ⟨rfl, n, rfl⟩
    go_wp2
    go_ret
    exact ⟨rfl, grown_drewN _ _⟩

/-! ### THE ROW's STEP: WRITTEN OUT: LEAVE IT -/
set_option maxRecDepth 100000 in
theorem lifted (os : Os) (started : os.Started) (H : Type) (enc : TypeId × Value → H) :
    ReturnsInHanded {} Yba.checked os 3 .any (Rows.lawS2596AExactSpec.pre6 enc Yba.prog Yba.f3 Rows.lawS2596AExactRow.domain false) (Rows.lawS2596AExactSpec.post enc Yba.prog Yba.f3 false true false false) := by
  refine returnsInHanded_of_change (C := Yba.checked) own started (by kernel_rfl) Yba.func3
    (ChangeSpec.witness6 (enc := enc) (C := Yba.checked) false ⟨#[], #[.string ByteArray.empty], []⟩ 8 (by kernel_rfl) (by kernel_rfl) (by kernel_rfl) (by kernel_rfl)) ?_
  intro W base args ds gs before hval0 hW hcnd _
  have hval : ∀ (j : Nat) t v, Yba.f3.params[j]? = some t → args[j]? = some v → Value.okWide Yba.prog W .any base t v := hval0
  have hW' := hW
  obtain ⟨p, q, hA0, hV, rfl, hfz, hnd⟩ := hW
  have hA : DataW.TrodAll enc Yba.prog W 0 (fun _ => true) true Yba.f3.params.toList args.toList ds p := hA0
  rw [Yba.params3] at hA hval
  obtain ⟨v0, vs0, d0, ds0, p0, q0, hargs, rfl, rfl, h0, r0⟩ := trodAll_cons hA
  obtain ⟨rfl, rfl, rfl⟩ := trodAll_nil r0
  obtain rfl : args = #[v0] := by cases args; simp_all
  obtain ⟨rfl, rfl⟩ := trodVars_none hV
  obtain ⟨a0, rfl, rfl, rfl, w0⟩ := open_string Yba.underlying9 (hval 0 9 v0 rfl rfl) h0
  clear hA0 hval0
  simp only [List.append_nil] at hW'
  refine (walk a0 w0 W).mono fun e W' ⟨he, hg⟩ => ?_
  subst he
  exact ⟨_, rfl, post_of_same (pa := []) (pv := []) hW' (fun _ _ _ => (trodAll_cons_mk (shut_bool Yba.underlying4 _) trodAll_mk0)) (fun sp _ => (trodAll_cons_mk (shut_string Yba.underlying9 w0) trodAll_mk0)) (fun _ _ => rfl) rfl
    (hg.frame _) hg.2.1 (ok_one (by kernel_rfl) rfl (okWide_bool_mk Yba.underlying4 _))⟩

theorem over : Rows.lawS2596AExactRow.holds Yba.pinned (OpenSpec.ofChange Rows.lawS2596AExactSpec) :=
  OpenClaim.holds_of_wide 3 Yba.f3 rfl rfl rfl rfl rfl rfl rfl ⟨rfl, rfl, rfl, rfl, rfl⟩ rfl rfl rfl rfl rfl (by kernel_rfl) Yba.func3 (by kernel_rfl)
    (of_decide_eq_true (by kernel_rfl)) (by unfold Func.isWrapper; first | (rw [if_pos (by decide +kernel)]; kernel_rfl) | (rw [if_neg (by decide +kernel)]; exact ⟨rfl, rfl⟩))
    (fun os started H enc _ => lifted os started H enc)

end Go.Proofs.Ybulkbasw.lawS2596AExact

namespace Go.Proofs.Ybulkbasw
/-- The statement. -/
theorem exact_proved : Rows.LawS2596AExactSaid := lawS2596AExact.over
end Go.Proofs.Ybulkbasw
