import Derived.Test.YbulkbaswRows
import Derived.WalkKit
import Derived.ProofKit
import Derived.OpenShut
import Derived.ShutString
import Derived.Test.YbulkbaswFold
namespace Go.Proofs.Ybulkbasw.lawS2596CIdem
open Go.ChangeShapes Go.WideShapes Go.ChangeAt Go.RowKit
open Go.ChangeMaps (open_string shut_string)
set_option linter.unusedVariables false      -- a walk need not use every 'w<i>' (that an integer argument fits its kind)

theorem own : ownKnob Yba.prog.godebug = none := by kernel_rfl

/-- Over two bytes: the kernel looks at each pair whose first is a letter. -/
theorem letter_pairs : ((List.range 256).all fun m => !(decide (97 ≤ bits BinOp.or IntKind.u8 (m : Int) 32) && decide (bits BinOp.or IntKind.u8 (m : Int) 32 ≤ 122)) || (List.range 256).all fun n => (fo (m : Int) == fo (n : Int)) == ((m : Int) == (n : Int) || bits BinOp.xor IntKind.u8 (m : Int) (n : Int) == 32)) = true := by
  decide +kernel
theorem letter (a b : Int) (ha : 0 ≤ a ∧ a ≤ 255) (hb : 0 ≤ b ∧ b ≤ 255) (h1 : 97 ≤ bits BinOp.or IntKind.u8 a 32) (h2 : bits BinOp.or IntKind.u8 a 32 ≤ 122) : ((fo a == fo b) == (a == b || bits BinOp.xor IntKind.u8 a b == 32)) = true := by
  have h := List.all_eq_true.1 letter_pairs a.toNat (List.mem_range.2 (by omega))
  rw [Int.toNat_of_nonneg ha.1] at h
  simp only [h1, h2, decide_true, Bool.and_self, Bool.not_true, Bool.false_or] at h
  have k := List.all_eq_true.1 h b.toNat (List.mem_range.2 (by omega))
  rwa [Int.toNat_of_nonneg hb.1] at k
theorem noLetter (a b : Int) (ha : 0 ≤ a ∧ a ≤ 255) (h : 122 < bits BinOp.or IntKind.u8 a 32 ∨ bits BinOp.or IntKind.u8 a 32 < 97) : ((fo a == fo b) == (a == b)) = true := by
  have k := all_u8 (fun x => !(decide (122 < bits BinOp.or IntKind.u8 x 32) || decide (bits BinOp.or IntKind.u8 x 32 < 97)) || (!(decide (65 ≤ x) && decide (x ≤ 90)) && !(decide (97 ≤ x) && decide (x ≤ 122)))) (by decide +kernel) a ha.1 ha.2
  have hn : ¬(65 ≤ a ∧ a ≤ 90) ∧ ¬(97 ≤ a ∧ a ≤ 122) := by
    rcases h with h | h
    · simp [h] at k; omega
    · simp [h] at k; omega
  have e : (fo a = fo b) ↔ a = b := by
    unfold fo
    rw [if_neg hn.1]
    split <;> omega
  rw [beq_iff_eq, Bool.eq_iff_iff]
  simpa using e

/-! ### STEP 1: THE WALK: the Go text returns true. 'Grown w w'': the world has at most new blocks (Derived/RowKit3.lean). Part the cases AHEAD of 'go_enter' where a test parts the walk; take each callee by a contract of your own. -/
theorem walk (a0 : Int) (a1 : Int) (w0 : (Lit.int .u8 a0).wf = true) (w1 : (Lit.int .u8 a1).wf = true) (w : World) :
    Calls Yba.prog 8 #[.int .u8 a0, .int .u8 a1] w fun e w' => e = .returned (.bool true) ∧ Grown w w' := by
  have hb := bounds_u8 w0
  have hc := bounds_u8 w1
  have hd := fo_bd a0 hb.1 hb.2
  have hff : (fo (fo a0) != fo a0) = false := by rw [fo_fo]; simp
  go_enter Yba.func8, Yba.ntmps8
  go_wp2_with (go_at_call 17; refine (fold_any _ (by omega) (by omega) _).mono ?_; rintro e w' ⟨rfl, rfl⟩)
  · go_ret
    exact ⟨rfl, Grown.refl _⟩
  · have h1 : 97 ≤ bits BinOp.or IntKind.u8 a0 32 := by assumption
    have h2 : bits BinOp.or IntKind.u8 a0 32 ≤ 122 := by assumption
    go_ret
    exact ⟨congrArg (fun b => Ending.returned (Value.bool b)) (letter a0 a1 hb hc h1 h2), Grown.refl _⟩
  · have h1 : 122 < bits BinOp.or IntKind.u8 a0 32 := by assumption
    go_ret
    exact ⟨congrArg (fun b => Ending.returned (Value.bool b)) (noLetter a0 a1 hb (.inl h1)), Grown.refl _⟩
  · go_ret
    exact ⟨rfl, Grown.refl _⟩
  · have h1 : bits BinOp.or IntKind.u8 a0 32 < 97 := by assumption
    go_ret
    exact ⟨congrArg (fun b => Ending.returned (Value.bool b)) (noLetter a0 a1 hb (.inr h1)), Grown.refl _⟩

/-! ### THE ROW's STEP: WRITTEN OUT: LEAVE IT -/
set_option maxRecDepth 100000 in
theorem lifted (os : Os) (started : os.Started) (H : Type) (enc : TypeId × Value → H) :
    ReturnsInHanded {} Yba.checked os 8 .any (Rows.lawS2596CIdemSpec.pre6 enc Yba.prog Yba.f8 Rows.lawS2596CIdemRow.domain false) (Rows.lawS2596CIdemSpec.post enc Yba.prog Yba.f8 false true false false) := by
  refine returnsInHanded_of_change (C := Yba.checked) own started (by kernel_rfl) Yba.func8
    (ChangeSpec.witness6 (enc := enc) (C := Yba.checked) false ⟨#[], #[.int .u8 0, .int .u8 0], []⟩ 8 (by kernel_rfl) (by kernel_rfl) (by kernel_rfl) (by kernel_rfl)) ?_
  intro W base args ds gs before hval0 hW hcnd _
  have hval : ∀ (j : Nat) t v, Yba.f8.params[j]? = some t → args[j]? = some v → Value.okWide Yba.prog W .any base t v := hval0
  have hW' := hW
  obtain ⟨p, q, hA0, hV, rfl, hfz, hnd⟩ := hW
  have hA : DataW.TrodAll enc Yba.prog W 0 (fun _ => true) true Yba.f8.params.toList args.toList ds p := hA0
  rw [Yba.params8] at hA hval
  obtain ⟨v0, vs0, d0, ds0, p0, q0, hargs, rfl, rfl, h0, r0⟩ := trodAll_cons hA
  obtain ⟨v1, vs1, d1, ds1, p1, q1, rfl, rfl, rfl, h1, r1⟩ := trodAll_cons r0
  obtain ⟨rfl, rfl, rfl⟩ := trodAll_nil r1
  obtain rfl : args = #[v0, v1] := by cases args; simp_all
  obtain ⟨rfl, rfl⟩ := trodVars_none hV
  obtain ⟨a0, rfl, rfl, rfl, w0⟩ := open_int Yba.underlying5 (hval 0 5 v0 rfl rfl) h0
  obtain ⟨a1, rfl, rfl, rfl, w1⟩ := open_int Yba.underlying5 (hval 1 5 v1 rfl rfl) h1
  clear hA0 hval0
  simp only [List.append_nil] at hW'
  refine (walk a0 a1 w0 w1 W).mono fun e W' ⟨he, hg⟩ => ?_
  subst he
  exact ⟨_, rfl, post_of_same (pa := []) (pv := []) hW' (fun _ _ _ => (trodAll_cons_mk (shut_bool Yba.underlying4 _) trodAll_mk0)) (fun sp _ => (trodAll_cons_mk (shut_int Yba.underlying5 w0) (trodAll_cons_mk (shut_int Yba.underlying5 w1) trodAll_mk0))) (fun _ _ => rfl) rfl
    (hg.frame _) hg.2.1 (ok_one (by kernel_rfl) rfl (okWide_bool_mk Yba.underlying4 _))⟩

theorem over : Rows.lawS2596CIdemRow.holds Yba.pinned (OpenSpec.ofChange Rows.lawS2596CIdemSpec) :=
  OpenClaim.holds_of_wide 8 Yba.f8 rfl rfl rfl rfl rfl rfl rfl ⟨rfl, rfl, rfl, rfl, rfl⟩ rfl rfl rfl rfl rfl (by kernel_rfl) Yba.func8 (by kernel_rfl)
    (of_decide_eq_true (by kernel_rfl)) (by unfold Func.isWrapper; first | (rw [if_pos (by decide +kernel)]; kernel_rfl) | (rw [if_neg (by decide +kernel)]; exact ⟨rfl, rfl⟩))
    (fun os started H enc _ => lifted os started H enc)

end Go.Proofs.Ybulkbasw.lawS2596CIdem

namespace Go.Proofs.Ybulkbasw
/-- The statement. -/
theorem idem_proved : Rows.LawS2596CIdemSaid := lawS2596CIdem.over
end Go.Proofs.Ybulkbasw
