import Derived.Test.YbulkbaswRows
import Derived.WalkKit
import Derived.ProofKit
import Derived.OpenShut
import Derived.ShutString
import Derived.ChangeOld
import Derived.Below
import Derived.Carry
import Derived.Lib.ConvBytes
import Derived.Lib.SliceRun
import Derived.Test.YbulkbaswWord
namespace Go.Proofs.Ybulkbasw.lawS2596APrefix
open Go.ChangeShapes Go.WideShapes Go.ChangeAt Go.RowKit
open Go.ChangeMaps (open_string shut_string)
set_option linter.unusedVariables false      -- a walk need not use every 'w<i>' (that an integer argument fits its kind)

theorem own : ownKnob Yba.prog.godebug = none := by kernel_rfl

theorem laidOut : laidOutB Yba.prog = true := by kernel_rfl

set_option maxHeartbeats 2000000 in
set_option maxRecDepth 100000 in
theorem le_any (g n c : Nat) (c0 c1 c2 c3 c4 c5 c6 c7 : Int) (b0 : 0 ≤ c0 ∧ c0 < 256) (b1 : 0 ≤ c1 ∧ c1 < 256) (b2 : 0 ≤ c2 ∧ c2 < 256) (b3 : 0 ≤ c3 ∧ c3 < 256) (b4 : 0 ≤ c4 ∧ c4 < 256) (b5 : 0 ≤ c5 ∧ c5 < 256) (b6 : 0 ≤ c6 ∧ c6 < 256) (b7 : 0 ≤ c7 ∧ c7 < 256) (w : World) (hn : 8 ≤ n)
    (h0 : w.cell? ⟨g, 0, none⟩ = some (.int .u8 c0)) (h1 : w.cell? ⟨g, 1, none⟩ = some (.int .u8 c1)) (h2 : w.cell? ⟨g, 2, none⟩ = some (.int .u8 c2)) (h3 : w.cell? ⟨g, 3, none⟩ = some (.int .u8 c3)) (h4 : w.cell? ⟨g, 4, none⟩ = some (.int .u8 c4)) (h5 : w.cell? ⟨g, 5, none⟩ = some (.int .u8 c5)) (h6 : w.cell? ⟨g, 6, none⟩ = some (.int .u8 c6)) (h7 : w.cell? ⟨g, 7, none⟩ = some (.int .u8 c7)) :
    Calls Yba.prog 11 #[.agg #[], .slice (some ⟨g, 0, none⟩) n c] w fun e w' => e = .returned (.int .u64 (c0 + c1 * 256 + c2 * 65536 + c3 * 16777216 + c4 * 4294967296 + c5 * 1099511627776 + c6 * 281474976710656 + c7 * 72057594037927936)) ∧ Below w.heap.size w w' := by
  have d0 := Lib.cell?_alloc_some (.cells #[] 29) h0
  have d1 := Lib.cell?_alloc_some (.cells #[] 29) h1
  have d2 := Lib.cell?_alloc_some (.cells #[] 29) h2
  have d3 := Lib.cell?_alloc_some (.cells #[] 29) h3
  have d4 := Lib.cell?_alloc_some (.cells #[] 29) h4
  have d5 := Lib.cell?_alloc_some (.cells #[] 29) h5
  have d6 := Lib.cell?_alloc_some (.cells #[] 29) h6
  have d7 := Lib.cell?_alloc_some (.cells #[] 29) h7
  have q0 : 0 < n := by omega
  have q1 : (1 : Int) < (n : Int) := by omega
  have q2 : (2 : Int) < (n : Int) := by omega
  have q3 : (3 : Int) < (n : Int) := by omega
  have q4 : (4 : Int) < (n : Int) := by omega
  have q5 : (5 : Int) < (n : Int) := by omega
  have q6 : (6 : Int) < (n : Int) := by omega
  have q7 : (7 : Int) < (n : Int) := by omega
  go_enter Yba.func11, Yba.ntmps11
  go_wp2
  go_quiet (fail)
  go_wp2
  go_ret
  exact ⟨congrArg (fun x => Ending.returned (Value.int IntKind.u64 x)) (or8 c0 c1 c2 c3 c4 c5 c6 c7 b0 b1 b2 b3 b4 b5 b6 b7), ((Below.refl _ w).alloc (Nat.le_refl _) _).trans ⟨rfl, rfl, rfl, Nat.le_refl _, fun _ _ => rfl⟩⟩

theorem oct_cut (t u : ByteArray) (i : Nat) (h8 : 8 ≤ t.size) (hi : i < 8) : oct (t.extract 0 8 ++ u) i = oct t i := by
  have e : (t.extract 0 8 ++ u).data.toList = t.data.toList.take 8 ++ u.data.toList := by simp
  have h1 : i < (t.data.toList.take 8).length := by
    have : t.data.toList.length = t.size := by simp
    rw [List.length_take]; omega
  unfold oct
  rw [e, List.getElem?_append_left h1, List.getElem?_take, if_pos hi]
theorem oct_cut0 (t : ByteArray) (i : Nat) (h8 : 8 ≤ t.size) (hi : i < 8) : oct (t.extract 0 8) i = oct t i := by
  have e : (t.extract 0 8).data.toList = t.data.toList.take 8 := by simp
  unfold oct
  rw [e, List.getElem?_take, if_pos hi]
theorem le8_cut (t u : ByteArray) (h8 : 8 ≤ t.size) : le8 (t.extract 0 8 ++ u) = le8 t := by
  unfold le8
  rw [oct_cut t u 0 h8 (by omega), oct_cut t u 1 h8 (by omega), oct_cut t u 2 h8 (by omega), oct_cut t u 3 h8 (by omega), oct_cut t u 4 h8 (by omega), oct_cut t u 5 h8 (by omega), oct_cut t u 6 h8 (by omega), oct_cut t u 7 h8 (by omega)]
theorem le8_cut0 (t : ByteArray) (h8 : 8 ≤ t.size) : le8 (t.extract 0 8) = le8 t := by
  unfold le8
  rw [oct_cut0 t 0 h8 (by omega), oct_cut0 t 1 h8 (by omega), oct_cut0 t 2 h8 (by omega), oct_cut0 t 3 h8 (by omega), oct_cut0 t 4 h8 (by omega), oct_cut0 t 5 h8 (by omega), oct_cut0 t 6 h8 (by omega), oct_cut0 t 7 h8 (by omega)]

theorem word_cut0 (t : ByteArray) (h8 : 8 ≤ t.size) (w : World) :
    Calls Yba.prog 10 #[.string (t.extract 0 8)] w fun e w' => e = .returned (.int .u64 (le8 t)) ∧ ∃ n, w' = w.drewN n := by
  have := word_any (t.extract 0 8) (by rw [ByteArray.size_extract]; omega) w
  rwa [le8_cut0 t h8] at this
theorem word_cut (t u : ByteArray) (h8 : 8 ≤ t.size) (w : World) :
    Calls Yba.prog 10 #[.string (t.extract 0 8 ++ u)] w fun e w' => e = .returned (.int .u64 (le8 t)) ∧ ∃ n, w' = w.drewN n := by
  have := word_any (t.extract 0 8 ++ u) (by rw [ByteArray.size_append, ByteArray.size_extract]; omega) w
  rwa [le8_cut t u h8] at this
theorem le_cut (t : ByteArray) (h8 : 8 ≤ t.size) (g n c : Nat) (hn : 8 ≤ n) (w : World) (hc : ∀ i, i < 8 → w.cell? ⟨g, i, none⟩ = some (.int .u8 (oct t i))) :
    Calls Yba.prog 11 #[.agg #[], .slice (some ⟨g, 0, none⟩) n c] w fun e w' => e = .returned (.int .u64 (le8 t)) ∧ Below w.heap.size w w' :=
  le_any g n c _ _ _ _ _ _ _ _ (oct_bd t 0) (oct_bd t 1) (oct_bd t 2) (oct_bd t 3) (oct_bd t 4) (oct_bd t 5) (oct_bd t 6) (oct_bd t 7) w hn (hc 0 (by omega)) (hc 1 (by omega)) (hc 2 (by omega)) (hc 3 (by omega)) (hc 4 (by omega)) (hc 5 (by omega)) (hc 6 (by omega)) (hc 7 (by omega))

set_option maxHeartbeats 1000000 in
set_option maxRecDepth 100000 in
theorem walk (a0 : ByteArray) (a1 : ByteArray) (w0 : a0.size ≤ maxLen) (w1 : a1.size ≤ maxLen) (w : World) :
    Calls Yba.prog 4 #[.string a0, .string a1] w fun e w' => e = .returned (.bool true) ∧ Below w.heap.size w w' := by
  unfold maxLen at w0 w1
  by_cases hl : 4096 < a0.size
  · have hl' : (4096 : Int) < (a0.size : Int) := by omega
    go_enter Yba.func4, Yba.ntmps4
    go_wp2
    go_ret
    exact ⟨rfl, Below.refl _ _⟩
  have hl' : decide ((4096 : Int) < (a0.size : Int)) = false := decide_eq_false (by omega)
  by_cases hm : 4096 < a1.size
  · have hm' : (4096 : Int) < (a1.size : Int) := by omega
    go_enter Yba.func4, Yba.ntmps4
    go_wp2
    go_ret
    exact ⟨rfl, Below.refl _ _⟩
  have hm' : decide ((4096 : Int) < (a1.size : Int)) = false := decide_eq_false (by omega)
  have h8 := padB_size a0
  have hcv := fun w s => Lib.run_convert_string_bytes (P := Yba.prog) w 9 27 5 s Yba.underlying9 Yba.underlying27 Yba.underlying5
  go_enter Yba.func4, Yba.ntmps4
  go_wp2_with (go_at_call 9; refine (pad_any _ _).mono ?_; rintro e w' ⟨rfl, rfl⟩)
  generalize padB a0 = t at h8 ⊢
  have h8' : (8 : Int) ≤ (t.size : Int) := by omega
  refine (word_any t h8 _).mono ?_
  rintro e w1 ⟨rfl, n1, rfl⟩
  go_wp2_with fail
  refine (word_cut0 t h8 _).mono ?_
  rintro e w2 ⟨rfl, n2, rfl⟩
  go_wp2_with fail
  refine (word_cut t a1 h8 _).mono ?_
  rintro e w3 ⟨rfl, n3, rfl⟩
  go_wp2_with fail
  have hcell : ∀ i, i < 8 → (Lib.bytesWorld (w'.drewN (n1 + n2 + n3)) 5 (t.extract 0 8)).cell? ⟨w'.heap.size, i, none⟩ = some (.int .u8 (oct t i)) := by
    intro i hi
    have h := Lib.bytesWorld_cell (w'.drewN (n1 + n2 + n3)) 5 (t.extract 0 8) i (by rw [ByteArray.size_extract]; omega)
    have e : (((t.extract 0 8).data.toList.getD i 0).toNat : Int) = oct t i := by
      rw [← oct_cut0 t i h8 hi]
      unfold oct
      rw [List.getD_eq_getElem?_getD]
    rw [e] at h
    exact h
  have hbel : Below w'.heap.size w' (Lib.bytesWorld (w'.drewN (n1 + n2 + n3)) 5 (t.extract 0 8)) := by
    refine ⟨rfl, rfl, rfl, ?_, fun k hk => Lib.bytesWorld_at_old (w'.drewN (n1 + n2 + n3)) 5 (t.extract 0 8) k hk⟩
    have := Lib.bytesWorld_size (w'.drewN (n1 + n2 + n3)) 5 (t.extract 0 8)
    have e : (w'.drewN (n1 + n2 + n3)).heap.size = w'.heap.size := rfl
    omega
  generalize Lib.bytesWorld (w'.drewN (n1 + n2 + n3)) 5 (t.extract 0 8) = w4 at hcell hbel ⊢
  refine (le_cut t h8 w'.heap.size 8 _ (Nat.le_refl _) w4 hcell).mono ?_
  rintro e w5 ⟨rfl, hb5⟩
  clear hcell
  go_wp2
  go_ret
  exact ⟨rfl, hbel.trans (hb5.mono hbel.size)⟩

/-! ### THE ROW's STEP: WRITTEN OUT: LEAVE IT -/
set_option maxRecDepth 100000 in
theorem lifted (os : Os) (started : os.Started) (H : Type) (enc : TypeId × Value → H) :
    ReturnsInHanded {} Yba.checked os 4 .any (Rows.lawS2596APrefixSpec.pre6 enc Yba.prog Yba.f4 Rows.lawS2596APrefixRow.domain false) (Rows.lawS2596APrefixSpec.post enc Yba.prog Yba.f4 false true false false) := by
  refine returnsInHanded_of_change (C := Yba.checked) own started (by kernel_rfl) Yba.func4
    (ChangeSpec.witness6 (enc := enc) (C := Yba.checked) false ⟨#[], #[.string ByteArray.empty, .string ByteArray.empty], []⟩ 8 (by kernel_rfl) (by kernel_rfl) (by kernel_rfl) (by kernel_rfl)) ?_
  intro W base args ds gs before hval0 hW hcnd _
  have hval : ∀ (j : Nat) t v, Yba.f4.params[j]? = some t → args[j]? = some v → Value.okWide Yba.prog W .any base t v := hval0
  have hW' := hW
  obtain ⟨p, q, hA0, hV, rfl, hfz, hnd⟩ := hW
  have hA : DataW.TrodAll enc Yba.prog W 0 (fun _ => true) true Yba.f4.params.toList args.toList ds p := hA0
  rw [Yba.params4] at hA hval
  obtain ⟨v0, vs0, d0, ds0, p0, q0, hargs, rfl, rfl, h0, r0⟩ := trodAll_cons hA
  obtain ⟨v1, vs1, d1, ds1, p1, q1, rfl, rfl, rfl, h1, r1⟩ := trodAll_cons r0
  obtain ⟨rfl, rfl, rfl⟩ := trodAll_nil r1
  obtain rfl : args = #[v0, v1] := by cases args; simp_all
  obtain ⟨rfl, rfl⟩ := trodVars_none hV
  obtain ⟨a0, rfl, rfl, rfl, w0⟩ := open_string Yba.underlying9 (hval 0 9 v0 rfl rfl) h0
  obtain ⟨a1, rfl, rfl, rfl, w1⟩ := open_string Yba.underlying9 (hval 1 9 v1 rfl rfl) h1
  clear hA0 hval0
  simp only [List.append_nil] at hW'
  refine (walk a0 a1 w0 w1 W).mono fun e W' ⟨he, bel⟩ => ?_
  subst he
  exact ⟨_, rfl, _, _, _, [], [], [], hW', trodAll_mk1 (shut_bool Yba.underlying4 _), (trodAll_cons_mk (shut_string Yba.underlying9 w0) (trodAll_cons_mk (shut_string Yba.underlying9 w1) trodAll_mk0)), rfl, bel.frame _, fun h => by cases h⟩

theorem over : Rows.lawS2596APrefixRow.holds Yba.pinned (OpenSpec.ofChange Rows.lawS2596APrefixSpec) :=
  OpenClaim.holds_of_wide 4 Yba.f4 rfl rfl rfl rfl rfl rfl rfl ⟨rfl, rfl, rfl, rfl, rfl⟩ rfl rfl rfl rfl rfl (by kernel_rfl) Yba.func4 (by kernel_rfl)
    (of_decide_eq_true (by kernel_rfl)) (by unfold Func.isWrapper; first | (rw [if_pos (by decide +kernel)]; kernel_rfl) | (rw [if_neg (by decide +kernel)]; exact ⟨rfl, rfl⟩))
    (fun os started H enc _ => lifted os started H enc)

end Go.Proofs.Ybulkbasw.lawS2596APrefix

namespace Go.Proofs.Ybulkbasw
/-- The statement. -/
theorem prefix_proved : Rows.LawS2596APrefixSaid := lawS2596APrefix.over
end Go.Proofs.Ybulkbasw
