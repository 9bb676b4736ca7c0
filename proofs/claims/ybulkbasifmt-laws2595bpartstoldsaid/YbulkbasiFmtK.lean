import Derived.Test.YbulkbasiFmtJ
namespace Go.Proofs.YbulkbasiFmt
open Go.RowKit
set_option maxRecDepth 100000

/-! ### The runs that the cutter makes, in plain words -/
def off (ks : List (Nat × Nat)) (i : Nat) : Nat := (bytesK (ks.take i)).length
def addsTo (ks : List (Nat × Nat)) : Nat → List Run
  | 0 => []
  | i + 1 => addR (addsTo ks i) (off ks i) (ks.getD i (0, 0)).2
def mx (ks : List (Nat × Nat)) (lo hi : Nat) : Nat := ((ks.take hi).drop lo).foldl (fun m k => max m k.2) 0
def runAt (ks : List (Nat × Nat)) (i j : Nat) : Run := ⟨off ks (64 * j), min 64 (i - 64 * j), mx ks (64 * j) (min (64 * j + 64) i)⟩
theorem mx_succ (ks : List (Nat × Nat)) (lo i : Nat) (hlo : lo ≤ i) (hi : i < ks.length) : mx ks lo (i + 1) = max (mx ks lo i) (ks.getD i (0, 0)).2 := by
  unfold mx
  have e : (ks.take (i + 1)).drop lo = (ks.take i).drop lo ++ [ks.getD i (0, 0)] := by
    rw [List.take_add_one, List.drop_append_of_le_length (by rw [List.length_take]; omega)]
    congr 1
    simp [hi]
  rw [e, List.foldl_append]
  rfl
theorem addsTo_eq (ks : List (Nat × Nat)) : ∀ i, i ≤ ks.length → addsTo ks i = (List.range ((i + 63) / 64)).map (runAt ks i) := by
  intro i
  induction i with
  | zero => intro _; rfl
  | succ i ih =>
    intro hi
    have ih := ih (by omega)
    show addR (addsTo ks i) (off ks i) (ks.getD i (0, 0)).2 = _
    have hold : ∀ j, 64 * j + 64 ≤ i → runAt ks (i + 1) j = runAt ks i j := fun j hj => by
      unfold runAt
      rw [show min 64 (i + 1 - 64 * j) = min 64 (i - 64 * j) from by omega, show min (64 * j + 64) (i + 1) = min (64 * j + 64) i from by omega]
    by_cases ht : i % 64 = 0
    · have hq : i = 64 * (i / 64) := by omega
      have e1 : (i + 63) / 64 = i / 64 := by omega
      have e2 : (i + 1 + 63) / 64 = i / 64 + 1 := by omega
      have hnew : isNew (addsTo ks i) = true := by
        rw [ih, e1]
        unfold isNew
        cases hq' : i / 64 with
        | zero => rfl
        | succ q =>
          rw [List.range_succ, List.map_append]
          simp only [List.map_cons, List.map_nil, List.getLast?_append, List.getLast?_singleton, Option.some_or]
          unfold runAt
          simp
          omega
      unfold addR
      rw [if_pos hnew, ih, e1, e2, List.range_succ, List.map_append]
      unfold bump
      congr 1
      · apply List.map_congr_left
        intro j hj
        simp at hj
        exact (hold j (by omega)).symm
      · simp only [List.map_cons, List.map_nil]
        unfold runAt
        rw [← hq, show min 64 (i + 1 - i) = 0 + 1 from by omega, show min (i + 64) (i + 1) = i + 1 from by omega, mx_succ ks i i (Nat.le_refl _) (by omega)]
        have : mx ks i i = 0 := by unfold mx; rw [List.drop_eq_nil_of_le (by rw [List.length_take]; omega)]; rfl
        rw [this]
    · have e1 : (i + 63) / 64 = i / 64 + 1 := by omega
      have e2 : (i + 1 + 63) / 64 = i / 64 + 1 := by omega
      have el : addsTo ks i = (List.range (i / 64)).map (runAt ks i) ++ [runAt ks i (i / 64)] := by
        rw [ih, e1, List.range_succ, List.map_append]
        rfl
      have hnew : ¬ isNew (addsTo ks i) = true := by
        rw [el]
        unfold isNew
        simp only [List.getLast?_append, List.getLast?_singleton, Option.some_or]
        unfold runAt
        simp
        omega
      unfold addR
      rw [if_neg hnew, el]
      simp only [List.getLast?_append, List.getLast?_singleton, Option.some_or, List.dropLast_concat]
      rw [e2, List.range_succ, List.map_append]
      unfold bump
      congr 1
      · apply List.map_congr_left
        intro j hj
        simp at hj
        exact (hold j (by omega)).symm
      · simp only [List.map_cons, List.map_nil]
        unfold runAt
        rw [show min 64 (i + 1 - 64 * (i / 64)) = min 64 (i - 64 * (i / 64)) + 1 from by omega, show min (64 * (i / 64) + 64) (i + 1) = i + 1 from by omega, show min (64 * (i / 64) + 64) i = i from by omega, mx_succ ks _ i (by omega) (by omega)]
theorem addsTo_small (ks : List (Nat × Nat)) (i : Nat) (hi : i ≤ ks.length) : (addsTo ks i).length ≤ i ∧ ∀ r ∈ addsTo ks i, r.n ≤ 64 := by
  rw [addsTo_eq ks i hi]
  refine ⟨by simp; omega, fun r hr => ?_⟩
  simp at hr
  obtain ⟨j, _, rfl⟩ := hr
  unfold runAt
  simp
  omega
/-- What the cutter ends with. -/
def hiOf (n j : Nat) : Nat := if j + 1 = n / 64 then n else 64 * (j + 1)
def cutRuns (ks : List (Nat × Nat)) : List Run := (List.range (ks.length / 64)).map fun j => ⟨off ks (64 * j), hiOf ks.length j - 64 * j, mx ks (64 * j) (hiOf ks.length j)⟩
theorem mx_join (ks : List (Nat × Nat)) (a b c : Nat) (hab : a ≤ b) (hbc : b ≤ c) : max (mx ks a b) (mx ks b c) = mx ks a c := by
  have key : ∀ (l : List (Nat × Nat)) (m : Nat), l.foldl (fun m k => max m k.2) m = max m (l.foldl (fun m k => max m k.2) 0) := by
    intro l
    induction l with
    | nil => intro m; simp
    | cons k t ih =>
      intro m
      simp only [List.foldl_cons]
      rw [ih (max m k.2), ih (max 0 k.2)]
      omega
  unfold mx
  have e : (ks.take c).drop a = (ks.take b).drop a ++ (ks.take c).drop b := by
    have h1 : ks.take b = (ks.take c).take b := by rw [List.take_take]; congr 1; omega
    rw [h1]
    apply List.ext_getElem?
    intro i
    by_cases hi : a + i < b
    · by_cases hl : a + i < ((ks.take c).take b).length
      · rw [List.getElem?_append_left (by rw [List.length_drop]; omega), List.getElem?_drop, List.getElem?_drop]
        simp [hi, show a + i < c by omega]
      · have hl' : (ks.take c).length ≤ a + i := by rw [List.length_take] at hl; omega
        rw [List.getElem?_drop, List.getElem?_eq_none hl', List.getElem?_append_right (by rw [List.length_drop]; omega), List.getElem?_drop]
        rw [List.getElem?_eq_none (by omega)]
    · by_cases hl : b ≤ (ks.take c).length
      · rw [List.getElem?_append_right (by rw [List.length_drop, List.length_take]; omega), List.getElem?_drop, List.getElem?_drop]
        congr 1
        rw [List.length_drop, List.length_take]
        omega
      · rw [List.getElem?_drop, List.getElem?_eq_none (by omega), List.getElem?_append_right (by rw [List.length_drop, List.length_take]; omega), List.getElem?_drop]
        rw [List.getElem?_eq_none (by omega)]
  rw [e, List.foldl_append]
  exact (key _ _).symm
/-- The two ways in which the stretch can end, where the keys are many. -/
theorem cut_cases (ks : List (Nat × Nat)) (hn : 128 ≤ ks.length) :
    (∃ s r1 r2, addsTo ks ks.length = s ++ [r1] ++ [r2] ∧ r2.n < 64 ∧ r1.n ≤ 64 ∧ joined s r1 r2 = cutRuns ks) ∨ (∃ s r, addsTo ks ks.length = s ++ [r] ∧ 64 ≤ r.n ∧ 1 ≤ s.length ∧ s ++ [r] = cutRuns ks) := by
  have he := addsTo_eq ks ks.length (Nat.le_refl _)
  generalize hN : ks.length = n at *
  obtain ⟨q, hq⟩ : ∃ q, n / 64 = q + 1 := ⟨n / 64 - 1, by omega⟩
  have hold : ∀ j, j < q → runAt ks n j = ⟨off ks (64 * j), hiOf n j - 64 * j, mx ks (64 * j) (hiOf n j)⟩ := fun j hj => by
    unfold runAt hiOf
    rw [if_neg (by omega), show min 64 (n - 64 * j) = 64 * (j + 1) - 64 * j from by omega, show min (64 * j + 64) n = 64 * (j + 1) from by omega]
  have hcut : cutRuns ks = (List.range q).map (runAt ks n) ++ [⟨off ks (64 * q), n - 64 * q, mx ks (64 * q) n⟩] := by
    unfold cutRuns
    rw [hN, hq, List.range_succ, List.map_append]
    congr 1
    · apply List.map_congr_left
      intro j hj
      simp at hj
      exact (hold j hj).symm
    · simp only [List.map_cons, List.map_nil]
      unfold hiOf
      rw [if_pos (by omega)]
  by_cases ht : n % 64 = 0
  · right
    have e1 : (n + 63) / 64 = q + 1 := by omega
    refine ⟨(List.range q).map (runAt ks n), runAt ks n q, ?_, ?_, by simp; omega, ?_⟩
    · rw [he, e1, List.range_succ, List.map_append]
      rfl
    · unfold runAt
      simp
      omega
    · rw [hcut]
      congr 2
      unfold runAt
      rw [show min 64 (n - 64 * q) = n - 64 * q from by omega, show min (64 * q + 64) n = n from by omega]
  · left
    have e1 : (n + 63) / 64 = q + 1 + 1 := by omega
    refine ⟨(List.range q).map (runAt ks n), runAt ks n q, runAt ks n (q + 1), ?_, ?_, ?_, ?_⟩
    · rw [he, e1, List.range_succ, List.range_succ, List.map_append, List.map_append]
      rfl
    · unfold runAt
      simp
      omega
    · unfold runAt
      simp
      omega
    · rw [hcut]
      unfold joined
      congr 2
      unfold runAt
      simp only
      rw [show min 64 (n - 64 * q) + min 64 (n - 64 * (q + 1)) = n - 64 * q from by omega, show min (64 * q + 64) n = 64 * (q + 1) from by omega, show min (64 * (q + 1) + 64) n = n from by omega, mx_join ks _ _ _ (by omega) (by omega)]
end Go.Proofs.YbulkbasiFmt
