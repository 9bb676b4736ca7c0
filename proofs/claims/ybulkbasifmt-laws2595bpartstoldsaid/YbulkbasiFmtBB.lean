import Derived.Test.YbulkbasiFmtZ
import Derived.Test.YbulkbasiFmtT
namespace Go.Proofs.YbulkbasiFmt
open Go.RowKit
set_option maxRecDepth 100000

/-! ### Counting on a sorted list -/
theorem cnt_iff {α : Type} (p : α → Bool) : ∀ (l : List α), l.Pairwise (fun x y => p y = true → p x = true) → ∀ i (h : i < l.length), i < (l.filter p).length ↔ p l[i] = true
  | [], _, i, h => absurd h (by simp)
  | a :: t, hp, i, h => by
    rw [List.pairwise_cons] at hp
    by_cases ha : p a = true
    · rw [List.filter_cons_of_pos ha]
      cases i with
      | zero => simp [ha]
      | succ i =>
        have := cnt_iff p t hp.2 i (by simpa using h)
        simp only [List.length_cons, List.getElem_cons_succ]
        rw [← this]
        omega
    · have h0 : (a :: t).filter p = [] := by
        rw [List.filter_eq_nil_iff]
        intro x hx
        rw [List.mem_cons] at hx
        rcases hx with rfl | hx
        · exact ha
        · exact fun h => ha (hp.1 x hx h)
      have := List.filter_eq_nil_iff.1 h0 (a :: t)[i] (List.getElem_mem h)
      rw [h0]
      simp only [List.length_nil, Nat.not_lt_zero, false_iff]
      exact this
theorem cnt_cut {α : Type} (p q : α → Bool) : ∀ (l : List α), l.Pairwise (fun x y => p y = true → p x = true) → l.Pairwise (fun x y => q y = true → q x = true) → (∀ x, p x = true → q x = true) → (l.take (l.filter q).length).drop (l.filter p).length = l.filter fun x => q x && !p x
  | [], _, _, _ => by simp
  | a :: t, hp, hq, hpq => by
    have ih := cnt_cut p q t (List.pairwise_cons.1 hp).2 (List.pairwise_cons.1 hq).2 hpq
    have nl : ∀ r : α → Bool, (a :: t).Pairwise (fun x y => r y = true → r x = true) → ¬ r a = true → (t.filter r) = [] := by
      intro r hr ha
      rw [List.filter_eq_nil_iff]
      exact fun x hx h => ha ((List.pairwise_cons.1 hr).1 x hx h)
    by_cases ha : p a = true
    · have hb := hpq a ha
      rw [List.filter_cons_of_pos ha, List.filter_cons_of_pos hb, List.filter_cons_of_neg (by simp [ha])]
      simpa using ih
    · rw [List.filter_cons_of_neg ha, nl p hp ha]
      rw [nl p hp ha] at ih
      by_cases hb : q a = true
      · rw [List.filter_cons_of_pos hb, List.filter_cons_of_pos (by simp [ha, hb])]
        simpa using ih
      · rw [List.filter_cons_of_neg hb, List.filter_cons_of_neg (by simp [hb]), nl q hq hb]
        rw [nl q hq hb] at ih
        simpa using ih
theorem incr_len (N : Nat) : ∀ (l : List Nat) (a : Nat), l.Pairwise (· < ·) → (∀ x ∈ l, a ≤ x ∧ x < N) → l.length ≤ N - a
  | [], _, _, _ => by simp
  | x :: t, a, hp, h => by
    rw [List.pairwise_cons] at hp
    have h1 := h x (by simp)
    have := incr_len N t (x + 1) hp.2 (fun y hy => ⟨hp.1 y hy, (h y (by simp [hy])).2⟩)
    simp only [List.length_cons]
    omega

/-! ### The first list -/
theorem lkOf_get (n i : Nat) (h : i < n) : (lkOf n)[i]? = some (2 * i + 2, i + 1) := by simp [lkOf, h]
theorem mx_lk (n lo : Nat) : ∀ hi, lo ≤ hi → hi ≤ n → mx (lkOf n) lo hi ≤ hi ∧ (lo < hi → mx (lkOf n) lo hi = hi) := by
  intro hi hl
  induction hl with
  | refl =>
    intro _
    refine ⟨?_, fun h => absurd h (Nat.lt_irrefl _)⟩
    unfold mx
    rw [List.drop_eq_nil_of_le (by simp; omega)]
    exact Nat.zero_le _
  | @step hi hl ih =>
    intro hn
    have hl' : lo ≤ hi := hl
    have h1 := (ih (by omega)).1
    have e : mx (lkOf n) lo (hi + 1) = max (mx (lkOf n) lo hi) (hi + 1) := by
      unfold mx
      rw [lkOf_take n hi hn, List.drop_append_of_le_length (by rw [List.length_take, lkOf_length]; omega), List.foldl_append]
      rfl
    have e2 : mx (lkOf n) lo (hi.succ) = hi + 1 := by
      show mx (lkOf n) lo (hi + 1) = hi + 1
      rw [e]
      omega
    exact ⟨Nat.le_of_eq e2, fun _ => e2⟩
def nRof (n : Nat) : Nat := if 128 ≤ n then n / 64 else 1
def rsOf (lk : List (Nat × Nat)) : Option (List Run) := if lk.length < 128 then none else some (cutRuns lk)
theorem hiR_ok (n j : Nat) (h : j < nRof n) : 64 * j ≤ hiR n (nRof n) j ∧ hiR n (nRof n) j ≤ n ∧ (1 ≤ nRof n) ∧ (128 ≤ n → 64 * j < hiR n (nRof n) j) := by
  unfold hiR nRof at *
  split <;> split at h <;> split <;> omega
theorem spans_at (n j : Nat) (h : j < nRof n) : (spansOf (lkOf n) (rsOf (lkOf n)))[j]? = some ⟨off (lkOf n) (64 * j), hiR n (nRof n) j - 64 * j, nwR n (nRof n) j⟩ := by
  obtain ⟨h1, h2, h3, h4⟩ := hiR_ok n j h
  unfold spansOf rsOf
  rw [lkOf_length]
  by_cases hn : n < 128
  · have hr : nRof n = 1 := by unfold nRof; rw [if_neg (by omega)]
    have hj : j = 0 := by omega
    subst hj
    rw [if_pos hn, hr]
    have : ¬ 128 ≤ n := by omega
    simp [hiR, nwR, this, off, bytesK]
  · have hr : nRof n = n / 64 := by unfold nRof; rw [if_pos (by omega)]
    rw [if_neg hn]
    have he : hiOf n j = hiR n (nRof n) j := by unfold hiOf hiR; rw [hr] at h ⊢; split <;> split <;> omega
    have hm := (mx_lk n (64 * j) (hiR n (nRof n) j) h1 h2).2 (h4 (by omega))
    rw [hr] at h
    show (cutRuns (lkOf n))[j]? = _
    unfold cutRuns
    rw [lkOf_length, List.getElem?_map, List.getElem?_range h]
    simp only [Option.map_some]
    rw [he, hm]
    unfold nwR
    rw [if_pos (by omega)]
theorem spans_len (n : Nat) : (spansOf (lkOf n) (rsOf (lkOf n))).length = nRof n := by
  unfold spansOf rsOf nRof
  rw [lkOf_length]
  by_cases hn : n < 128
  · rw [if_pos hn, if_neg (by omega)]
    rfl
  · rw [if_neg hn, if_pos (by omega)]
    simp [cutRuns, lkOf_length]
theorem spans_next (n j : Nat) (_ : j < nRof n) (r' : Run) (hr : (spansOf (lkOf n) (rsOf (lkOf n)))[j + 1]? = some r') : r'.at' = (bytesK ((lkOf n).take (hiR n (nRof n) j))).length := by
  have hl : j + 1 < nRof n := by
    rw [← spans_len n]
    exact (List.getElem?_eq_some_iff.1 hr).1
  rw [spans_at n (j + 1) hl] at hr
  have := Option.some.inj hr
  subst this
  show off (lkOf n) (64 * (j + 1)) = _
  unfold off hiR
  rw [if_neg (by omega)]
  rfl
theorem lk_cut (n j : Nat) (h : j < nRof n) : lkOf n = (lkOf n).take (64 * j) ++ ((lkOf n).take (hiR n (nRof n) j)).drop (64 * j) ++ (lkOf n).drop (hiR n (nRof n) j) ∧ (lkOf n).take (64 * j) ++ ((lkOf n).take (hiR n (nRof n) j)).drop (64 * j) = (lkOf n).take (hiR n (nRof n) j) := by
  obtain ⟨h1, h2, h3, h4⟩ := hiR_ok n j h
  have e : (lkOf n).take (64 * j) ++ ((lkOf n).take (hiR n (nRof n) j)).drop (64 * j) = (lkOf n).take (hiR n (nRof n) j) := by
    have : (lkOf n).take (64 * j) = ((lkOf n).take (hiR n (nRof n) j)).take (64 * j) := by rw [List.take_take, Nat.min_eq_left h1]
    rw [this, List.take_append_drop]
  exact ⟨by rw [e, List.take_append_drop], e⟩
theorem lk_last (n j : Nat) (h : j + 1 = nRof n) : (lkOf n).drop (hiR n (nRof n) j) = [] := by
  apply List.drop_eq_nil_of_le
  rw [lkOf_length]
  unfold hiR
  rw [if_pos (by omega)]
  exact Nat.le_refl _
theorem lk_head (n m : Nat) (h1 : 1 ≤ m) (h : m < nRof n) : ∃ xs, ((lkOf n).take (hiR n (nRof n) m)).drop (64 * m) = (128 * m + 2, 64 * m + 1) :: xs := by
  obtain ⟨h2, h3, h4, h5⟩ := hiR_ok n m h
  have hn : 128 ≤ n := by unfold nRof at h; split at h <;> omega
  have hlt := h5 hn
  have hl : 64 * m < ((lkOf n).take (hiR n (nRof n) m)).length := by rw [List.length_take, lkOf_length]; omega
  refine ⟨_, (List.drop_eq_getElem_cons hl).trans (congrArg (· :: _) ?_)⟩
  have := lkOf_get n (64 * m) (by omega)
  rw [List.getElem?_eq_some_iff] at this
  obtain ⟨_, h6⟩ := this
  rw [List.getElem_take, h6]
  congr 1
  omega

/-! ### The names -/
def Tof (nR : Nat) (vs : List Nat) (j : Nat) : Nat := (vs.filter fun v => decide (slotF nR v < j)).length
def partF (nR : Nat) (vs : List Nat) (s : Nat) : List (Nat × Nat) := ((vs.map keyOf).take (Tof nR vs (s + 1))).drop (Tof nR vs s)
theorem slot_mono (nR : Nat) {x y : Nat} (h : x ≤ y) : slotF nR x ≤ slotF nR y := by unfold slotF; omega
theorem slot_down (nR j : Nat) (vs : List Nat) (hv : vs.Pairwise (· < ·)) : vs.Pairwise (fun x y => decide (slotF nR y < j) = true → decide (slotF nR x < j) = true) := by
  refine hv.imp fun {x y} h => ?_
  simp only [decide_eq_true_eq]
  have := slot_mono nR (Nat.le_of_lt h)
  omega
theorem partF_eq (nR : Nat) (vs : List Nat) (hv : vs.Pairwise (· < ·)) (s : Nat) : partF nR vs s = (vs.filter fun v => slotF nR v == s).map keyOf := by
  have := cnt_cut (fun v => decide (slotF nR v < s)) (fun v => decide (slotF nR v < s + 1)) vs (slot_down nR s vs hv) (slot_down nR (s + 1) vs hv) (fun x h => by simp at h ⊢; omega)
  unfold partF Tof
  rw [← List.map_take, ← List.map_drop, this]
  congr 1
  apply List.filter_congr
  intro x _
  by_cases h : slotF nR x = s
  · simp [h]
  · simp only [beq_eq_false_iff_ne.2 h, Bool.and_eq_false_iff, decide_eq_false_iff_not]
    simp
    omega
theorem pc_of (n : Nat) (hn : n ≤ 400) (vs : List Nat) (hv : vs.Pairwise (· < ·)) (hv1 : ∀ v ∈ vs, v < 1000) :
    PC (lkOf n) (vs.map keyOf) (spansOf (lkOf n) (rsOf (lkOf n))) (nRof n) (Tof (nRof n) vs) (slotF (nRof n)) (fun m => 128 * m + 2) (partF (nRof n) vs) where
  nR1 := by unfold nRof; split <;> omega
  nR2 := by unfold nRof; split <;> omega
  len := spans_len n
  lkv := fun k hk => by unfold lkOf at hk; simp at hk; obtain ⟨j, hj, rfl⟩ := hk; simp; omega
  ikv := fun k hk => by
    obtain ⟨v, hm, rfl⟩ := List.mem_map.1 hk
    have := hv1 v hm
    simp [keyOf]
    omega
  lkl := by rw [lkOf_length]; omega
  ikl := by
    have := incr_len 1000 vs 0 hv (fun x hx => ⟨Nat.zero_le _, hv1 x hx⟩)
    rw [List.length_map]
    omega
  nil := fun h => by
    have : n = 0 := by rw [← lkOf_length n, h]; rfl
    subst this
    rfl
  seg := fun j hj => by
    have hc := lk_cut n j hj
    rw [lkOf_length]
    refine ⟨_, _, _, _, spans_at n j hj, hc.1, rfl, rfl, fun r' hr => ?_, fun h => ?_, rfl⟩
    · rw [hc.2]
      exact spans_next n j hj r' hr
    · rw [spans_len] at h
      exact lk_last n j h
  first := fun m h1 hm => by
    have hr : nRof n ≤ 100 := by unfold nRof; split <;> omega
    refine ⟨⟨?_⟩, by omega⟩
    have hc := lk_cut n m hm
    obtain ⟨xs, hx⟩ := lk_head n m h1 hm
    rw [hx] at hc
    refine ⟨_, xs, _, _, _, spans_at n m hm, hc.1, rfl, fun r' hr => ?_, fun h => ?_⟩
    · rw [hc.2]
      exact spans_next n m hm r' hr
    · rw [spans_len] at h
      exact lk_last n m h
  mono := fun m m' h _ => by omega
  sl := fun y m h1 h2 => by unfold slotF; omega
  sl2 := fun y => by
    have : 1 ≤ nRof n := by unfold nRof; split <;> omega
    unfold slotF
    omega
  T0 := by simp [Tof]
  Tn := by
    have : 1 ≤ nRof n := by unfold nRof; split <;> omega
    unfold Tof
    rw [List.length_map, List.filter_eq_self.2]
    intro v _
    simp
    unfold slotF
    omega
  Tm := fun j => by
    unfold Tof
    rw [← List.countP_eq_length_filter, ← List.countP_eq_length_filter]
    apply List.countP_mono_left
    intro v _ h
    simp at h ⊢
    omega
  Ti := fun i h j _ => by
    rw [List.length_map] at h
    have := cnt_iff (fun v => decide (slotF (nRof n) v < j)) vs (slot_down (nRof n) j vs hv) i h
    simp only [decide_eq_true_eq] at this
    simp only [List.getElem_map]
    exact this
  part := fun j => rfl
  hi := fun j hj => by
    have := hiR_ok n j hj
    rw [lkOf_length]
    exact ⟨this.1, this.2.1⟩
end Go.Proofs.YbulkbasiFmt
