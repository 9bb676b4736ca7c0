import Derived.Test.YbulkbaswLook
namespace Go.Proofs.Ybulkbasw
open Go.RowKit

/-- The keys after a script of puts. -/
def foldK (L : List (List UInt8 × Int)) : List Key := L.foldl (fun K p => stepK K p.1 p.2) []
theorem foldK_snoc (L : List (List UInt8 × Int)) (l : List UInt8) (v : Int) : foldK (L ++ [(l, v)]) = stepK (foldK L) l v := by simp [foldK]
def keyAt (K : List Key) (c : List UInt8) : Option Key := (K.findIdx? fun k => k.canon == c).bind fun i => K[i]?

theorem ensure_cases {K : List Key} {c : List UInt8} {k : Key} (hk : (ensure K c)[idxOf K c]? = some k) : (ensure K c = K ∧ keyAt K c = some k ∧ k ∈ K) ∨ (ensure K c = K ++ [⟨c, [], []⟩] ∧ idxOf K c = K.length ∧ k = ⟨c, [], []⟩ ∧ keyAt K c = none) := by
  unfold ensure idxOf keyAt at *
  cases h : K.findIdx? fun k => k.canon == c with
  | none =>
    rw [h] at hk
    simp at hk
    exact .inr ⟨rfl, by simp, hk.symm, by simp⟩
  | some i =>
    rw [h] at hk
    simp at hk
    exact .inl ⟨rfl, by simpa using hk, List.mem_of_getElem? hk⟩
theorem get_step {K : List Key} {l : List UInt8} {v : Int} {k : Key} (hk : (ensure K (canonL l))[idxOf K (canonL l)]? = some k) {x : Nat} {k' : Key} (h : (stepK K l v)[x]? = some k') : (x = idxOf K (canonL l) ∧ k' = putK k l v) ∨ (x ≠ idxOf K (canonL l) ∧ K[x]? = some k') := by
  rw [stepK_eq hk, List.getElem?_set] at h
  by_cases hx : idxOf K (canonL l) = x
  · rw [if_pos hx] at h
    subst hx
    split at h
    · exact .inl ⟨rfl, by simpa using h.symm⟩
    · simp at h
  · rw [if_neg hx] at h
    refine .inr ⟨fun e => hx e.symm, ?_⟩
    rcases ensure_cases hk with ⟨e, _, _⟩ | ⟨e, e2, _, _⟩
    · rw [e] at h; exact h
    · rw [e] at h
      rw [e2] at hx
      have hlt := (List.getElem?_eq_some_iff.1 h).1
      simp at hlt
      rw [List.getElem?_append_left (by omega)] at h
      exact h
theorem len_step (K : List Key) (l : List UInt8) (v : Int) : (stepK K l v).length ≤ K.length + 1 := by
  obtain ⟨k, hk, _⟩ := ensure_get K (canonL l)
  rw [stepK_eq hk, List.length_set]
  rcases ensure_cases hk with ⟨e, _, _⟩ | ⟨e, _⟩
  · rw [e]; omega
  · rw [e]; simp

structure Inv (n : Nat) (K : List Key) : Prop where
  len : K.length ≤ n
  key : ∀ k ∈ K, k.pts.length ≤ n ∧ k.sps.length ≤ n ∧ k.pts ≠ [] ∧ ∀ p ∈ k.pts, p.2 < k.sps.length
theorem putK_sps (k : Key) (l : List UInt8) (v : Int) : (putK k l v).sps.length ≤ k.sps.length + 1 ∧ k.sps.length ≤ (putK k l v).sps.length ∧ k.sps.idxOf l < (putK k l v).sps.length := by
  unfold putK
  by_cases h : l ∈ k.sps
  · simp [h, List.idxOf_lt_length_of_mem]
  · simp [h, List.idxOf_eq_length h]
theorem Inv.step {n : Nat} {K : List Key} (h : Inv n K) (l : List UInt8) (v : Int) : Inv (n + 1) (stepK K l v) := by
  obtain ⟨k, hk, _⟩ := ensure_get K (canonL l)
  have kb : k.pts.length ≤ n ∧ k.sps.length ≤ n ∧ ∀ p ∈ k.pts, p.2 < k.sps.length := by
    rcases ensure_cases hk with ⟨_, _, hm⟩ | ⟨_, _, rfl, _⟩
    · have := h.key k hm; exact ⟨this.1, this.2.1, this.2.2.2⟩
    · simp
  refine ⟨Nat.le_trans (len_step K l v) (Nat.succ_le_succ h.len), fun k' hm => ?_⟩
  obtain ⟨x, hx⟩ := List.getElem?_of_mem hm
  rcases get_step hk hx with ⟨_, rfl⟩ | ⟨_, hx⟩
  · have := putK_sps k l v
    refine ⟨by simp [putK, kb.1], by omega, by simp [putK], fun p hp => ?_⟩
    simp only [putK, List.mem_append, List.mem_singleton] at hp
    rcases hp with hp | rfl
    · have := kb.2.2 p hp; omega
    · exact this.2.2
  · have := h.key k' (List.mem_of_getElem? hx)
    exact ⟨by omega, by omega, this.2.2.1, this.2.2.2⟩
theorem inv_nil : Inv 0 [] := ⟨by simp, by simp⟩
theorem snoc_ind {α : Type} {P : List α → Prop} (h0 : P []) (h1 : ∀ r a, P r → P (r ++ [a])) (l : List α) : P l := by
  rw [← List.reverse_reverse l]
  induction l.reverse with
  | nil => exact h0
  | cons a r ih => rw [List.reverse_cons]; exact h1 _ _ ih
theorem idxOf_get {α : Type} [BEq α] [LawfulBEq α] (l : List α) (x : α) (h : x ∈ l) : l[l.idxOf x]? = some x := by
  induction l with
  | nil => simp at h
  | cons a r ih =>
    rw [List.idxOf_cons]
    by_cases e : a == x
    · simp [e]; simpa using e
    · rcases List.mem_cons.1 h with rfl | hm
      · simp at e
      · simp only [e]
        simpa using ih hm
theorem inv_fold (L : List (List UInt8 × Int)) : Inv L.length (foldK L) := by
  refine snoc_ind (P := fun L => Inv L.length (foldK L)) ?_ ?_ L
  · exact inv_nil
  · intro r a ih
    obtain ⟨l, v⟩ := a
    rw [foldK_snoc]
    simpa using ih.step l v
theorem view_put (k : Key) (l : List UInt8) (v : Int) (hp : ∀ p ∈ k.pts, p.2 < k.sps.length) : viewK (putK k l v) = viewK k ++ [(l, v)] := by
  unfold viewK putK
  simp only [List.map_append, List.map_cons, List.map_nil]
  congr 1
  · apply List.map_congr_left
    intro p hpm
    have := hp p hpm
    by_cases h : l ∈ k.sps
    · simp [h]
    · simp [h, List.getElem?_append_left this]
  · by_cases h : l ∈ k.sps
    · simp [h, idxOf_get _ _ h]
    · simp [h, List.idxOf_eq_length h]
theorem keyAt_step {K : List Key} {l : List UInt8} {v : Int} {k : Key} (hk : (ensure K (canonL l))[idxOf K (canonL l)]? = some k) (c : List UInt8) : keyAt (stepK K l v) c = if c = canonL l then some (putK k l v) else keyAt K c := by
  have hi : idxOf K (canonL l) < (ensure K (canonL l)).length := (List.getElem?_eq_some_iff.1 hk).1
  have hfc : ∀ c, (stepK K l v).findIdx? (fun k => k.canon == c) = (ensure K (canonL l)).findIdx? (fun k => k.canon == c) := fun c => by
    rw [stepK_eq hk, find_canon, canon_set (k' := putK k l v) hk rfl, ← find_canon]
  unfold keyAt
  rw [hfc]
  by_cases hc : c = canonL l
  · subst hc
    rw [ensure_find, stepK_eq hk]
    simp [hi]
  · rw [if_neg hc]
    rcases ensure_cases hk with ⟨e, _, _⟩ | ⟨e, e2, _, _⟩
    · rw [e, stepK_eq hk, e]
      cases h2 : K.findIdx? fun k => k.canon == c with
      | none => rfl
      | some x =>
        obtain ⟨hx, h3, _⟩ := List.findIdx?_eq_some_iff_getElem.1 h2
        have hne : idxOf K (canonL l) ≠ x := by
          rintro rfl
          rw [e] at hk
          rw [List.getElem?_eq_getElem hx] at hk
          simp at hk
          obtain ⟨k2, hk2, hc2⟩ := ensure_get K (canonL l)
          rw [e, List.getElem?_eq_getElem hx] at hk2
          simp at hk2
          rw [hk2] at h3
          exact hc ((eq_of_beq h3).symm.trans hc2)
        simp [hne]
    · have hnc : (canonL l == c) = false := by simpa using fun e => hc e.symm
      rw [stepK_eq hk, e, e2, List.findIdx?_append]
      cases h2 : K.findIdx? fun k => k.canon == c with
      | none => simp [hnc]
      | some x =>
        obtain ⟨hx, _, _⟩ := List.findIdx?_eq_some_iff_getElem.1 h2
        simp [List.getElem?_append_left hx]
theorem view_fold (L : List (List UInt8 × Int)) (c : List UInt8) : (keyAt (foldK L) c).elim [] viewK = L.filter fun p => canonL p.1 == c := by
  refine snoc_ind (P := fun L => (keyAt (foldK L) c).elim [] viewK = L.filter fun p => canonL p.1 == c) ?_ ?_ L
  · rfl
  · intro r a ih
    obtain ⟨l, v⟩ := a
    obtain ⟨k, hk, _⟩ := ensure_get (foldK r) (canonL l)
    rw [foldK_snoc, keyAt_step hk, List.filter_append]
    by_cases hc : c = canonL l
    · subst hc
      rw [if_pos rfl, ← ih]
      rcases ensure_cases hk with ⟨_, e, hm⟩ | ⟨_, _, rfl, e⟩
      · rw [e]
        simp [view_put k l v ((inv_fold r).key k hm).2.2.2]
      · rw [e]
        have hv := view_put ⟨canonL l, [], []⟩ l v (by simp)
        simp only [Option.elim_some, Option.elim_none, hv]
        simp [viewK]
    · have : (canonL l == c) = false := by simpa using fun e => hc e.symm
      rw [if_neg hc, ih]
      simp [this]
end Go.Proofs.Ybulkbasw
