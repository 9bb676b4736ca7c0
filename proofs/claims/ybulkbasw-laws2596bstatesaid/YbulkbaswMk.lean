import Derived.Test.YbulkbaswPlain
namespace Go.Proofs.Ybulkbasw
open Go.RowKit

/-! ### The law's own model in memory: rows of (canon, spellings, puts) -/
def flatM (C : List (List UInt8)) (V : List (Value × Value)) : List Value := (C.zip V).flatMap fun p => [strV p.1, p.2.1, p.2.2]
theorem flatM_get (C : List (List UInt8)) : ∀ (V : List (Value × Value)) (i : Nat) (c : List UInt8) (q : Value × Value), C[i]? = some c → V[i]? = some q → (flatM C V)[i * 3]? = some (strV c) ∧ (flatM C V)[i * 3 + 1]? = some q.1 ∧ (flatM C V)[i * 3 + 2]? = some q.2 := by
  induction C with
  | nil => intro V i c q h; simp at h
  | cons a r ih =>
    intro V i c q h hq
    cases V with
    | nil => simp at hq
    | cons b s =>
      cases i with
      | zero => simp at h hq; subst h; subst hq; exact ⟨rfl, rfl, rfl⟩
      | succ i =>
        have := ih s i c q (by simpa using h) (by simpa using hq)
        rw [show (i + 1) * 3 = i * 3 + 1 + 1 + 1 from by omega]
        exact this
theorem flatM_set1 (C : List (List UInt8)) : ∀ (V : List (Value × Value)) (i : Nat) (q : Value × Value) (u : Value), V[i]? = some q → (flatM C V).set (i * 3 + 1) u = flatM C (V.set i (u, q.2)) := by
  induction C with
  | nil => intro V i q u h; rfl
  | cons a r ih =>
    intro V i q u h
    cases V with
    | nil => simp at h
    | cons b s =>
      cases i with
      | zero => simp at h; subst h; rfl
      | succ i =>
        have := ih s i q u (by simpa using h)
        rw [show (i + 1) * 3 + 1 = (i * 3 + 1) + 1 + 1 + 1 from by omega]
        show strV a :: b.1 :: b.2 :: (flatM r s).set (i * 3 + 1) u = strV a :: b.1 :: b.2 :: flatM r (s.set i (u, q.2))
        rw [this]
theorem flatM_set2 (C : List (List UInt8)) : ∀ (V : List (Value × Value)) (i : Nat) (q : Value × Value) (u : Value), V[i]? = some q → (flatM C V).set (i * 3 + 2) u = flatM C (V.set i (q.1, u)) := by
  induction C with
  | nil => intro V i q u h; rfl
  | cons a r ih =>
    intro V i q u h
    cases V with
    | nil => simp at h
    | cons b s =>
      cases i with
      | zero => simp at h; subst h; rfl
      | succ i =>
        have := ih s i q u (by simpa using h)
        rw [show (i + 1) * 3 + 2 = (i * 3 + 2) + 1 + 1 + 1 from by omega]
        show strV a :: b.1 :: b.2 :: (flatM r s).set (i * 3 + 2) u = strV a :: b.1 :: b.2 :: flatM r (s.set i (q.1, u))
        rw [this]
theorem flatM_app (C : List (List UInt8)) (V : List (Value × Value)) (h : C.length = V.length) (c : List UInt8) (a b : Value) : flatM C V ++ [strV c, a, b] = flatM (C ++ [c]) (V ++ [(a, b)]) := by
  unfold flatM
  rw [List.zip_append h]
  simp

structure MkOk (w : World) (N : Nat) (K : List Key) (kv : Value) (V : List (Value × Value)) : Prop where
  keys : w.ownsRow N 47 3 kv K.length (flatM (K.map (·.canon)) V)
  len : V.length = K.length
  sp : ∀ (i : Nat) (k : Key) (q : Value × Value), K[i]? = some k → V[i]? = some q → w.ownsRow N 9 1 q.1 k.sps.length (k.sps.map strV)
  pt : ∀ (i : Nat) (k : Key) (q : Value × Value), K[i]? = some k → V[i]? = some q → w.ownsRow N 49 2 q.2 k.pts.length (ptsV k.pts)
  ap1 : ∀ (i j : Nat) (q r : Value × Value), i ≠ j → V[i]? = some q → V[j]? = some r → ∀ g, q.1.ownBlock = some g → r.1.ownBlock ≠ some g
  ap2 : ∀ (i j : Nat) (q r : Value × Value), i ≠ j → V[i]? = some q → V[j]? = some r → ∀ g, q.2.ownBlock = some g → r.2.ownBlock ≠ some g

section
variable {w : World} {N : Nat} {K : List Key} {kv : Value} {V : List (Value × Value)}
theorem MkOk.keeps {w' : World} {p : Obj → Prop} (h : MkOk w N K kv V) (k : Keeps p w w') (hp : ∀ c t, t ∈ [47, 9, 49] → p (.cells c t (0, 0))) : MkOk w' N K kv V :=
  { h with
    keys := own_keeps h.keys k (fun c => hp c _ (by simp))
    sp := fun i x q hx hq => own_keeps (h.sp i x q hx hq) k (fun c => hp c _ (by simp))
    pt := fun i x q hx hq => own_keeps (h.pt i x q hx hq) k (fun c => hp c _ (by simp)) }
theorem MkOk.keyOf (h : MkOk w N K kv V) {j : Nat} {r : Value × Value} (hr : V[j]? = some r) : ∃ k', K[j]? = some k' :=
  ⟨_, List.getElem?_eq_getElem (by rw [← h.len]; exact (List.getElem?_eq_some_iff.1 hr).1)⟩
theorem MkOk.sp_ne (h : MkOk w N K kv V) {i : Nat} {k : Key} {q : Value × Value} (hk : K[i]? = some k) (hq : V[i]? = some q) {g : Nat} (hg : q.1.ownBlock = some g) : kv.ownBlock ≠ some g ∧ ∀ (j : Nat) (r : Value × Value), V[j]? = some r → r.2.ownBlock ≠ some g := by
  obtain ⟨cur, hc⟩ := own_at (h.sp i k q hk hq) hg
  refine ⟨fun e => ?_, fun j r hr e => ?_⟩
  · obtain ⟨c2, h2⟩ := own_at h.keys e
    rw [hc] at h2; simp at h2
  · obtain ⟨k', hk'⟩ := h.keyOf hr
    obtain ⟨c2, h2⟩ := own_at (h.pt j k' r hk' hr) e
    rw [hc] at h2; simp at h2
theorem MkOk.pt_ne (h : MkOk w N K kv V) {i : Nat} {k : Key} {q : Value × Value} (hk : K[i]? = some k) (hq : V[i]? = some q) {g : Nat} (hg : q.2.ownBlock = some g) : kv.ownBlock ≠ some g ∧ ∀ (j : Nat) (r : Value × Value), V[j]? = some r → r.1.ownBlock ≠ some g := by
  obtain ⟨cur, hc⟩ := own_at (h.pt i k q hk hq) hg
  refine ⟨fun e => ?_, fun j r hr e => ?_⟩
  · obtain ⟨c2, h2⟩ := own_at h.keys e
    rw [hc] at h2; simp at h2
  · obtain ⟨k', hk'⟩ := h.keyOf hr
    obtain ⟨c2, h2⟩ := own_at (h.sp j k' r hk' hr) e
    rw [hc] at h2; simp at h2
theorem MkOk.kv_ne (h : MkOk w N K kv V) {g : Nat} (hg : kv.ownBlock = some g) : ∀ (j : Nat) (r : Value × Value), V[j]? = some r → r.1.ownBlock ≠ some g ∧ r.2.ownBlock ≠ some g := by
  obtain ⟨cur, hc⟩ := own_at h.keys hg
  intro j r hr
  obtain ⟨k', hk'⟩ := h.keyOf hr
  refine ⟨fun e => ?_, fun e => ?_⟩
  · obtain ⟨c2, h2⟩ := own_at (h.sp j k' r hk' hr) e
    rw [hc] at h2; simp at h2
  · obtain ⟨c2, h2⟩ := own_at (h.pt j k' r hk' hr) e
    rw [hc] at h2; simp at h2

/-- A put is appended to key i. -/
theorem MkOk.addPt (h : MkOk w N K kv V) {i gk cap g' cap' j : Nat} {k : Key} {q : Value × Value} {v : Int} (hk : K[i]? = some k) (hq : V[i]? = some q) (hkv : kv = .slice (some ⟨gk, 0, none⟩) K.length cap) {w1 : World} (hg : w.grownBy w1 q.2.ownBlock)
    (ho : w1.ownsRow N 49 2 (.slice (some ⟨g', 0, none⟩) (k.pts.length + 1) cap') (k.pts.length + 1) (ptsV k.pts ++ [.int .i64 v, .int .i64 (j : Int)])) (hl : q.2.ownBlock = some g' ∨ w.heap.size ≤ g') :
    MkOk (w1.setCell ⟨gk, i * 3 + 2, none⟩ (.slice (some ⟨g', 0, none⟩) (k.pts.length + 1) cap')) N (K.set i { k with pts := k.pts ++ [(v, j)] }) kv (V.set i (q.1, .slice (some ⟨g', 0, none⟩) (k.pts.length + 1) cap')) := by
  have hgk : kv.ownBlock = some gk := by rw [hkv]; rfl
  obtain ⟨ck, hck⟩ := own_at h.keys hgk
  have kn := h.kv_ne hgk
  -- a block of the table that is neither the row of puts nor the row of keys is as it was
  have far : ∀ (x : Nat) (o : Obj), w.heap[x]? = some o → some x ≠ q.2.ownBlock → x ≠ gk → (w1.setCell ⟨gk, i * 3 + 2, none⟩ (.slice (some ⟨g', 0, none⟩) (k.pts.length + 1) cap')).heap[x]? = some o := fun x o hx h1 h2 =>
    (heap_setCell_other w1 ⟨gk, i * 3 + 2, none⟩ x _ h2).trans ((hg.block x (lt_heap hx) h1).trans hx)
  have hgk1 : some gk ≠ q.2.ownBlock := fun e => (kn i q hq).2 e.symm
  have keys1 : w1.ownsRow N 47 3 kv K.length (flatM (K.map (·.canon)) V) := own_far h.keys (fun x hx => by
    have : x = gk := by rw [hgk] at hx; exact (Option.some.inj hx).symm
    subst this
    exact hg.block x (lt_heap hck) hgk1)
  obtain ⟨c1, hc1⟩ := own_at ho (g := g') rfl
  have hck1 : w1.heap[gk]? = some (.cells ck 47 (0, 0)) := (hg.block gk (lt_heap hck) hgk1).trans hck
  have hg'gk : g' ≠ gk := obj_ne hc1 hck1 (by simp)
  have hkey : ∀ (x : Nat) (r : Value × Value), V[x]? = some r → ∃ k', K[x]? = some k' := fun x r hr => ⟨_, List.getElem?_eq_getElem (by rw [← h.len]; exact (List.getElem?_eq_some_iff.1 hr).1)⟩
  refine { keys := ?_, len := by simpa using h.len, sp := ?_, pt := ?_, ap1 := ?_, ap2 := ?_ }
  · rw [List.length_set, canon_set (k' := { k with pts := k.pts ++ [(v, j)] }) hk rfl, ← flatM_set2 (K.map (·.canon)) V i q _ hq]
    rw [hkv] at keys1 ⊢
    exact own_set keys1 _ _
  · intro x k' r hx hr
    rcases set_some hx with ⟨rfl, rfl, _⟩ | ⟨hxi, hx⟩
    · rcases set_some hr with ⟨_, rfl, _⟩ | ⟨hne, _⟩
      · refine own_far (h.sp x k q hk hq) (fun y hy => ?_)
        obtain ⟨cy, hcy⟩ := own_at (h.sp x k q hk hq) hy
        rw [far y _ hcy (fun e => (h.sp_ne hk hq hy).2 x q hq e.symm) (fun e => (h.sp_ne hk hq hy).1 (e ▸ hgk)), hcy]
      · exact absurd rfl hne
    · rcases set_some hr with ⟨e, _⟩ | ⟨_, hr⟩
      · exact absurd e hxi
      · refine own_far (h.sp x k' r hx hr) (fun y hy => ?_)
        obtain ⟨cy, hcy⟩ := own_at (h.sp x k' r hx hr) hy
        rw [far y _ hcy (fun e => (h.sp_ne hx hr hy).2 i q hq e.symm) (fun e => (h.sp_ne hx hr hy).1 (e ▸ hgk)), hcy]
  · intro x k' r hx hr
    rcases set_some hx with ⟨rfl, rfl, _⟩ | ⟨hxi, hx⟩
    · rcases set_some hr with ⟨_, rfl, _⟩ | ⟨hne, _⟩
      · have : ptsV (k.pts ++ [(v, j)]) = ptsV k.pts ++ [.int .i64 v, .int .i64 (j : Int)] := by simp [ptsV]
        simp only [List.length_append, List.length_cons, List.length_nil, Nat.zero_add, this]
        refine own_far ho (fun y hy => ?_)
        have : y = g' := by simpa [Value.ownBlock] using hy.symm
        subst this
        exact heap_setCell_other w1 ⟨gk, x * 3 + 2, none⟩ y _ hg'gk
      · exact absurd rfl hne
    · rcases set_some hr with ⟨e, _⟩ | ⟨_, hr⟩
      · exact absurd e hxi
      · refine own_far (h.pt x k' r hx hr) (fun y hy => ?_)
        obtain ⟨cy, hcy⟩ := own_at (h.pt x k' r hx hr) hy
        rw [far y _ hcy (fun e => h.ap2 x i r q hxi hr hq y hy e.symm) (fun e => (h.pt_ne hx hr hy).1 (e ▸ hgk)), hcy]
  · intro x y r s hxy hr hs g hrg
    have fst : ∀ (z : Nat) (u : Value × Value), (V.set i (q.1, .slice (some ⟨g', 0, none⟩) (k.pts.length + 1) cap'))[z]? = some u → ∃ u', V[z]? = some u' ∧ u'.1 = u.1 := fun z u hu => by
      rcases set_some hu with ⟨rfl, rfl, _⟩ | ⟨_, hu⟩
      · exact ⟨q, hq, rfl⟩
      · exact ⟨u, hu, rfl⟩
    obtain ⟨r', hr', er⟩ := fst x r hr
    obtain ⟨s', hs', es⟩ := fst y s hs
    rw [← es]
    exact h.ap1 x y r' s' hxy hr' hs' g (by rw [er]; exact hrg)
  · have new_ne : ∀ (z : Nat) (u : Value × Value), z ≠ i → V[z]? = some u → u.2.ownBlock ≠ some g' := fun z u hz hu e => by
      rcases hl with hl | hl
      · exact h.ap2 i z q u (fun e => hz e.symm) hq hu g' hl e
      · obtain ⟨k', hk'⟩ := hkey z u hu
        obtain ⟨cu, hcu⟩ := own_at (h.pt z k' u hk' hu) e
        have := lt_heap hcu
        omega
    intro x y r s hxy hr hs g hrg e
    rcases set_some hr with ⟨rfl, rfl, _⟩ | ⟨hxi, hr2⟩
    · rcases set_some hs with ⟨rfl, _⟩ | ⟨hyi, hs2⟩
      · exact absurd rfl hxy
      · have eg : g = g' := by simpa [Value.ownBlock] using hrg.symm
        exact new_ne y s hyi hs2 (eg ▸ e)
    · rcases set_some hs with ⟨rfl, rfl, _⟩ | ⟨hyi, hs2⟩
      · have eg : g = g' := by simpa [Value.ownBlock] using e.symm
        exact new_ne x r hxi hr2 (eg ▸ hrg)
      · exact h.ap2 x y r s hxy hr2 hs2 g hrg e

/-- A spelling is appended to key i. -/
theorem MkOk.addSp (h : MkOk w N K kv V) {i gk cap g' cap' : Nat} {k : Key} {q : Value × Value} {x0 : List UInt8} (hk : K[i]? = some k) (hq : V[i]? = some q) (hkv : kv = .slice (some ⟨gk, 0, none⟩) K.length cap) {w1 : World} (hg : w.grownBy w1 q.1.ownBlock)
    (ho : w1.ownsRow N 9 1 (.slice (some ⟨g', 0, none⟩) (k.sps.length + 1) cap') (k.sps.length + 1) (k.sps.map strV ++ [strV x0])) (hl : q.1.ownBlock = some g' ∨ w.heap.size ≤ g') :
    MkOk (w1.setCell ⟨gk, i * 3 + 1, none⟩ (.slice (some ⟨g', 0, none⟩) (k.sps.length + 1) cap')) N (K.set i { k with sps := k.sps ++ [x0] }) kv (V.set i (.slice (some ⟨g', 0, none⟩) (k.sps.length + 1) cap', q.2)) := by
  have hgk : kv.ownBlock = some gk := by rw [hkv]; rfl
  obtain ⟨ck, hck⟩ := own_at h.keys hgk
  have kn := h.kv_ne hgk
  -- a block of the table that is neither the row of puts nor the row of keys is as it was
  have far : ∀ (x : Nat) (o : Obj), w.heap[x]? = some o → some x ≠ q.1.ownBlock → x ≠ gk → (w1.setCell ⟨gk, i * 3 + 1, none⟩ (.slice (some ⟨g', 0, none⟩) (k.sps.length + 1) cap')).heap[x]? = some o := fun x o hx h1 h2 =>
    (heap_setCell_other w1 ⟨gk, i * 3 + 1, none⟩ x _ h2).trans ((hg.block x (lt_heap hx) h1).trans hx)
  have hgk1 : some gk ≠ q.1.ownBlock := fun e => (kn i q hq).1 e.symm
  have keys1 : w1.ownsRow N 47 3 kv K.length (flatM (K.map (·.canon)) V) := own_far h.keys (fun x hx => by
    have : x = gk := by rw [hgk] at hx; exact (Option.some.inj hx).symm
    subst this
    exact hg.block x (lt_heap hck) hgk1)
  obtain ⟨c1, hc1⟩ := own_at ho (g := g') rfl
  have hck1 : w1.heap[gk]? = some (.cells ck 47 (0, 0)) := (hg.block gk (lt_heap hck) hgk1).trans hck
  have hg'gk : g' ≠ gk := obj_ne hc1 hck1 (by simp)
  have hkey : ∀ (x : Nat) (r : Value × Value), V[x]? = some r → ∃ k', K[x]? = some k' := fun x r hr => ⟨_, List.getElem?_eq_getElem (by rw [← h.len]; exact (List.getElem?_eq_some_iff.1 hr).1)⟩
  refine { keys := ?_, len := by simpa using h.len, sp := ?_, pt := ?_, ap1 := ?_, ap2 := ?_ }
  · rw [List.length_set, canon_set (k' := { k with sps := k.sps ++ [x0] }) hk rfl, ← flatM_set1 (K.map (·.canon)) V i q _ hq]
    rw [hkv] at keys1 ⊢
    exact own_set keys1 _ _
  · intro x k' r hx hr
    rcases set_some hx with ⟨rfl, rfl, _⟩ | ⟨hxi, hx⟩
    · rcases set_some hr with ⟨_, rfl, _⟩ | ⟨hne, _⟩
      · simp only [List.length_append, List.length_cons, List.length_nil, Nat.zero_add, List.map_append, List.map_cons, List.map_nil]
        refine own_far ho (fun y hy => ?_)
        have : y = g' := by simpa [Value.ownBlock] using hy.symm
        subst this
        exact heap_setCell_other w1 ⟨gk, x * 3 + 1, none⟩ y _ hg'gk
      · exact absurd rfl hne
    · rcases set_some hr with ⟨e, _⟩ | ⟨_, hr⟩
      · exact absurd e hxi
      · refine own_far (h.sp x k' r hx hr) (fun y hy => ?_)
        obtain ⟨cy, hcy⟩ := own_at (h.sp x k' r hx hr) hy
        rw [far y _ hcy (fun e => h.ap1 x i r q hxi hr hq y hy e.symm) (fun e => (h.sp_ne hx hr hy).1 (e ▸ hgk)), hcy]
  · intro x k' r hx hr
    rcases set_some hx with ⟨rfl, rfl, _⟩ | ⟨hxi, hx⟩
    · rcases set_some hr with ⟨_, rfl, _⟩ | ⟨hne, _⟩
      · refine own_far (h.pt x k q hk hq) (fun y hy => ?_)
        obtain ⟨cy, hcy⟩ := own_at (h.pt x k q hk hq) hy
        rw [far y _ hcy (fun e => (h.pt_ne hk hq hy).2 x q hq e.symm) (fun e => (h.pt_ne hk hq hy).1 (e ▸ hgk)), hcy]
      · exact absurd rfl hne
    · rcases set_some hr with ⟨e, _⟩ | ⟨_, hr⟩
      · exact absurd e hxi
      · refine own_far (h.pt x k' r hx hr) (fun y hy => ?_)
        obtain ⟨cy, hcy⟩ := own_at (h.pt x k' r hx hr) hy
        rw [far y _ hcy (fun e => (h.pt_ne hx hr hy).2 i q hq e.symm) (fun e => (h.pt_ne hx hr hy).1 (e ▸ hgk)), hcy]
  · have new_ne : ∀ (z : Nat) (u : Value × Value), z ≠ i → V[z]? = some u → u.1.ownBlock ≠ some g' := fun z u hz hu e => by
      rcases hl with hl | hl
      · exact h.ap1 i z q u (fun e => hz e.symm) hq hu g' hl e
      · obtain ⟨k', hk'⟩ := hkey z u hu
        obtain ⟨cu, hcu⟩ := own_at (h.sp z k' u hk' hu) e
        have := lt_heap hcu
        omega
    intro x y r s hxy hr hs g hrg e
    rcases set_some hr with ⟨rfl, rfl, _⟩ | ⟨hxi, hr2⟩
    · rcases set_some hs with ⟨rfl, _⟩ | ⟨hyi, hs2⟩
      · exact absurd rfl hxy
      · have eg : g = g' := by simpa [Value.ownBlock] using hrg.symm
        exact new_ne y s hyi hs2 (eg ▸ e)
    · rcases set_some hs with ⟨rfl, rfl, _⟩ | ⟨hyi, hs2⟩
      · have eg : g = g' := by simpa [Value.ownBlock] using e.symm
        exact new_ne x r hxi hr2 (eg ▸ hrg)
      · exact h.ap1 x y r s hxy hr2 hs2 g hrg e
  · intro x y r s hxy hr hs g hrg
    have fst : ∀ (z : Nat) (u : Value × Value), (V.set i (.slice (some ⟨g', 0, none⟩) (k.sps.length + 1) cap', q.2))[z]? = some u → ∃ u', V[z]? = some u' ∧ u'.2 = u.2 := fun z u hu => by
      rcases set_some hu with ⟨rfl, rfl, _⟩ | ⟨_, hu⟩
      · exact ⟨q, hq, rfl⟩
      · exact ⟨u, hu, rfl⟩
    obtain ⟨r', hr', er⟩ := fst x r hr
    obtain ⟨s', hs', es⟩ := fst y s hs
    rw [← es]
    exact h.ap2 x y r' s' hxy hr' hs' g (by rw [er]; exact hrg)


/-- A new key, with no spelling and no put yet. -/
theorem MkOk.addKey (h : MkOk w N K kv V) {kv' : Value} {c : List UInt8} {w1 : World} (hg : w.grownBy w1 kv.ownBlock)
    (ho : w1.ownsRow N 47 3 kv' (K.length + 1) (flatM (K.map (·.canon)) V ++ [strV c, .slice none 0 0, .slice none 0 0])) :
    MkOk w1 N (K ++ [⟨c, [], []⟩]) kv' (V ++ [(.slice none 0 0, .slice none 0 0)]) := by
  have old : ∀ (x : Nat) (k : Key) (r : Value × Value), (K ++ [⟨c, [], []⟩])[x]? = some k → (V ++ [(.slice none 0 0, .slice none 0 0)])[x]? = some r → (K[x]? = some k ∧ V[x]? = some r) ∨ (k = ⟨c, [], []⟩ ∧ r = (.slice none 0 0, .slice none 0 0)) := by
    intro x k r hx hr
    by_cases hlt : x < K.length
    · rw [List.getElem?_append_left hlt] at hx
      rw [List.getElem?_append_left (by rw [h.len]; exact hlt)] at hr
      exact .inl ⟨hx, hr⟩
    · rw [List.getElem?_append_right (by omega)] at hx
      rw [List.getElem?_append_right (by rw [h.len]; omega)] at hr
      have e : x - K.length = 0 := by
        have := (List.getElem?_eq_some_iff.1 hx).1
        simp at this
        omega
      rw [e] at hx
      rw [h.len, e] at hr
      exact .inr ⟨by simpa using hx.symm, by simpa using hr.symm⟩
  have oldV : ∀ (x : Nat) (r : Value × Value), (V ++ [(.slice none 0 0, .slice none 0 0)])[x]? = some r → V[x]? = some r ∨ r = (.slice none 0 0, .slice none 0 0) := by
    intro x r hr
    by_cases hlt : x < V.length
    · rw [List.getElem?_append_left hlt] at hr; exact .inl hr
    · rw [List.getElem?_append_right (by omega)] at hr
      have := (List.getElem?_eq_some_iff.1 hr).1
      simp at this
      have e : x - V.length = 0 := by omega
      rw [e] at hr
      exact .inr (by simpa using hr.symm)
  refine { keys := ?_, len := by simp [h.len], sp := ?_, pt := ?_, ap1 := ?_, ap2 := ?_ }
  · rw [show (K ++ [(⟨c, [], []⟩ : Key)]).length = K.length + 1 from by simp, List.map_append, List.map_cons, List.map_nil, ← flatM_app _ _ (by simp [h.len])]
    exact ho
  · intro x k r hx hr
    rcases old x k r hx hr with ⟨hx, hr⟩ | ⟨rfl, rfl⟩
    · refine own_far (h.sp x k r hx hr) (fun y hy => ?_)
      have n := h.sp_ne hx hr hy
      obtain ⟨cy, hcy⟩ := own_at (h.sp x k r hx hr) hy
      exact hg.block y (lt_heap hcy) (fun e => n.1 e.symm)
    · exact World.ownsRow_nil _ _ _ _
  · intro x k r hx hr
    rcases old x k r hx hr with ⟨hx, hr⟩ | ⟨rfl, rfl⟩
    · refine own_far (h.pt x k r hx hr) (fun y hy => ?_)
      have n := h.pt_ne hx hr hy
      obtain ⟨cy, hcy⟩ := own_at (h.pt x k r hx hr) hy
      exact hg.block y (lt_heap hcy) (fun e => n.1 e.symm)
    · exact World.ownsRow_nil _ _ _ _
  · intro x y r s hxy hr hs g hrg
    rcases oldV x r hr with hr | rfl
    · rcases oldV y s hs with hs | rfl
      · exact h.ap1 x y r s hxy hr hs g hrg
      · simp [Value.ownBlock]
    · simp [Value.ownBlock] at hrg
  · intro x y r s hxy hr hs g hrg
    rcases oldV x r hr with hr | rfl
    · rcases oldV y s hs with hs | rfl
      · exact h.ap2 x y r s hxy hr hs g hrg
      · simp [Value.ownBlock]
    · simp [Value.ownBlock] at hrg
end
theorem mk_nil (w : World) (N : Nat) : MkOk w N [] (.slice none 0 0) [] :=
  { keys := World.ownsRow_nil _ _ _ _, len := rfl, sp := fun i k q hk => by simp at hk, pt := fun i k q hk => by simp at hk, ap1 := fun i j q r _ hq => by simp at hq, ap2 := fun i j q r _ hq => by simp at hq }
end Go.Proofs.Ybulkbasw
