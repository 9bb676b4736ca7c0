import Derived.Test.YbulkbaswCanonical
import Derived.Deep.AppendLies
import Derived.Deep.RegionHeldLaw
import Derived.Deep.RegionLaw
namespace Go.Proofs.Ybulkbasw
open Go.RowKit

/-! ### Maps with string keys that are only pushed to -/
abbrev strV (b : List UInt8) : Value := .string ⟨b.toArray⟩
def mapE : Nat → List (List UInt8 × Value) → List MapEntry
  | _, [] => []
  | i, p :: r => { key := strV p.1, val := p.2, born := i } :: mapE (i + 1) r
def mapA (L : List (List UInt8 × Value)) : Array MapEntry := (mapE 0 L).toArray
theorem mapE_append (L : List (List UInt8 × Value)) (p : List UInt8 × Value) : ∀ i, mapE i (L ++ [p]) = mapE i L ++ [{ key := strV p.1, val := p.2, born := i + L.length }] := by
  induction L with
  | nil => intro i; rfl
  | cons a r ih => intro i; simp only [List.cons_append, mapE, ih (i + 1), List.length_cons]; rw [show i + 1 + r.length = i + (r.length + 1) from by omega]
theorem mapA_push (L : List (List UInt8 × Value)) (k : List UInt8) (v : Value) : (mapA L).push { key := strV k, val := v, born := L.length } = mapA (L ++ [(k, v)]) := by
  unfold mapA
  rw [mapE_append]
  simp
def look (L : List (List UInt8 × Value)) (k : List UInt8) : Option Value := (L.find? fun p => p.1 == k).map (·.2)
theorem str_eq (a b : List UInt8) : ((⟨a.toArray⟩ : ByteArray) == ⟨b.toArray⟩) = (a == b) := by
  rw [beq_toListBytes, ByteArray.toList_mk, ByteArray.toList_mk]
theorem findNow_mapE (k : List UInt8) (L : List (List UInt8 × Value)) : ∀ m n, ∃ o, Instr.findNow .string (strV k) (mapE m L) n = some o ∧ o.map (·.2) = look L k := by
  induction L with
  | nil => intro m n; exact ⟨none, rfl, rfl⟩
  | cons p r ih =>
    intro m n
    simp only [mapE, Instr.findNow, strV, Instr.sameNow, str_eq]
    by_cases h : k = p.1
    · refine ⟨some (n, p.2), by simp [h], by simp [look, h]⟩
    · obtain ⟨o, ho, hv⟩ := ih (m + 1) (n + 1)
      have h1 : (k == p.1) = false := by simpa using h
      have h2 : (p.1 == k) = false := by simpa using fun e => h e.symm
      refine ⟨o, by rw [h1]; exact ho, ?_⟩
      rw [hv]
      simp [look, h2]
theorem look_none_find {k : List UInt8} {L : List (List UInt8 × Value)} (h : look L k = none) (m n : Nat) : Instr.findNow .string (strV k) (mapE m L) n = some none := by
  obtain ⟨o, ho, hv⟩ := findNow_mapE k L m n
  rw [h] at hv
  cases o with
  | none => exact ho
  | some x => simp at hv

theorem run_checkKey' (b : Bool) (n : Nat) (k : List UInt8) (w : World) : (Instr.checkKey b (n + 1) 9 (strV k)).run Yba.prog w = .ok () w := by
  simp [Instr.checkKey, strV, Yba.runUnderlying9]
theorem run_checkKey (b : Bool) (k : List UInt8) (w : World) : (Instr.checkKey b 10000 9 (strV k)).run Yba.prog w = .ok () w := run_checkKey' b 9999 k w
theorem run_findKey (k : List UInt8) (L : List (List UInt8 × Value)) (w : World) : ∃ o, (Instr.findKey 9 (strV k) (mapA L).toList).run Yba.prog w = .ok o w ∧ o.map (·.2) = look L k := by
  obtain ⟨o, ho, hv⟩ := findNow_mapE k L 0 0
  refine ⟨o, ?_, hv⟩
  have ho' : Instr.findNow .string (strV k) (mapA L).toList 0 = some o := ho
  simp only [Instr.findKey, Sem.run_bind, Yba.runUnderlying9, Result.andThen_ok, ho', Sem.run_pure]

def setMap (w : World) (M : Nat) (o : Obj) : World := { w with heap := w.heap.setIfInBounds M o }
section
variable {w : World} {M : Nat} {L : List (List UInt8 × Value)}
theorem run_lookup_some {t e : TypeId} (ht : Yba.prog.underlying t = some (.map 9 e)) {k : List UInt8} {v : Value} (hM : w.heap[M]? = some (.map (mapA L) L.length)) (h : look L k = some v) :
    (Instr.lookup t (.map (some M)) (strV k) true).run Yba.prog w = .ok (.tuple #[v, .bool true]) w := by
  obtain ⟨o, ho, hv⟩ := run_findKey k L w
  rw [h] at hv
  obtain ⟨x, rfl, hx⟩ := Option.map_eq_some_iff.1 hv
  simp only [Instr.lookup, Sem.run_bind, run_underlying ht, Result.andThen_ok, MapKept.run_getObj_map hM, Sem.run_pure, run_checkKey, ho, hx, if_true]
theorem run_lookup_none {t e : TypeId} {z : Value} (ht : Yba.prog.underlying t = some (.map 9 e)) (hz : ∀ w, (zeroValue e).run Yba.prog w = .ok z w) {k : List UInt8} (hM : w.heap[M]? = some (.map (mapA L) L.length)) (h : look L k = none) :
    (Instr.lookup t (.map (some M)) (strV k) true).run Yba.prog w = .ok (.tuple #[z, .bool false]) w := by
  obtain ⟨o, ho, hv⟩ := run_findKey k L w
  rw [h] at hv
  have : o = none := by simpa using hv
  subst this
  simp only [Instr.lookup, Sem.run_bind, run_underlying ht, Result.andThen_ok, MapKept.run_getObj_map hM, Sem.run_pure, run_checkKey, ho, hz, if_true]
theorem run_update_new {t e : TypeId} (ht : Yba.prog.underlying t = some (.map 9 e)) {k : List UInt8} (v : Value) (hM : w.heap[M]? = some (.map (mapA L) L.length)) (h : look L k = none) :
    (Instr.mapUpdate t (.map (some M)) (strV k) v).run Yba.prog w = .ok () (setMap w M (.map (mapA (L ++ [(k, v)])) (L ++ [(k, v)]).length)) := by
  obtain ⟨o, ho, hv⟩ := run_findKey k L w
  rw [h] at hv
  have : o = none := by simpa using hv
  subst this
  simp only [Instr.mapUpdate, Sem.run_bind, run_underlying ht, Result.andThen_ok, MapKept.run_getObj_map hM, run_checkKey, ho, MapKept.run_setObj_map _ hM, mapA_push, List.length_append, List.length_cons, List.length_nil, setMap]
end

/-! ### Which blocks stay -/
def Keeps (p : Obj → Prop) (w w' : World) : Prop := ∀ (k : Nat) (o : Obj), w.heap[k]? = some o → p o → w'.heap[k]? = some o
def isTab : Obj → Prop
  | .cells _ t _ => t ∈ [54, 59, 43, 61]
  | .map _ _ => True
  | _ => False
def notTab : Obj → Prop
  | .cells _ t _ => t ∉ [54, 59, 43, 61]
  | _ => False
section
variable {p : Obj → Prop} {a b c : World}
theorem Keeps.refl (p : Obj → Prop) (w : World) : Keeps p w w := fun _ _ h _ => h
theorem Keeps.trans (h : Keeps p a b) (k : Keeps p b c) : Keeps p a c := fun i o ho hp => k i o (h i o ho hp) hp
theorem lt_heap {w : World} {k : Nat} {o : Obj} (h : w.heap[k]? = some o) : k < w.heap.size := (Array.getElem?_eq_some_iff.1 h).1
theorem Keeps.alloc (h : Keeps p a b) (o : Obj) : Keeps p a (b.alloc o) := h.trans fun k _ hx _ => (Below.heap_alloc b o k (lt_heap hx)).trans hx
theorem Keeps.drew (h : Keeps p a b) : Keeps p a b.drew := h
theorem Keeps.drewN (h : Keeps p a b) (n : Nat) : Keeps p a (b.drewN n) := h
theorem Keeps.setCell (h : Keeps p a b) {x : Addr} (hx : ∀ o, b.heap[x.block]? = some o → ¬ p o) (v : Value) : Keeps p a (b.setCell x v) :=
  h.trans fun k o ho hp => (heap_setCell_other b x k v (fun e => hx o (e ▸ ho) hp)).trans ho
theorem Keeps.grown {row : Option Nat} (h : Keeps p a b) (g : b.grownBy c row) (hx : ∀ k o, row = some k → b.heap[k]? = some o → ¬ p o) : Keeps p a c :=
  h.trans fun k o ho hp => (g.block k (lt_heap ho) (fun e => hx k o e.symm ho hp)).trans ho
theorem Keeps.mono {q : Obj → Prop} (h : Keeps p a b) (hq : ∀ o, q o → p o) : Keeps q a b := fun k o ho hp => h k o ho (hq o hp)
theorem own_keeps {N : Nat} {e : TypeId} {size n : Nat} {v : Value} {xs : List Value} (h : a.ownsRow N e size v n xs) (k : Keeps p a b) (hp : ∀ c, p (.cells c e (0, 0))) : b.ownsRow N e size v n xs := by
  refine ⟨h.1, ?_⟩
  rcases h.2 with hn | ⟨g, cap, cur, rfl, hb, hg, rest⟩
  · exact .inl hn
  · exact .inr ⟨g, cap, cur, rfl, hb, k g _ hg (hp cur), rest⟩
/-- The block of a row holds cells of the row's type. -/
theorem own_at {N : Nat} {e : TypeId} {size n : Nat} {v : Value} {xs : List Value} {g : Nat} (h : a.ownsRow N e size v n xs) (hg : v.ownBlock = some g) : ∃ cur, a.heap[g]? = some (.cells cur e (0, 0)) := by
  rcases h.2 with ⟨rfl, _⟩ | ⟨g', cap, cur, rfl, _, hg', _⟩
  · simp [Value.ownBlock] at hg
  · simp [Value.ownBlock] at hg
    exact ⟨cur, hg ▸ hg'⟩
theorem own_set {N : Nat} {e : TypeId} {size n cap g : Nat} {xs : List Value} (h : a.ownsRow N e size (.slice (some ⟨g, 0, none⟩) n cap) n xs) (j : Nat) (u : Value) :
    (a.setCell ⟨g, j, none⟩ u).ownsRow N e size (.slice (some ⟨g, 0, none⟩) n cap) n (xs.set j u) := by
  refine ⟨by simpa using h.1, ?_⟩
  rcases h.2 with ⟨h', _⟩ | ⟨g', cap', cur, he, hb, hg, h1, h2, h3, h4⟩
  · simp at h'
  · simp at he
    obtain ⟨rfl, rfl⟩ := he
    refine .inr ⟨g, cap, _, rfl, hb, heap_setCell_same a g j cur e u hg, h1, h2, by simpa using h3, ?_⟩
    rw [← h4, Array.toList_setIfInBounds, List.take_set]
theorem own_cell {N : Nat} {e : TypeId} {size n cap g : Nat} {xs : List Value} (h : a.ownsRow N e size (.slice (some ⟨g, 0, none⟩) n cap) n xs) (j : Nat) (u : Value) (hj : xs[j]? = some u) : a.cell? ⟨g, j, none⟩ = some u := by
  have := h.cells (g := g) rfl j u hj
  have e : (⟨g, 0, none⟩ : Addr).add j = ⟨g, j, none⟩ := by unfold Addr.add; split <;> simp_all
  rwa [e] at this
end

/-! ### The table in memory -/
structure Key where
  canon : List UInt8
  sps : List (List UInt8)
  pts : List (Int × Nat)
def ptsV (l : List (Int × Nat)) : List Value := l.flatMap fun p => [.int .i64 p.1, .int .i64 (p.2 : Int)]
def keyL (K : List Key) : List (List UInt8 × Value) := K.zipIdx.map fun p => (p.1.canon, .int .i64 (p.2 : Int))
def spL (S : List (List UInt8 × Nat × Nat)) : List (List UInt8 × Value) := S.map fun s => (s.1, .agg #[.int .i64 (s.2.1 : Int), .int .i64 (s.2.2 : Int)])
def flatV (V : List (Value × Value)) : List Value := V.flatMap fun p => [p.1, p.2]

structure TabOk (w : World) (N T M1 M2 : Nat) (pol : Int) (K : List Key) (S : List (List UInt8 × Nat × Nat)) (kv : Value) (V : List (Value × Value)) : Prop where
  tb : w.heap[T]? = some (.cells #[.int .u8 pol, kv, .map (some M1), .map (some M2)] 54 (0, 0))
  m1 : w.heap[M1]? = some (.map (mapA (keyL K)) (keyL K).length)
  m2 : w.heap[M2]? = some (.map (mapA (spL S)) (spL S).length)
  keys : w.ownsRow N 59 2 kv K.length (flatV V)
  len : V.length = K.length
  sp : ∀ (i : Nat) (k : Key) (q : Value × Value), K[i]? = some k → V[i]? = some q → w.ownsRow N 43 1 q.1 k.sps.length (k.sps.map strV)
  pt : ∀ (i : Nat) (k : Key) (q : Value × Value), K[i]? = some k → V[i]? = some q → w.ownsRow N 61 2 q.2 k.pts.length (ptsV k.pts)
  ap1 : ∀ (i j : Nat) (q r : Value × Value), i ≠ j → V[i]? = some q → V[j]? = some r → ∀ g, q.1.ownBlock = some g → r.1.ownBlock ≠ some g
  ap2 : ∀ (i j : Nat) (q r : Value × Value), i ≠ j → V[i]? = some q → V[j]? = some r → ∀ g, q.2.ownBlock = some g → r.2.ownBlock ≠ some g
  nT : N ≤ T
  n1 : N ≤ M1
  n2 : N ≤ M2
  n12 : M1 ≠ M2

theorem TabOk.keeps {w w' : World} {N T M1 M2 : Nat} {pol : Int} {K : List Key} {S : List (List UInt8 × Nat × Nat)} {kv : Value} {V : List (Value × Value)} (h : TabOk w N T M1 M2 pol K S kv V) (k : Keeps isTab w w') : TabOk w' N T M1 M2 pol K S kv V :=
  { h with
    tb := k _ _ h.tb (by simp [isTab])
    m1 := k _ _ h.m1 trivial
    m2 := k _ _ h.m2 trivial
    keys := own_keeps h.keys k (by simp [isTab])
    sp := fun i x q hx hq => own_keeps (h.sp i x q hx hq) k (by simp [isTab])
    pt := fun i x q hx hq => own_keeps (h.pt i x q hx hq) k (by simp [isTab]) }

/-! ### What one step does to the table -/
theorem own_far {w w' : World} {N : Nat} {e : TypeId} {size n : Nat} {v : Value} {xs : List Value} (h : w.ownsRow N e size v n xs) (hg : ∀ g, v.ownBlock = some g → w'.heap[g]? = w.heap[g]?) : w'.ownsRow N e size v n xs := by
  refine ⟨h.1, ?_⟩
  rcases h.2 with hn | ⟨g, cap, cur, rfl, hb, hgg, rest⟩
  · exact .inl hn
  · exact .inr ⟨g, cap, cur, rfl, hb, (hg g rfl).trans hgg, rest⟩
theorem setMap_far (w : World) (M k : Nat) (o : Obj) (h : k ≠ M) : (setMap w M o).heap[k]? = w.heap[k]? := by
  simp [setMap, Array.getElem?_setIfInBounds_ne (fun e => h e.symm)]
theorem setMap_at (w : World) (M : Nat) (o : Obj) (h : M < w.heap.size) : (setMap w M o).heap[M]? = some o := by simp [setMap, h]
theorem obj_ne {w : World} {i j : Nat} {a b : Obj} (hi : w.heap[i]? = some a) (hj : w.heap[j]? = some b) (h : a ≠ b) : i ≠ j := by
  rintro rfl
  rw [hi] at hj
  exact h (by simpa using hj)
theorem flatV_length (V : List (Value × Value)) : (flatV V).length = V.length * 2 := by
  induction V with
  | nil => rfl
  | cons a r ih => simp [flatV] at ih ⊢; omega
theorem flatV_get (V : List (Value × Value)) : ∀ (i : Nat) (q : Value × Value), V[i]? = some q → (flatV V)[i * 2]? = some q.1 ∧ (flatV V)[i * 2 + 1]? = some q.2 := by
  induction V with
  | nil => intro i q h; simp at h
  | cons a r ih =>
    intro i q h
    cases i with
    | zero => simp at h; subst h; exact ⟨rfl, rfl⟩
    | succ i =>
      have := ih i q (by simpa using h)
      rw [show (i + 1) * 2 = i * 2 + 1 + 1 from by omega, show i * 2 + 1 + 1 + 1 = (i * 2 + 1) + 1 + 1 from rfl]
      exact this
theorem flatV_set1 (V : List (Value × Value)) : ∀ (i : Nat) (q : Value × Value) (u : Value), V[i]? = some q → (flatV V).set (i * 2) u = flatV (V.set i (u, q.2)) := by
  induction V with
  | nil => intro i q u h; simp at h
  | cons a r ih =>
    intro i q u h
    cases i with
    | zero => simp at h; subst h; rfl
    | succ i =>
      have := ih i q u (by simpa using h)
      rw [show (i + 1) * 2 = i * 2 + 1 + 1 from by omega]
      show a.1 :: a.2 :: (flatV r).set (i * 2) u = a.1 :: a.2 :: flatV (r.set i (u, q.2))
      rw [this]
theorem flatV_set2 (V : List (Value × Value)) : ∀ (i : Nat) (q : Value × Value) (u : Value), V[i]? = some q → (flatV V).set (i * 2 + 1) u = flatV (V.set i (q.1, u)) := by
  induction V with
  | nil => intro i q u h; simp at h
  | cons a r ih =>
    intro i q u h
    cases i with
    | zero => simp at h; subst h; rfl
    | succ i =>
      have := ih i q u (by simpa using h)
      rw [show (i + 1) * 2 + 1 = i * 2 + 1 + 1 + 1 from by omega]
      show a.1 :: a.2 :: (flatV r).set (i * 2 + 1) u = a.1 :: a.2 :: flatV (r.set i (q.1, u))
      rw [this]
theorem flatV_app (V : List (Value × Value)) (a b : Value) : flatV V ++ [a, b] = flatV (V ++ [(a, b)]) := by simp [flatV]
theorem keyL_app (K : List Key) (k : Key) : keyL K ++ [(k.canon, .int .i64 (K.length : Int))] = keyL (K ++ [k]) := by simp [keyL, List.zipIdx_append]
theorem keyL_length (K : List Key) : (keyL K).length = K.length := by simp [keyL]
theorem keyL_congr {K K' : List Key} (h : K.map (·.canon) = K'.map (·.canon)) : keyL K = keyL K' := by
  have e : ∀ K : List Key, keyL K = (K.map (·.canon)).zipIdx.map fun p => (p.1, .int .i64 (p.2 : Int)) := by
    intro K
    simp [keyL, List.zipIdx_map]
  rw [e, e, h]
theorem spL_app (S : List (List UInt8 × Nat × Nat)) (x : List UInt8) (i j : Nat) : spL S ++ [(x, .agg #[.int .i64 (i : Int), .int .i64 (j : Int)])] = spL (S ++ [(x, i, j)]) := by simp [spL]

section
variable {w : World} {N T M1 M2 : Nat} {pol : Int} {K : List Key} {S : List (List UInt8 × Nat × Nat)} {kv : Value} {V : List (Value × Value)}
/-- Blocks of the table are of four kinds: told apart. -/
theorem TabOk.sp_ne (h : TabOk w N T M1 M2 pol K S kv V) {i : Nat} {k : Key} {q : Value × Value} (hk : K[i]? = some k) (hq : V[i]? = some q) {g : Nat} (hg : q.1.ownBlock = some g) : g ≠ T ∧ g ≠ M1 ∧ g ≠ M2 ∧ kv.ownBlock ≠ some g ∧ ∀ (j : Nat) (r : Value × Value), V[j]? = some r → r.2.ownBlock ≠ some g := by
  obtain ⟨cur, hc⟩ := own_at (h.sp i k q hk hq) hg
  refine ⟨obj_ne hc h.tb (by simp), obj_ne hc h.m1 (by simp), obj_ne hc h.m2 (by simp), fun e => ?_, fun j r hr e => ?_⟩
  · obtain ⟨c2, h2⟩ := own_at h.keys e
    rw [hc] at h2; simp at h2
  · obtain ⟨k', hk'⟩ : ∃ k', K[j]? = some k' := by
      have := (List.getElem?_eq_some_iff.1 hr).1
      exact ⟨_, List.getElem?_eq_getElem (by rw [← h.len]; exact this)⟩
    obtain ⟨c2, h2⟩ := own_at (h.pt j k' r hk' hr) e
    rw [hc] at h2; simp at h2
theorem TabOk.pt_ne (h : TabOk w N T M1 M2 pol K S kv V) {i : Nat} {k : Key} {q : Value × Value} (hk : K[i]? = some k) (hq : V[i]? = some q) {g : Nat} (hg : q.2.ownBlock = some g) : g ≠ T ∧ g ≠ M1 ∧ g ≠ M2 ∧ kv.ownBlock ≠ some g ∧ ∀ (j : Nat) (r : Value × Value), V[j]? = some r → r.1.ownBlock ≠ some g := by
  obtain ⟨cur, hc⟩ := own_at (h.pt i k q hk hq) hg
  refine ⟨obj_ne hc h.tb (by simp), obj_ne hc h.m1 (by simp), obj_ne hc h.m2 (by simp), fun e => ?_, fun j r hr e => ?_⟩
  · obtain ⟨c2, h2⟩ := own_at h.keys e
    rw [hc] at h2; simp at h2
  · obtain ⟨k', hk'⟩ : ∃ k', K[j]? = some k' := by
      have := (List.getElem?_eq_some_iff.1 hr).1
      exact ⟨_, List.getElem?_eq_getElem (by rw [← h.len]; exact this)⟩
    obtain ⟨c2, h2⟩ := own_at (h.sp j k' r hk' hr) e
    rw [hc] at h2; simp at h2
theorem TabOk.kv_ne (h : TabOk w N T M1 M2 pol K S kv V) {g : Nat} (hg : kv.ownBlock = some g) : g ≠ T ∧ g ≠ M1 ∧ g ≠ M2 ∧ ∀ (j : Nat) (r : Value × Value), V[j]? = some r → r.1.ownBlock ≠ some g ∧ r.2.ownBlock ≠ some g := by
  obtain ⟨cur, hc⟩ := own_at h.keys hg
  refine ⟨obj_ne hc h.tb (by simp), obj_ne hc h.m1 (by simp), obj_ne hc h.m2 (by simp), fun j r hr => ?_⟩
  obtain ⟨k', hk'⟩ : ∃ k', K[j]? = some k' := by
    have := (List.getElem?_eq_some_iff.1 hr).1
    exact ⟨_, List.getElem?_eq_getElem (by rw [← h.len]; exact this)⟩
  refine ⟨fun e => ?_, fun e => ?_⟩
  · obtain ⟨c2, h2⟩ := own_at (h.sp j k' r hk' hr) e
    rw [hc] at h2; simp at h2
  · obtain ⟨c2, h2⟩ := own_at (h.pt j k' r hk' hr) e
    rw [hc] at h2; simp at h2

theorem set_some {α : Type} {l : List α} {i j : Nat} {a b : α} (h : (l.set i a)[j]? = some b) : (j = i ∧ b = a ∧ i < l.length) ∨ (j ≠ i ∧ l[j]? = some b) := by
  rw [List.getElem?_set] at h
  by_cases e : i = j
  · subst e
    left
    by_cases hl : i < l.length
    · simp [hl] at h; exact ⟨rfl, h.symm, hl⟩
    · simp [hl] at h
  · rw [if_neg e] at h
    exact .inr ⟨fun x => e x.symm, h⟩

theorem canon_set {K : List Key} {i : Nat} {k k' : Key} (hk : K[i]? = some k) (hc : k'.canon = k.canon) : (K.set i k').map (·.canon) = K.map (·.canon) := by
  apply List.ext_getElem?
  intro x
  rw [List.getElem?_map, List.getElem?_map, List.getElem?_set]
  by_cases e : i = x
  · subst e
    rw [if_pos rfl, if_pos (List.getElem?_eq_some_iff.1 hk).1, hk]
    simp [hc]
  · rw [if_neg e]

/-- A put is appended to key i. -/
theorem TabOk.addPt (h : TabOk w N T M1 M2 pol K S kv V) {i gk cap g' cap' j : Nat} {k : Key} {q : Value × Value} {v : Int} (hk : K[i]? = some k) (hq : V[i]? = some q) (hkv : kv = .slice (some ⟨gk, 0, none⟩) K.length cap) {w1 : World} (hg : w.grownBy w1 q.2.ownBlock)
    (ho : w1.ownsRow N 61 2 (.slice (some ⟨g', 0, none⟩) (k.pts.length + 1) cap') (k.pts.length + 1) (ptsV k.pts ++ [.int .i64 v, .int .i64 (j : Int)])) (hl : q.2.ownBlock = some g' ∨ w.heap.size ≤ g') :
    TabOk (w1.setCell ⟨gk, i * 2 + 1, none⟩ (.slice (some ⟨g', 0, none⟩) (k.pts.length + 1) cap')) N T M1 M2 pol (K.set i { k with pts := k.pts ++ [(v, j)] }) S kv (V.set i (q.1, .slice (some ⟨g', 0, none⟩) (k.pts.length + 1) cap')) := by
  have hgk : kv.ownBlock = some gk := by rw [hkv]; rfl
  obtain ⟨ck, hck⟩ := own_at h.keys hgk
  have kn := h.kv_ne hgk
  -- a block of the table that is neither the row of puts nor the row of keys is as it was
  have far : ∀ (x : Nat) (o : Obj), w.heap[x]? = some o → some x ≠ q.2.ownBlock → x ≠ gk → (w1.setCell ⟨gk, i * 2 + 1, none⟩ (.slice (some ⟨g', 0, none⟩) (k.pts.length + 1) cap')).heap[x]? = some o := fun x o hx h1 h2 =>
    (heap_setCell_other w1 ⟨gk, i * 2 + 1, none⟩ x _ h2).trans ((hg.block x (lt_heap hx) h1).trans hx)
  have hgk1 : some gk ≠ q.2.ownBlock := fun e => (kn.2.2.2 i q hq).2 e.symm
  have keys1 : w1.ownsRow N 59 2 kv K.length (flatV V) := own_far h.keys (fun x hx => by
    have : x = gk := by rw [hgk] at hx; exact (Option.some.inj hx).symm
    subst this
    exact hg.block x (lt_heap hck) hgk1)
  obtain ⟨c1, hc1⟩ := own_at ho (g := g') rfl
  have hck1 : w1.heap[gk]? = some (.cells ck 59 (0, 0)) := (hg.block gk (lt_heap hck) hgk1).trans hck
  have hg'gk : g' ≠ gk := obj_ne hc1 hck1 (by simp)
  have hT : some T ≠ q.2.ownBlock := fun e => (h.pt_ne hk hq e.symm).1 rfl
  have h1' : some M1 ≠ q.2.ownBlock := fun e => (h.pt_ne hk hq e.symm).2.1 rfl
  have h2' : some M2 ≠ q.2.ownBlock := fun e => (h.pt_ne hk hq e.symm).2.2.1 rfl
  have hkey : ∀ (x : Nat) (r : Value × Value), V[x]? = some r → ∃ k', K[x]? = some k' := fun x r hr => ⟨_, List.getElem?_eq_getElem (by rw [← h.len]; exact (List.getElem?_eq_some_iff.1 hr).1)⟩
  refine { tb := far T _ h.tb hT (fun e => kn.1 e.symm), m1 := ?_, m2 := far M2 _ h.m2 h2' (fun e => kn.2.2.1 e.symm), keys := ?_, len := by simpa using h.len, sp := ?_, pt := ?_, ap1 := ?_, ap2 := ?_, nT := h.nT, n1 := h.n1, n2 := h.n2, n12 := h.n12 }
  · have e : keyL (K.set i { k with pts := k.pts ++ [(v, j)] }) = keyL K := keyL_congr (canon_set hk rfl)
    rw [e]
    exact far M1 _ h.m1 h1' (fun e => kn.2.1 e.symm)
  · rw [List.length_set, ← flatV_set2 V i q _ hq]
    rw [hkv] at keys1 ⊢
    exact own_set keys1 _ _
  · intro x k' r hx hr
    rcases set_some hx with ⟨rfl, rfl, _⟩ | ⟨hxi, hx⟩
    · rcases set_some hr with ⟨_, rfl, _⟩ | ⟨hne, _⟩
      · refine own_far (h.sp x k q hk hq) (fun y hy => ?_)
        obtain ⟨cy, hcy⟩ := own_at (h.sp x k q hk hq) hy
        rw [far y _ hcy (fun e => (h.sp_ne hk hq hy).2.2.2.2 x q hq e.symm) (fun e => (h.sp_ne hk hq hy).2.2.2.1 (e ▸ hgk)), hcy]
      · exact absurd rfl hne
    · rcases set_some hr with ⟨e, _⟩ | ⟨_, hr⟩
      · exact absurd e hxi
      · refine own_far (h.sp x k' r hx hr) (fun y hy => ?_)
        obtain ⟨cy, hcy⟩ := own_at (h.sp x k' r hx hr) hy
        rw [far y _ hcy (fun e => (h.sp_ne hx hr hy).2.2.2.2 i q hq e.symm) (fun e => (h.sp_ne hx hr hy).2.2.2.1 (e ▸ hgk)), hcy]
  · intro x k' r hx hr
    rcases set_some hx with ⟨rfl, rfl, _⟩ | ⟨hxi, hx⟩
    · rcases set_some hr with ⟨_, rfl, _⟩ | ⟨hne, _⟩
      · have : ptsV (k.pts ++ [(v, j)]) = ptsV k.pts ++ [.int .i64 v, .int .i64 (j : Int)] := by simp [ptsV]
        simp only [List.length_append, List.length_cons, List.length_nil, Nat.zero_add, this]
        refine own_far ho (fun y hy => ?_)
        have : y = g' := by simpa [Value.ownBlock] using hy.symm
        subst this
        exact heap_setCell_other w1 ⟨gk, x * 2 + 1, none⟩ y _ hg'gk
      · exact absurd rfl hne
    · rcases set_some hr with ⟨e, _⟩ | ⟨_, hr⟩
      · exact absurd e hxi
      · refine own_far (h.pt x k' r hx hr) (fun y hy => ?_)
        obtain ⟨cy, hcy⟩ := own_at (h.pt x k' r hx hr) hy
        rw [far y _ hcy (fun e => h.ap2 x i r q hxi hr hq y hy e.symm) (fun e => (h.pt_ne hx hr hy).2.2.2.1 (e ▸ hgk)), hcy]
  · intro x y r s hxy hr hs g hrg
    have fst : ∀ (z : Nat) (u : Value × Value), (V.set i (q.1, .slice (some ⟨g', 0, none⟩) (k.pts.length + 1) cap'))[z]? = some u → ∃ u', V[z]? = some u' ∧ u'.1 = u.1 := fun z u hu => by
      rcases set_some hu with ⟨rfl, rfl, _⟩ | ⟨_, hu⟩
      · exact ⟨q, hq, rfl⟩
      · exact ⟨u, hu, rfl⟩
    obtain ⟨r', hr', er⟩ := fst x r hr
    obtain ⟨s', hs', es⟩ := fst y s hs
    rw [← es]
    exact h.ap1 x y r' s' hxy hr' hs' g (by rw [er]; exact hrg)
  · have new_ne : ∀ (z : Nat) (u : Value × Value), z ≠ i → V[z]? = some u → u.2.ownBlock ≠ some g' := fun z u hz hu e => by
      rcases hl with hl | hl
      · exact h.ap2 i z q u (fun e => hz e.symm) hq hu g' hl e
      · obtain ⟨k', hk'⟩ := hkey z u hu
        obtain ⟨cu, hcu⟩ := own_at (h.pt z k' u hk' hu) e
        have := lt_heap hcu
        omega
    intro x y r s hxy hr hs g hrg e
    rcases set_some hr with ⟨rfl, rfl, _⟩ | ⟨hxi, hr2⟩
    · rcases set_some hs with ⟨rfl, _⟩ | ⟨hyi, hs2⟩
      · exact absurd rfl hxy
      · have eg : g = g' := by simpa [Value.ownBlock] using hrg.symm
        exact new_ne y s hyi hs2 (eg ▸ e)
    · rcases set_some hs with ⟨rfl, rfl, _⟩ | ⟨hyi, hs2⟩
      · have eg : g = g' := by simpa [Value.ownBlock] using e.symm
        exact new_ne x r hxi hr2 (eg ▸ hrg)
      · exact h.ap2 x y r s hxy hr2 hs2 g hrg e

/-- A spelling is appended to key i. -/
theorem TabOk.addSp (h : TabOk w N T M1 M2 pol K S kv V) {i gk cap g' cap' : Nat} {k : Key} {q : Value × Value} {x0 : List UInt8} (hk : K[i]? = some k) (hq : V[i]? = some q) (hkv : kv = .slice (some ⟨gk, 0, none⟩) K.length cap) {w1 : World} (hg : w.grownBy w1 q.1.ownBlock)
    (ho : w1.ownsRow N 43 1 (.slice (some ⟨g', 0, none⟩) (k.sps.length + 1) cap') (k.sps.length + 1) (k.sps.map strV ++ [strV x0])) (hl : q.1.ownBlock = some g' ∨ w.heap.size ≤ g') :
    TabOk (w1.setCell ⟨gk, i * 2, none⟩ (.slice (some ⟨g', 0, none⟩) (k.sps.length + 1) cap')) N T M1 M2 pol (K.set i { k with sps := k.sps ++ [x0] }) S kv (V.set i (.slice (some ⟨g', 0, none⟩) (k.sps.length + 1) cap', q.2)) := by
  have hgk : kv.ownBlock = some gk := by rw [hkv]; rfl
  obtain ⟨ck, hck⟩ := own_at h.keys hgk
  have kn := h.kv_ne hgk
  -- a block of the table that is neither the row of puts nor the row of keys is as it was
  have far : ∀ (x : Nat) (o : Obj), w.heap[x]? = some o → some x ≠ q.1.ownBlock → x ≠ gk → (w1.setCell ⟨gk, i * 2, none⟩ (.slice (some ⟨g', 0, none⟩) (k.sps.length + 1) cap')).heap[x]? = some o := fun x o hx h1 h2 =>
    (heap_setCell_other w1 ⟨gk, i * 2, none⟩ x _ h2).trans ((hg.block x (lt_heap hx) h1).trans hx)
  have hgk1 : some gk ≠ q.1.ownBlock := fun e => (kn.2.2.2 i q hq).1 e.symm
  have keys1 : w1.ownsRow N 59 2 kv K.length (flatV V) := own_far h.keys (fun x hx => by
    have : x = gk := by rw [hgk] at hx; exact (Option.some.inj hx).symm
    subst this
    exact hg.block x (lt_heap hck) hgk1)
  obtain ⟨c1, hc1⟩ := own_at ho (g := g') rfl
  have hck1 : w1.heap[gk]? = some (.cells ck 59 (0, 0)) := (hg.block gk (lt_heap hck) hgk1).trans hck
  have hg'gk : g' ≠ gk := obj_ne hc1 hck1 (by simp)
  have hT : some T ≠ q.1.ownBlock := fun e => (h.sp_ne hk hq e.symm).1 rfl
  have h1' : some M1 ≠ q.1.ownBlock := fun e => (h.sp_ne hk hq e.symm).2.1 rfl
  have h2' : some M2 ≠ q.1.ownBlock := fun e => (h.sp_ne hk hq e.symm).2.2.1 rfl
  have hkey : ∀ (x : Nat) (r : Value × Value), V[x]? = some r → ∃ k', K[x]? = some k' := fun x r hr => ⟨_, List.getElem?_eq_getElem (by rw [← h.len]; exact (List.getElem?_eq_some_iff.1 hr).1)⟩
  refine { tb := far T _ h.tb hT (fun e => kn.1 e.symm), m1 := ?_, m2 := far M2 _ h.m2 h2' (fun e => kn.2.2.1 e.symm), keys := ?_, len := by simpa using h.len, sp := ?_, pt := ?_, ap1 := ?_, ap2 := ?_, nT := h.nT, n1 := h.n1, n2 := h.n2, n12 := h.n12 }
  · have e : keyL (K.set i { k with sps := k.sps ++ [x0] }) = keyL K := keyL_congr (canon_set hk rfl)
    rw [e]
    exact far M1 _ h.m1 h1' (fun e => kn.2.1 e.symm)
  · rw [List.length_set, ← flatV_set1 V i q _ hq]
    rw [hkv] at keys1 ⊢
    exact own_set keys1 _ _
  · intro x k' r hx hr
    rcases set_some hx with ⟨rfl, rfl, _⟩ | ⟨hxi, hx⟩
    · rcases set_some hr with ⟨_, rfl, _⟩ | ⟨hne, _⟩
      · simp only [List.length_append, List.length_cons, List.length_nil, Nat.zero_add, List.map_append, List.map_cons, List.map_nil]
        refine own_far ho (fun y hy => ?_)
        have : y = g' := by simpa [Value.ownBlock] using hy.symm
        subst this
        exact heap_setCell_other w1 ⟨gk, x * 2, none⟩ y _ hg'gk
      · exact absurd rfl hne
    · rcases set_some hr with ⟨e, _⟩ | ⟨_, hr⟩
      · exact absurd e hxi
      · refine own_far (h.sp x k' r hx hr) (fun y hy => ?_)
        obtain ⟨cy, hcy⟩ := own_at (h.sp x k' r hx hr) hy
        rw [far y _ hcy (fun e => h.ap1 x i r q hxi hr hq y hy e.symm) (fun e => (h.sp_ne hx hr hy).2.2.2.1 (e ▸ hgk)), hcy]
  · intro x k' r hx hr
    rcases set_some hx with ⟨rfl, rfl, _⟩ | ⟨hxi, hx⟩
    · rcases set_some hr with ⟨_, rfl, _⟩ | ⟨hne, _⟩
      · refine own_far (h.pt x k q hk hq) (fun y hy => ?_)
        obtain ⟨cy, hcy⟩ := own_at (h.pt x k q hk hq) hy
        rw [far y _ hcy (fun e => (h.pt_ne hk hq hy).2.2.2.2 x q hq e.symm) (fun e => (h.pt_ne hk hq hy).2.2.2.1 (e ▸ hgk)), hcy]
      · exact absurd rfl hne
    · rcases set_some hr with ⟨e, _⟩ | ⟨_, hr⟩
      · exact absurd e hxi
      · refine own_far (h.pt x k' r hx hr) (fun y hy => ?_)
        obtain ⟨cy, hcy⟩ := own_at (h.pt x k' r hx hr) hy
        rw [far y _ hcy (fun e => (h.pt_ne hx hr hy).2.2.2.2 i q hq e.symm) (fun e => (h.pt_ne hx hr hy).2.2.2.1 (e ▸ hgk)), hcy]
  · have new_ne : ∀ (z : Nat) (u : Value × Value), z ≠ i → V[z]? = some u → u.1.ownBlock ≠ some g' := fun z u hz hu e => by
      rcases hl with hl | hl
      · exact h.ap1 i z q u (fun e => hz e.symm) hq hu g' hl e
      · obtain ⟨k', hk'⟩ := hkey z u hu
        obtain ⟨cu, hcu⟩ := own_at (h.sp z k' u hk' hu) e
        have := lt_heap hcu
        omega
    intro x y r s hxy hr hs g hrg e
    rcases set_some hr with ⟨rfl, rfl, _⟩ | ⟨hxi, hr2⟩
    · rcases set_some hs with ⟨rfl, _⟩ | ⟨hyi, hs2⟩
      · exact absurd rfl hxy
      · have eg : g = g' := by simpa [Value.ownBlock] using hrg.symm
        exact new_ne y s hyi hs2 (eg ▸ e)
    · rcases set_some hs with ⟨rfl, rfl, _⟩ | ⟨hyi, hs2⟩
      · have eg : g = g' := by simpa [Value.ownBlock] using e.symm
        exact new_ne x r hxi hr2 (eg ▸ hrg)
      · exact h.ap1 x y r s hxy hr2 hs2 g hrg e
  · intro x y r s hxy hr hs g hrg
    have fst : ∀ (z : Nat) (u : Value × Value), (V.set i (.slice (some ⟨g', 0, none⟩) (k.sps.length + 1) cap', q.2))[z]? = some u → ∃ u', V[z]? = some u' ∧ u'.2 = u.2 := fun z u hu => by
      rcases set_some hu with ⟨rfl, rfl, _⟩ | ⟨_, hu⟩
      · exact ⟨q, hq, rfl⟩
      · exact ⟨u, hu, rfl⟩
    obtain ⟨r', hr', er⟩ := fst x r hr
    obtain ⟨s', hs', es⟩ := fst y s hs
    rw [← es]
    exact h.ap2 x y r' s' hxy hr' hs' g (by rw [er]; exact hrg)

/-- The spellings' map is written. -/
theorem TabOk.setM2 (h : TabOk w N T M1 M2 pol K S kv V) (S' : List (List UInt8 × Nat × Nat)) : TabOk (setMap w M2 (.map (mapA (spL S')) (spL S').length)) N T M1 M2 pol K S' kv V := by
  have far : ∀ (x : Nat) (c : Array Value) (t : TypeId) (f : Nat × Nat), w.heap[x]? = some (.cells c t f) → (setMap w M2 (.map (mapA (spL S')) (spL S').length)).heap[x]? = w.heap[x]? := fun x c t f hx => setMap_far w M2 x _ (obj_ne hx h.m2 (by simp))
  have own : ∀ {e : TypeId} {size n : Nat} {v : Value} {xs : List Value}, w.ownsRow N e size v n xs → (setMap w M2 (.map (mapA (spL S')) (spL S').length)).ownsRow N e size v n xs := fun ho => own_far ho (fun g hg => by
    obtain ⟨c, hc⟩ := own_at ho hg
    exact far g c _ _ hc)
  exact { h with
    tb := (far T _ _ _ h.tb).trans h.tb
    m1 := (setMap_far w M2 M1 _ h.n12).trans h.m1
    m2 := setMap_at w M2 _ (lt_heap h.m2)
    keys := own h.keys
    sp := fun i k q hk hq => own (h.sp i k q hk hq)
    pt := fun i k q hk hq => own (h.pt i k q hk hq) }

/-- A new key, with no spelling and no put yet. -/
theorem TabOk.addKey (h : TabOk w N T M1 M2 pol K S kv V) {g' cap' : Nat} {c : List UInt8} {w1 : World} (hg : w.grownBy w1 kv.ownBlock)
    (ho : w1.ownsRow N 59 2 (.slice (some ⟨g', 0, none⟩) (K.length + 1) cap') (K.length + 1) (flatV V ++ [.slice none 0 0, .slice none 0 0])) :
    TabOk (setMap (w1.setCell ⟨T, 1, none⟩ (.slice (some ⟨g', 0, none⟩) (K.length + 1) cap')) M1 (.map (mapA (keyL K ++ [(c, .int .i64 (K.length : Int))])) (keyL K ++ [(c, Value.int .i64 (K.length : Int))]).length)) N T M1 M2 pol (K ++ [⟨c, [], []⟩]) S
      (.slice (some ⟨g', 0, none⟩) (K.length + 1) cap') (V ++ [(.slice none 0 0, .slice none 0 0)]) := by
  have hT : some T ≠ kv.ownBlock := fun e => (h.kv_ne e.symm).1 rfl
  have h1' : some M1 ≠ kv.ownBlock := fun e => (h.kv_ne e.symm).2.1 rfl
  have h2' : some M2 ≠ kv.ownBlock := fun e => (h.kv_ne e.symm).2.2.1 rfl
  have hTw : w1.heap[T]? = some (.cells #[.int .u8 pol, kv, .map (some M1), .map (some M2)] 54 (0, 0)) := (hg.block T (lt_heap h.tb) hT).trans h.tb
  have h1w : w1.heap[M1]? = some (.map (mapA (keyL K)) (keyL K).length) := (hg.block M1 (lt_heap h.m1) h1').trans h.m1
  have hT1 : T ≠ M1 := obj_ne h.tb h.m1 (by simp)
  have hT2 : T ≠ M2 := obj_ne h.tb h.m2 (by simp)
  have far : ∀ x, x ≠ T → x ≠ M1 → (setMap (w1.setCell ⟨T, 1, none⟩ (.slice (some ⟨g', 0, none⟩) (K.length + 1) cap')) M1 (.map (mapA (keyL K ++ [(c, .int .i64 (K.length : Int))])) (keyL K ++ [(c, Value.int .i64 (K.length : Int))]).length)).heap[x]? = w1.heap[x]? := fun x a b =>
    (setMap_far _ M1 x _ b).trans (heap_setCell_other w1 ⟨T, 1, none⟩ x _ a)
  obtain ⟨cn, hcn⟩ := own_at ho (g := g') rfl
  have old : ∀ (x : Nat) (k : Key) (r : Value × Value), (K ++ [⟨c, [], []⟩])[x]? = some k → (V ++ [(.slice none 0 0, .slice none 0 0)])[x]? = some r → (K[x]? = some k ∧ V[x]? = some r) ∨ (k = ⟨c, [], []⟩ ∧ r = (.slice none 0 0, .slice none 0 0)) := by
    intro x k r hx hr
    by_cases hlt : x < K.length
    · rw [List.getElem?_append_left hlt] at hx
      rw [List.getElem?_append_left (by rw [h.len]; exact hlt)] at hr
      exact .inl ⟨hx, hr⟩
    · rw [List.getElem?_append_right (by omega)] at hx
      rw [List.getElem?_append_right (by rw [h.len]; omega)] at hr
      have e : x - K.length = 0 := by
        have := (List.getElem?_eq_some_iff.1 hx).1
        simp at this
        omega
      rw [e] at hx
      rw [h.len, e] at hr
      exact .inr ⟨by simpa using hx.symm, by simpa using hr.symm⟩
  have oldV : ∀ (x : Nat) (r : Value × Value), (V ++ [(.slice none 0 0, .slice none 0 0)])[x]? = some r → V[x]? = some r ∨ r = (.slice none 0 0, .slice none 0 0) := by
    intro x r hr
    by_cases hlt : x < V.length
    · rw [List.getElem?_append_left hlt] at hr; exact .inl hr
    · rw [List.getElem?_append_right (by omega)] at hr
      have := (List.getElem?_eq_some_iff.1 hr).1
      simp at this
      have e : x - V.length = 0 := by omega
      rw [e] at hr
      exact .inr (by simpa using hr.symm)
  refine { tb := ?_, m1 := ?_, m2 := ?_, keys := ?_, len := by simp [h.len], sp := ?_, pt := ?_, ap1 := ?_, ap2 := ?_, nT := h.nT, n1 := h.n1, n2 := h.n2, n12 := h.n12 }
  · exact (setMap_far _ M1 T _ hT1).trans (heap_setCell_same w1 T 1 _ _ _ hTw)
  · rw [← keyL_app K ⟨c, [], []⟩]
    exact setMap_at _ M1 _ (by simpa using lt_heap h1w)
  · exact (far M2 (fun e => hT2 e.symm) (fun e => h.n12 e.symm)).trans ((hg.block M2 (lt_heap h.m2) h2').trans h.m2)
  · rw [show (K ++ [(⟨c, [], []⟩ : Key)]).length = K.length + 1 from by simp, ← flatV_app]
    refine own_far ho (fun y hy => ?_)
    have : y = g' := by simpa [Value.ownBlock] using hy.symm
    subst this
    exact far y (obj_ne hcn hTw (by simp)) (obj_ne hcn h1w (by simp))
  · intro x k r hx hr
    rcases old x k r hx hr with ⟨hx, hr⟩ | ⟨rfl, rfl⟩
    · refine own_far (h.sp x k r hx hr) (fun y hy => ?_)
      have n := h.sp_ne hx hr hy
      obtain ⟨cy, hcy⟩ := own_at (h.sp x k r hx hr) hy
      exact (far y n.1 n.2.1).trans (hg.block y (lt_heap hcy) (fun e => n.2.2.2.1 e.symm))
    · exact World.ownsRow_nil _ _ _ _
  · intro x k r hx hr
    rcases old x k r hx hr with ⟨hx, hr⟩ | ⟨rfl, rfl⟩
    · refine own_far (h.pt x k r hx hr) (fun y hy => ?_)
      have n := h.pt_ne hx hr hy
      obtain ⟨cy, hcy⟩ := own_at (h.pt x k r hx hr) hy
      exact (far y n.1 n.2.1).trans (hg.block y (lt_heap hcy) (fun e => n.2.2.2.1 e.symm))
    · exact World.ownsRow_nil _ _ _ _
  · intro x y r s hxy hr hs g hrg
    rcases oldV x r hr with hr | rfl
    · rcases oldV y s hs with hs | rfl
      · exact h.ap1 x y r s hxy hr hs g hrg
      · simp [Value.ownBlock]
    · simp [Value.ownBlock] at hrg
  · intro x y r s hxy hr hs g hrg
    rcases oldV x r hr with hr | rfl
    · rcases oldV y s hs with hs | rfl
      · exact h.ap2 x y r s hxy hr hs g hrg
      · simp [Value.ownBlock]
    · simp [Value.ownBlock] at hrg
end
theorem keeps_alloc (w : World) (o : Obj) (p : Obj → Prop) : Keeps p w (w.alloc o) := (Keeps.refl p w).alloc o

end Go.Proofs.Ybulkbasw
