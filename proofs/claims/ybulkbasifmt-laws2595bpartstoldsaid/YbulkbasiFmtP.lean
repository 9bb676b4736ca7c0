import Derived.Test.YbulkbasiFmtM
namespace Go.Proofs.YbulkbasiFmt
open Go.RowKit
set_option maxRecDepth 100000

def strB (xs : List Nat) : ByteArray := ⟨(xs.map UInt8.ofNat).toArray⟩
theorem conv_sl {w : World} {a : Option Addr} {c : Nat} {xs : List Nat} (h : Sl w a c xs) (hx : ∀ x ∈ xs, x < 256) : (convert 24 9 (.slice a xs.length c)).run Ybaf.prog w = .ok (.string (strB xs)) w := by
  cases a with
  | none =>
    have := h.nil rfl
    subst this
    exact run_convert_bytes_nil (P := Ybaf.prog) w 24 5 Ybaf.underlying24 Ybaf.underlying5 0 c 9 Ybaf.underlying9
  | some ad =>
    obtain ⟨g, o, rfl, hl⟩ := h.lies ad rfl
    have := run_convert_bytes_back (P := Ybaf.prog) w 24 9 5 ⟨g, o, none⟩ c (xs.map UInt8.ofNat) Ybaf.underlying24 Ybaf.underlying5 Ybaf.underlying9 (fun j hj => by
      have hj' : j < xs.length := by simpa using hj
      have e : (⟨g, o, none⟩ : Addr).add j = ⟨g, o + j, none⟩ := by unfold Addr.add; split <;> simp_all
      rw [e, hl.cell j hj', List.getElem_map]
      have := hx xs[j] (List.getElem_mem hj')
      have e2 : (UInt8.ofNat xs[j]).toNat = xs[j] := by rw [UInt8.toNat_ofNat']; omega
      rw [e2])
    rw [List.length_map] at this
    exact this
set_option maxHeartbeats 400000 in
theorem equal_any (w : World) (a b : Option Addr) (c d : Nat) (xs : List Nat) (ha : Sl w a c xs) (hb : Sl w b d xs) (hx : ∀ x ∈ xs, x < 256) :
    Calls Ybaf.prog 11 #[.slice a xs.length c, .slice b xs.length d] w fun e w' => e = .returned (.bool true) ∧ w' = w := by
  have h1 := conv_sl ha hx
  have h2 := conv_sl hb hx
  generalize strB xs = S at h1 h2
  clear ha hb hx
  go_enter Ybaf.func11, Ybaf.ntmps11
  go_wp2
  go_ret
  exact ⟨by simp, rfl⟩

/-! ### The law's own function, called once a run -/
/-- Where the run j of n keys ends, of nR runs. -/
def hiR (n nR j : Nat) : Nat := if j = nR - 1 then n else 64 * j + 64
def nwR (n nR j : Nat) : Nat := if 128 ≤ n then hiR n nR j else 18446744073709551615
structure Env where
  bc : Nat
  bnr : Nat
  bok : Nat
  bn : Nat
  bo : Nat
  bl : Nat
  bw : Nat
/-- What the law's function reads: all of it lies still, but the count of calls. -/
structure EnvOk (w : World) (E : Env) (lk : List (Nat × Nat)) (nR : Nat) (part : Nat → List (Nat × Nat)) (j : Nat) : Prop where
  c : w.heap[E.bc]? = some (.cells #[.int .i64 (j : Int)] 3 (0, 0))
  nr : w.heap[E.bnr]? = some (.cells #[.int .i64 (nR : Int)] 3 (0, 0))
  ok : w.heap[E.bok]? = some (.cells #[.bool true] 4 (0, 0))
  n : w.heap[E.bn]? = some (.cells #[.int .i64 (lk.length : Int)] 3 (0, 0))
  o : ∃ g c, w.heap[E.bo]? = some (.cells #[.slice (some ⟨g, 0, none⟩) (lk.length + 1) c] 25 (0, 0)) ∧ ∃ arr fr, w.heap[g]? = some (.cells arr 3 fr) ∧ g ≠ E.bc ∧ ∀ i, i ≤ lk.length → arr[i]? = some (.int .i64 (off lk i : Int))
  l : ∃ a c, w.heap[E.bl]? = some (.cells #[.slice a (bytesK lk).length c] 24 (0, 0)) ∧ Sl w a c (bytesK lk) ∧ (lk ≠ [] → ∃ g, a = some ⟨g, 0, none⟩) ∧ (lk = [] → a = none ∧ c = 0)
  w' : ∃ g c, w.heap[E.bw]? = some (.cells #[.slice (some ⟨g, 0, none⟩) nR c] 38 (0, 0)) ∧ ∃ arr fr, w.heap[g]? = some (.cells arr 24 fr) ∧ ∀ i, i < nR → ∃ a c, arr[i]? = some (.slice a (bytesK (part i)).length c) ∧ Sl w a c (bytesK (part i))
  nec : E.bc ≠ E.bnr ∧ E.bc ≠ E.bn
theorem verB_lt {n : Nat} (h : n < 16384) : ∀ x ∈ verB n, x < 256 := by
  unfold verB
  split
  · intro x hx; simp at hx; omega
  · intro x hx; simp at hx; omega
theorem encK_lt {v ver : Nat} (h1 : v < 65536) (h2 : ver < 16384) : ∀ x ∈ encK v ver, x < 256 := by
  intro x hx
  unfold encK at hx
  simp at hx
  rcases hx with h | h | h | h | h
  · omega
  · omega
  · omega
  · exact verB_lt h2 x h
  · omega
theorem bytesK_lt {ks : List (Nat × Nat)} (h : ∀ k ∈ ks, k.1 < 65536 ∧ k.2 < 16384) : ∀ x ∈ bytesK ks, x < 256 := by
  intro x hx
  unfold bytesK at hx
  simp at hx
  obtain ⟨a, b, hk, hx⟩ := hx
  exact encK_lt (h (a, b) hk).1 (h (a, b) hk).2 x hx
/-- A block that is no int's is as it was behind the step. -/
theorem EnvOk.step {w w' : World} {E : Env} {lk : List (Nat × Nat)} {nR : Nat} {part : Nat → List (Nat × Nat)} {j : Nat} (h : EnvOk w E lk nR part j) {row : Option Nat} (hg : w.grownBy w' row) (hr : ∀ R, row = some R → ∃ cs t fr, w.heap[R]? = some (.cells cs t fr) ∧ t ≠ 3 ∧ t ≠ 4 ∧ t ≠ 5 ∧ t ≠ 24 ∧ t ≠ 25 ∧ t ≠ 38) : EnvOk w' E lk nR part j := by
  have key : ∀ (k : Nat) (arr : Array Value) (t : TypeId) (fr : Nat × Nat), w.heap[k]? = some (.cells arr t fr) → (t = 3 ∨ t = 4 ∨ t = 5 ∨ t = 24 ∨ t = 25 ∨ t = 38) → w'.heap[k]? = some (.cells arr t fr) := by
    intro k arr t fr hk ht
    refine (hg.block k (lt_heap hk) (fun e => ?_)).trans hk
    obtain ⟨cs, t', fr', h1, h2⟩ := hr k e.symm
    rw [hk] at h1
    simp at h1
    obtain ⟨_, rfl, _⟩ := h1
    rcases ht with e | e | e | e | e | e
    · exact h2.1 e
    · exact h2.2.1 e
    · exact h2.2.2.1 e
    · exact h2.2.2.2.1 e
    · exact h2.2.2.2.2.1 e
    · exact h2.2.2.2.2.2 e
  have f5 : ∀ (k : Nat) (arr : Array Value) (fr : Nat × Nat), w.heap[k]? = some (.cells arr 5 fr) → w'.heap[k]? = some (.cells arr 5 fr) := fun k arr fr hk => key k arr 5 fr hk (by simp)
  refine ⟨key _ _ _ _ h.c (by simp), key _ _ _ _ h.nr (by simp), key _ _ _ _ h.ok (by simp), key _ _ _ _ h.n (by simp), ?_, ?_, ?_, h.nec⟩
  · obtain ⟨g, c, h1, arr, fr, h2, h3, h4⟩ := h.o
    exact ⟨g, c, key _ _ _ _ h1 (by simp), arr, fr, key _ _ _ _ h2 (by simp), h3, h4⟩
  · obtain ⟨a, c, h1, h2, h3⟩ := h.l
    exact ⟨a, c, key _ _ _ _ h1 (by simp), h2.far f5, h3⟩
  · obtain ⟨g, c, h1, arr, fr, h2, h3⟩ := h.w'
    refine ⟨g, c, key _ _ _ _ h1 (by simp), arr, fr, key _ _ _ _ h2 (by simp), fun i hi => ?_⟩
    obtain ⟨a, c, h4, h5⟩ := h3 i hi
    exact ⟨a, c, h4, h5.far f5⟩
/-- The count goes up. -/
theorem EnvOk.count {w : World} {E : Env} {lk : List (Nat × Nat)} {nR : Nat} {part : Nat → List (Nat × Nat)} {j : Nat} (h : EnvOk w E lk nR part j) : EnvOk (w.setCell ⟨E.bc, 0, none⟩ (.int .i64 ((j : Int) + 1))) E lk nR part (j + 1) := by
  have hne : ∀ (k : Nat) (arr : Array Value) (t : TypeId) (fr : Nat × Nat), w.heap[k]? = some (.cells arr t fr) → k ≠ E.bc → (w.setCell ⟨E.bc, 0, none⟩ (.int .i64 ((j : Int) + 1))).heap[k]? = some (.cells arr t fr) := fun k arr t fr hk hn => (heap_setCell_other w ⟨E.bc, 0, none⟩ k _ hn).trans hk
  have ty : ∀ (k : Nat) (arr : Array Value) (t : TypeId) (fr : Nat × Nat), w.heap[k]? = some (.cells arr t fr) → t ≠ 3 → k ≠ E.bc := fun k arr t fr hk ht e => by
    subst e
    rw [h.c] at hk
    simp at hk
    exact ht hk.2.1.symm
  have f5 : ∀ (k : Nat) (arr : Array Value) (fr : Nat × Nat), w.heap[k]? = some (.cells arr 5 fr) → (w.setCell ⟨E.bc, 0, none⟩ (.int .i64 ((j : Int) + 1))).heap[k]? = some (.cells arr 5 fr) := fun k arr fr hk => hne k arr 5 fr hk (ty k arr 5 fr hk (by decide))
  refine ⟨heap_setCell_same w E.bc 0 _ _ _ h.c, hne _ _ _ _ h.nr h.nec.1.symm, hne _ _ _ _ h.ok (ty _ _ _ _ h.ok (by decide)), hne _ _ _ _ h.n h.nec.2.symm, ?_, ?_, ?_, h.nec⟩
  · obtain ⟨g, c, h1, arr, fr, h2, h3, h4⟩ := h.o
    exact ⟨g, c, hne _ _ _ _ h1 (ty _ _ _ _ h1 (by decide)), arr, fr, hne _ _ _ _ h2 h3, h3, h4⟩
  · obtain ⟨a, c, h1, h2, h3⟩ := h.l
    exact ⟨a, c, hne _ _ _ _ h1 (ty _ _ _ _ h1 (by decide)), h2.far f5, h3⟩
  · obtain ⟨g, c, h1, arr, fr, h2, h3⟩ := h.w'
    refine ⟨g, c, hne _ _ _ _ h1 (ty _ _ _ _ h1 (by decide)), arr, fr, hne _ _ _ _ h2 (ty _ _ _ _ h2 (by decide)), fun i hi => ?_⟩
    obtain ⟨a, c, h4, h5⟩ := h3 i hi
    exact ⟨a, c, h4, h5.far f5⟩
end Go.Proofs.YbulkbasiFmt
