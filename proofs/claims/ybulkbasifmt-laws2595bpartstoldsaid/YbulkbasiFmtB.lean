import Derived.Test.YbulkbasiFmtA
namespace Go.Proofs.YbulkbasiFmt
open Go.RowKit
set_option maxRecDepth 100000

/-! ### A slice of bytes, wherever it lies -/
structure Lies (w : World) (g o : Nat) (bs : List Nat) : Prop where
  blk : ∃ arr fr, w.heap[g]? = some (.cells arr 5 fr) ∧ ∀ j (h : j < bs.length), arr[o + j]? = some (bV bs[j])
structure Sl (w : World) (a : Option Addr) (c : Nat) (bs : List Nat) : Prop where
  le : bs.length ≤ c
  lies : ∀ ad, a = some ad → ∃ g o, ad = ⟨g, o, none⟩ ∧ Lies w g o bs
  nil : a = none → bs = []
theorem Lies.cell {w : World} {g o : Nat} {bs : List Nat} (h : Lies w g o bs) (j : Nat) (hj : j < bs.length) : w.cell? ⟨g, o + j, none⟩ = some (bV bs[j]) := by
  obtain ⟨arr, fr, h1, h2⟩ := h.blk
  rw [cell_of_row w g (o + j) arr 5 fr h1]
  exact h2 j hj
theorem Lies.drop {w : World} {g o : Nat} {bs : List Nat} (h : Lies w g o bs) (k : Nat) : Lies w g (o + k) (bs.drop k) := by
  obtain ⟨arr, fr, h1, h2⟩ := h.blk
  refine ⟨arr, fr, h1, fun j hj => ?_⟩
  rw [List.length_drop] at hj
  rw [show o + k + j = o + (k + j) from by omega, h2 (k + j) (by omega), List.getElem_drop]
theorem Lies.take {w : World} {g o : Nat} {bs : List Nat} (h : Lies w g o bs) (k : Nat) : Lies w g o (bs.take k) := by
  obtain ⟨arr, fr, h1, h2⟩ := h.blk
  refine ⟨arr, fr, h1, fun j hj => ?_⟩
  rw [List.length_take] at hj
  rw [h2 j (by omega), List.getElem_take]
theorem Lies.ne {w : World} {g o R : Nat} {bs : List Nat} (h : Lies w g o bs) {cs : Array Value} {t : TypeId} {fr : Nat × Nat} (hR : w.heap[R]? = some (.cells cs t fr)) (ht : t ≠ 5) : g ≠ R := by
  obtain ⟨arr, fr', h1, _⟩ := h.blk
  rintro rfl
  rw [h1] at hR
  simp at hR
  exact ht hR.2.1.symm
theorem Lies.kept {w w' : World} {g o : Nat} {bs : List Nat} {row : Option Nat} (h : Lies w g o bs) (hg : w.grownBy w' row) (hr : row ≠ some g) : Lies w' g o bs := by
  obtain ⟨arr, fr, h1, h2⟩ := h.blk
  exact ⟨arr, fr, (hg.block g (lt_heap h1) (fun e => hr e.symm)).trans h1, h2⟩
theorem Sl.form {w : World} {a : Option Addr} {c : Nat} {bs : List Nat} (h : Sl w a c bs) (hb : bs ≠ []) : ∃ g o, a = some ⟨g, o, none⟩ ∧ Lies w g o bs := by
  cases a with
  | none => exact absurd (h.nil rfl) hb
  | some ad =>
    obtain ⟨g, o, rfl, hl⟩ := h.lies ad rfl
    exact ⟨g, o, rfl, hl⟩
theorem Sl.kept {w w' : World} {a : Option Addr} {c : Nat} {bs : List Nat} {row : Option Nat} (h : Sl w a c bs) (hg : w.grownBy w' row) (hr : ∀ R, row = some R → ∃ cs t fr, w.heap[R]? = some (.cells cs t fr) ∧ t ≠ 5) : Sl w' a c bs := by
  refine ⟨h.le, fun ad had => ?_, h.nil⟩
  obtain ⟨g, o, rfl, hl⟩ := h.lies ad had
  refine ⟨g, o, rfl, hl.kept hg (fun e => ?_)⟩
  obtain ⟨cs, t, fr, h1, h2⟩ := hr g e
  exact hl.ne h1 h2 rfl
theorem Sl.drop {w : World} {g o c : Nat} {bs : List Nat} (h : Sl w (some ⟨g, o, none⟩) c bs) (k : Nat) (hk : k ≤ bs.length) : Sl w (if c = k then some ⟨g, o, none⟩ else some ⟨g, o + k, none⟩) (c - k) (bs.drop k) := by
  obtain ⟨g', o', he, hl⟩ := h.lies _ rfl
  simp at he
  obtain ⟨rfl, rfl⟩ := he
  have hle := h.le
  refine ⟨by rw [List.length_drop]; omega, fun ad had => ?_, fun hn => by split at hn <;> simp at hn⟩
  by_cases hc : c = k
  · rw [if_pos hc] at had
    simp at had
    refine ⟨g, o, had.symm, ?_⟩
    have : bs.drop k = [] := by simp; omega
    rw [this]
    obtain ⟨arr, fr, h1, _⟩ := hl.blk
    exact ⟨arr, fr, h1, fun j hj => by simp at hj⟩
  · rw [if_neg hc] at had
    simp at had
    exact ⟨g, o + k, had.symm, hl.drop k⟩
theorem Sl.take {w : World} {a : Option Addr} {c : Nat} {bs : List Nat} (h : Sl w a c bs) (k : Nat) : Sl w a c (bs.take k) := by
  have hle := h.le
  refine ⟨by rw [List.length_take]; omega, fun ad had => ?_, fun hn => by rw [h.nil hn]; simp⟩
  obtain ⟨g, o, rfl, hl⟩ := h.lies ad had
  exact ⟨g, o, rfl, hl.take k⟩

theorem and127 (x : Nat) (h : x < 256) : bits BinOp.and IntKind.u8 (x : Int) 127 = ((x % 128 : Nat) : Int) := by
  have := (bits_nat .u8 8 (by decide) wraps_u8 x 127 (by omega) (by omega)).1
  have e : x &&& 127 = x % 128 := Nat.and_two_pow_sub_one_eq_mod x 7
  rw [e] at this
  exact_mod_cast this
theorem orsh (x y : Nat) (h : x < 128) (hy : y < 128) : bits BinOp.or IntKind.u64 (x : Int) ((y : Int) * 128) = ((x + y * 128 : Nat) : Int) := by
  have := (bits_nat .u64 16 (by decide) (fun n h0 h1 => by rw [IntKind.wrap_u64]; omega) x (y * 128) (by omega) (by omega)).2
  have e : x ||| (y * 128) = x + y * 128 := by
    have := Nat.two_pow_add_eq_or_of_lt (i := 7) (b := x) (by omega) y
    rw [Nat.or_comm]
    rw [show y * 128 = 2 ^ 7 * y from by omega, ← this]
    omega
  rw [e] at this
  exact_mod_cast this

/-- A world that has grown and, it may be, drawn. -/
structure Gr (w w' : World) (row : Option Nat) : Prop where
  g : w.grownBy w' row
  dr : w.drawn ≤ w'.drawn
theorem Gr.block {w w' : World} {row : Option Nat} (h : Gr w w' row) : ∀ k, k < w.heap.size → some k ≠ row → w'.heap[k]? = w.heap[k]? := h.g.block
theorem Gr.size {w w' : World} {row : Option Nat} (h : Gr w w' row) : w.heap.size ≤ w'.heap.size := h.g.size
theorem Gr.trans {a b c : World} {row : Option Nat} (h : Gr a b row) (k : Gr b c row) : Gr a c row := ⟨h.g.trans k.g, Nat.le_trans h.dr k.dr⟩
theorem Gr.andThen {a b c : World} {row row' : Option Nat} (h : Gr a b row) (k : Gr b c row') (hr : ∀ j, row' = some j → a.heap.size ≤ j ∨ row = some j) : Gr a c row := ⟨h.g.andThen k.g hr, Nat.le_trans h.dr k.dr⟩
theorem Gr.but {a c : World} (h : Gr a c none) (row : Option Nat) : Gr a c row := ⟨h.g.but row, h.dr⟩
theorem gr_refl (w : World) (row : Option Nat) : Gr w w row := ⟨grown_refl w row, Nat.le_refl _⟩
theorem gr_alloc (w : World) (o : Obj) (row : Option Nat) : Gr w (w.alloc o) row := ⟨World.grownBy_alloc w o row, Nat.le_refl _⟩
theorem gr_drewN (w : World) (n : Nat) (row : Option Nat := none) : Gr w (w.drewN n) row := ⟨⟨rfl, rfl, rfl, Nat.le_refl _, fun _ _ _ => rfl⟩, Nat.le_add_right _ _⟩
theorem gr_drew (w : World) (row : Option Nat := none) : Gr w w.drew row := ⟨⟨rfl, rfl, rfl, Nat.le_refl _, fun _ _ _ => rfl⟩, Nat.le_add_right _ _⟩
set_option maxHeartbeats 400000 in
theorem shortUint_any (w : World) (g o c n : Nat) (rest : List Nat) (hn : n < 16384) (h : Lies w g o (verB n ++ rest)) :
    Calls Ybaf.prog 57 #[.slice (some ⟨g, o, none⟩) (verB n ++ rest).length c] w fun e w' => e = .returned (.tuple #[.int .u64 (n : Int), .int .i64 ((verB n).length : Int)]) ∧ Gr w w' none := by
  by_cases hc : n < 128
  · have hv : verB n = [n] := by unfold verB; rw [if_pos hc]
    rw [hv] at h ⊢
    have h0 : w.cell? ⟨g, o, none⟩ = some (bV n) := h.cell 0 (by simp)
    simp only [List.length_append, List.length_singleton]
    have hc' : (n : Int) < 128 := by omega
    clear h
    go_enter Ybaf.func57, Ybaf.ntmps57
    go_wp2
    go_ret2
    exact ⟨rfl, gr_refl _ _⟩
  · have hv : verB n = [n % 128 + 128, n / 128] := by unfold verB; rw [if_neg hc]
    rw [hv] at h ⊢
    have h0 : w.cell? ⟨g, o, none⟩ = some (bV (n % 128 + 128)) := h.cell 0 (by simp)
    have h1 : w.cell? ⟨g, o + 1, none⟩ = some (bV (n / 128)) := h.cell 1 (by simp)
    simp only [List.length_append, List.length_cons, List.length_nil, Nat.zero_add, Nat.reduceAdd]
    have ha := and127 (n % 128 + 128) (by omega)
    have ho := orsh (n % 128) (n / 128) (by omega) (by omega)
    clear h
    go_enter Ybaf.func57, Ybaf.ntmps57
    go_wp2
    go_quiet (fail)
    go_wp2
    go_ret2
    refine ⟨?_, gr_drewN w nq⟩
    have e1 : bits BinOp.and IntKind.u8 ((n : Int) % 128 + 128) 127 = (n : Int) % 128 := by
      have e0 : (n : Int) % 128 + 128 = ((n % 128 + 128 : Nat) : Int) := by omega
      rw [e0, ha]
      omega
    have e2 : IntKind.u64.wrap ((n : Int) % 128) = ((n % 128 : Nat) : Int) := by rw [IntKind.wrap_u64]; omega
    have e3 : (n : Int) / 128 = ((n / 128 : Nat) : Int) := by omega
    have e4 : ((n % 128 + n / 128 * 128 : Nat) : Int) = (n : Int) := by omega
    have e5 : bits BinOp.or IntKind.u64 (IntKind.u64.wrap (bits BinOp.and IntKind.u8 ((n : Int) % 128 + 128) 127)) ((n : Int) / 128 * 128) = (n : Int) := by rw [e1, e2, e3, ho, e4]
    simp only [e5]
    rfl
end Go.Proofs.YbulkbasiFmt
