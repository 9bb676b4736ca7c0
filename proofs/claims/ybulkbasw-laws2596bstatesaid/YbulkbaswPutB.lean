import Derived.Test.YbulkbaswPut
namespace Go.Proofs.Ybulkbasw
open Go.RowKit

/-! ### The plain table -/
/-- Where a spelling stands: the first key with its canonical form, and its place there. -/
def posOf (K : List Key) (l : List UInt8) : Option (Nat × Nat) := (K.findIdx? fun k => k.canon == canonL l).bind fun i => K[i]?.bind fun k => if l ∈ k.sps then some (i, k.sps.idxOf l) else none
def putK (k : Key) (l : List UInt8) (v : Int) : Key := ⟨k.canon, if l ∈ k.sps then k.sps else k.sps ++ [l], k.pts ++ [(v, k.sps.idxOf l)]⟩
def stepK (K : List Key) (l : List UInt8) (v : Int) : List Key := match (ensure K (canonL l))[idxOf K (canonL l)]? with
  | some k => (ensure K (canonL l)).set (idxOf K (canonL l)) (putK k l v)
  | none => K
def SOk (K : List Key) (S : List (List UInt8 × Nat × Nat)) : Prop := ∀ l, (S.find? fun s => s.1 == l).map (·.2) = posOf K l

theorem look_spL (S : List (List UInt8 × Nat × Nat)) (l : List UInt8) : look (spL S) l = ((S.find? fun s => s.1 == l).map (·.2)).map fun p => Value.agg #[.int .i64 (p.1 : Int), .int .i64 (p.2 : Int)] := by
  induction S with
  | nil => rfl
  | cons a r ih =>
    simp only [spL, look, List.map_cons, List.find?_cons] at ih ⊢
    by_cases h : a.1 = l
    · simp [h]
    · have h' : (a.1 == l) = false := by simpa using h
      simp only [h', ih]
theorem find_canon (K : List Key) (c : List UInt8) : K.findIdx? (fun k => k.canon == c) = (K.map (·.canon)).findIdx? (· == c) := by
  rw [List.findIdx?_map]; rfl
theorem ensure_find (K : List Key) (c : List UInt8) : (ensure K c).findIdx? (fun k => k.canon == c) = some (idxOf K c) := by
  unfold ensure idxOf
  cases h : K.findIdx? fun k => k.canon == c with
  | none => simp [List.findIdx?_append, h]
  | some i => simp [h]
theorem posOf_ensure (K : List Key) (c l : List UInt8) : posOf (ensure K c) l = posOf K l := by
  unfold ensure
  cases h : K.findIdx? fun k => k.canon == c with
  | some i => rfl
  | none =>
    simp only [posOf, List.findIdx?_append]
    cases h2 : K.findIdx? fun k => k.canon == canonL l with
    | some i =>
      obtain ⟨hi, _, _⟩ := List.findIdx?_eq_some_iff_getElem.1 h2
      simp [List.getElem?_append_left hi]
    | none =>
      simp only [Option.none_or, Option.bind_none]
      by_cases hc : c = canonL l
      · simp [hc]
      · have : (c == canonL l) = false := by simpa using hc
        simp [this]
theorem posOf_set_other {K : List Key} {i : Nat} {k k' : Key} (hk : K[i]? = some k) (hc : k'.canon = k.canon) (l : List UInt8) (hl : k.canon ≠ canonL l) : posOf (K.set i k') l = posOf K l := by
  have e : (K.set i k').findIdx? (fun k => k.canon == canonL l) = K.findIdx? (fun k => k.canon == canonL l) := by rw [find_canon, find_canon, canon_set hk hc]
  unfold posOf
  rw [e]
  cases h2 : K.findIdx? fun k => k.canon == canonL l with
  | none => rfl
  | some x =>
    obtain ⟨hx, h3, _⟩ := List.findIdx?_eq_some_iff_getElem.1 h2
    have : i ≠ x := by
      rintro rfl
      rw [List.getElem?_eq_getElem hx] at hk
      simp at hk
      subst hk
      exact hl (by simpa using h3)
    simp only [Option.bind_some, List.getElem?_set_ne this]
theorem posOf_at {K : List Key} {i : Nat} {k : Key} {l : List UInt8} (hf : K.findIdx? (fun k => k.canon == canonL l) = some i) (hk : K[i]? = some k) : posOf K l = if l ∈ k.sps then some (i, k.sps.idxOf l) else none := by
  unfold posOf
  rw [hf]
  simp [hk]
theorem posOf_set_at {K : List Key} {i : Nat} {k k' : Key} {l : List UInt8} (hf : K.findIdx? (fun k => k.canon == canonL l) = some i) (hk : K[i]? = some k) (hc : k'.canon = k.canon) : posOf (K.set i k') l = if l ∈ k'.sps then some (i, k'.sps.idxOf l) else none := by
  refine posOf_at ?_ (by rw [List.getElem?_set_self (List.getElem?_eq_some_iff.1 hk).1])
  rw [find_canon, canon_set hk hc, ← find_canon, hf]

theorem stepK_eq {K : List Key} {l : List UInt8} {v : Int} {k : Key} (hk : (ensure K (canonL l))[idxOf K (canonL l)]? = some k) : stepK K l v = (ensure K (canonL l)).set (idxOf K (canonL l)) (putK k l v) := by
  unfold stepK
  rw [hk]
theorem posOf_step {K : List Key} {l : List UInt8} {v : Int} {k : Key} (hk : (ensure K (canonL l))[idxOf K (canonL l)]? = some k) (l' : List UInt8) :
    posOf (stepK K l v) l' = if l' = l then some (idxOf K (canonL l), k.sps.idxOf l) else posOf K l' := by
  have hc : k.canon = canonL l := by
    obtain ⟨k', h1, h2⟩ := ensure_get K (canonL l)
    rw [hk] at h1
    simp at h1
    rw [h1]; exact h2
  rw [stepK_eq hk]
  by_cases hcc : canonL l' = canonL l
  · have hf : (ensure K (canonL l)).findIdx? (fun k => k.canon == canonL l') = some (idxOf K (canonL l)) := by rw [hcc]; exact ensure_find K _
    rw [posOf_set_at (k' := putK k l v) hf hk rfl]
    rw [← posOf_ensure K (canonL l) l', posOf_at hf hk]
    by_cases he : l' = l
    · subst he
      simp only [putK, if_true]
      by_cases hm : l' ∈ k.sps
      · simp [hm]
      · simp [hm, List.idxOf_append, List.idxOf_eq_length hm]
    · simp only [putK, he, if_false]
      by_cases hm : l ∈ k.sps
      · simp [hm]
      · simp only [hm, if_false, List.mem_append, List.mem_singleton, he, or_false]
        by_cases hm' : l' ∈ k.sps
        · simp [hm', List.idxOf_append]
        · simp [hm']
  · rw [posOf_set_other (k' := putK k l v) hk rfl l' (by rw [hc]; exact fun e => hcc e.symm), posOf_ensure, if_neg (fun e => hcc (by rw [e]))]
theorem posOf_mem {K : List Key} {l : List UInt8} {k : Key} (hk : (ensure K (canonL l))[idxOf K (canonL l)]? = some k) : posOf K l = if l ∈ k.sps then some (idxOf K (canonL l), k.sps.idxOf l) else none := by
  rw [← posOf_ensure K (canonL l) l]
  exact posOf_at (ensure_find K _) hk
theorem sok_old {K : List Key} {S : List (List UInt8 × Nat × Nat)} {l : List UInt8} {v : Int} {p : Nat × Nat} (h : SOk K S) (hp : posOf K l = some p) : SOk (stepK K l v) S := by
  intro l'
  obtain ⟨k, hk, _⟩ := ensure_get K (canonL l)
  rw [h l', posOf_step hk]
  by_cases he : l' = l
  · subst he
    have := posOf_mem hk
    rw [hp] at this ⊢
    split at this
    · simpa using this
    · simp at this
  · simp [he]
theorem sok_new {K : List Key} {S : List (List UInt8 × Nat × Nat)} {l : List UInt8} {v : Int} {k : Key} (h : SOk K S) (hp : posOf K l = none) (hk : (ensure K (canonL l))[idxOf K (canonL l)]? = some k) : l ∉ k.sps ∧ SOk (stepK K l v) (S ++ [(l, idxOf K (canonL l), k.sps.length)]) := by
  have hm : l ∉ k.sps := by
    have := posOf_mem hk
    rw [hp] at this
    intro hm
    simp [hm] at this
  refine ⟨hm, fun l' => ?_⟩
  rw [posOf_step hk, List.find?_append, Option.map_or, h l']
  by_cases he : l' = l
  · subst he
    simp [hp, List.idxOf_eq_length hm]
  · have : (l == l') = false := by simpa using fun e => he e.symm
    simp [he, this]

set_option maxHeartbeats 2000000 in
set_option maxRecDepth 100000 in
theorem put_any (N T M1 M2 : Nat) (pol v : Int) (K : List Key) (S : List (List UInt8 × Nat × Nat)) (kv : Value) (V : List (Value × Value)) (l : List UInt8) (w : World) (h : TabOk w N T M1 M2 pol K S kv V) (hSK : SOk K S) (hl : l.length ≤ 200) (hK : K.length ≤ 1999) (hK2 : ∀ k ∈ K, k.sps.length ≤ 1999 ∧ k.pts.length ≤ 1999) :
    Calls Yba.prog 14 #[.pointer (some ⟨T, 0, none⟩), .agg #[strV l], .int .i64 v] w fun e w' => e = .returned (.tuple #[]) ∧ ∃ S' kv' V', TabOk w' N T M1 M2 pol (stepK K l v) S' kv' V' ∧ SOk (stepK K l v) S' ∧ Below N w w' ∧ Keeps notTab w w' := by
  obtain ⟨hTlt, hNlt⟩ := tab_lt h
  go_enter Yba.func14, Yba.ntmps14
  refine wp_seqS fun K1 hK1 => ?_
  go_wp2_with fail
  have kA : Keeps (fun _ => True) w (w.alloc (.cells #[strV l] 43)) := (Keeps.refl _ w).alloc _
  have bA : Below w.heap.size w (w.alloc (.cells #[strV l] 43)) := (Below.refl _ w).alloc (Nat.le_refl _) _
  have xA : (w.alloc (.cells #[strV l] 43)).heap[w.heap.size]? = some (.cells #[strV l] 43 (0, 0)) := heap_alloc_new _ _
  have h1 := h.keeps (kA.mono (by simp))
  unfold wpS
  generalize w.alloc (.cells #[strV l] 43) = w1 at kA bA xA h1 ⊢
  generalize hX : w.heap.size = X at xA bA hTlt hNlt ⊢
  have HX : Hid (w.heap.size = X) := hX
  clear hX
  refine wp_seqS fun K2 hK2' => ?_
  have hkey := ensure_get K (canonL l)
  obtain ⟨k, hk, hkc⟩ := hkey
  cases hp : posOf K l with
  | none =>
    have hlS : look (spL S) l = none := by rw [look_spL, hSK l, hp]; rfl
    have hlk0 : ∀ w : World, w.heap[M2]? = some (.map (mapA (spL S)) (spL S).length) → (Instr.lookup 52 (.map (some M2)) (strV l) true).run Yba.prog w = .ok (.tuple #[.agg #[.int .i64 0, .int .i64 0], .bool false]) w := fun w hw => run_lookup_none Yba.underlying52 Yba.zeroValue72 hw hlS
    have hlk1 := hlk0 w1.drew h1.m2
    have hlk2 : ∀ o, (Instr.lookup 52 (.map (some M2)) (strV l) true).run Yba.prog (w1.alloc o).drew = .ok (.tuple #[.agg #[.int .i64 0, .int .i64 0], .bool false]) (w1.alloc o).drew := fun o => hlk0 _ ((Below.heap_alloc w1 o M2 (lt_heap h1.m2)).trans h1.m2)
    clear hlk0
    have gT3 : w1.cell? ⟨T, 3, none⟩ = some (.map (some M2)) := (cell_of_row w1 T 3 _ _ _ h1.tb).trans rfl
    have gX : w1.cell? ⟨X, 0, none⟩ = some (strV l) := (cell_of_row w1 X 0 _ _ _ xA).trans rfl
    have gT3' : ∀ o, (w1.alloc o).drew.cell? ⟨T, 3, none⟩ = some (.map (some M2)) := fun o => (World.cell?_of_block (w := w1) (a := ⟨T, 3, none⟩) (Below.heap_alloc w1 o T (World.block_lt_of_cell? w1 _ gT3))).trans gT3
    have gX' : ∀ o, (w1.alloc o).drew.cell? ⟨X, 0, none⟩ = some (strV l) := fun o => (World.cell?_of_block (w := w1) (a := ⟨X, 0, none⟩) (Below.heap_alloc w1 o X (World.block_lt_of_cell? w1 _ gX))).trans gX
    go_upto_region 1 with fail
    go_region
    all_goals
      go_wp2_with fail
      unfold wpS
      clear hlk1 hlk2 gT3 gX gT3' gX'
      have kB : Keeps (fun _ => True) w1 (w1.alloc (.cells #[.int .i64 0, .int .i64 0] 72)).drew := (keeps_alloc w1 _ _).drew
      have bB : Below N w (w1.alloc (.cells #[.int .i64 0, .int .i64 0] 72)).drew := ((bA.mono hNlt).alloc (tab_lt h1).2 _).drew
      have rB : (w1.alloc (.cells #[.int .i64 0, .int .i64 0] 72)).drew.heap[w1.heap.size]? = some (.cells #[.int .i64 0, .int .i64 0] 72 (0, 0)) := heap_alloc_new w1 _
      generalize (w1.alloc (.cells #[.int .i64 0, .int .i64 0] 72)).drew = w2 at kB bB rB ⊢
      have hB := h1.keeps (kB.mono (by simp))
      have xB := kB _ _ xA trivial
      have gX : w2.cell? ⟨X, 0, none⟩ = some (strV l) := (cell_of_row w2 X 0 _ _ _ xB).trans rfl
      have hR0w : w.heap.size ≤ w1.heap.size := bA.size
      generalize hR1 : w1.heap.size = R0 at rB hR0w ⊢
      refine wp_seqS fun K3 hK3 => ?_
      go_wp2_with (go_at_call 18; refine (add_any N T M1 M2 pol K S kv V l w2 hB hl hlS (by omega) (fun k hk => by have := (hK2 k hk).1; omega)).mono ?_; rintro e w3 ⟨k2, kv3, V3, hk2, rfl, h3, b3, f3⟩; have e2 : k2 = k := Option.some.inj (hk2.symm.trans hk); have r3 := f3 _ _ rB (by simp [notTab]); have gR0 := (cell_of_row w3 R0 0 _ _ _ r3).trans rfl; have gR1 := (cell_of_row w3 R0 1 _ _ _ r3).trans rfl; have fR0 := frozen_of_row w3 R0 0 _ _ r3; have fR1 := frozen_of_row w3 R0 1 _ _ r3)
      unfold wpS
      subst e2
      generalize hidx : idxOf K (canonL l) = i at h3 hk hk2 ⊢
      have c1 : (w3.setCell ⟨R0, 0, none⟩ (.int .i64 (i : Int))).heap[R0]? = some (.cells #[.int .i64 (i : Int), .int .i64 0] 72 (0, 0)) := heap_setCell_same w3 R0 0 _ _ _ r3
      have c2 : ((w3.setCell ⟨R0, 0, none⟩ (.int .i64 (i : Int))).setCell ⟨R0, 1, none⟩ (.int .i64 (k2.sps.length : Int))).heap[R0]? = some (.cells #[.int .i64 (i : Int), .int .i64 (k2.sps.length : Int)] 72 (0, 0)) := heap_setCell_same _ R0 1 _ _ _ c1
      have k4 : Keeps isTab w3 ((w3.setCell ⟨R0, 0, none⟩ (.int .i64 (i : Int))).setCell ⟨R0, 1, none⟩ (.int .i64 (k2.sps.length : Int))) := ((Keeps.refl _ w3).setCell (fun o ho hp => by rw [r3] at ho; simp at ho; subst ho; simp [isTab] at hp) _).setCell (fun o ho hp => by rw [c1] at ho; simp at ho; subst ho; simp [isTab] at hp) _
      have b4 : Below N w ((w3.setCell ⟨R0, 0, none⟩ (.int .i64 (i : Int))).setCell ⟨R0, 1, none⟩ (.int .i64 (k2.sps.length : Int))) := ((bB.trans b3).setCell (by show N ≤ R0; have := HX.out; omega) _).setCell (by show N ≤ R0; have := HX.out; omega) _
      have f4 : ∀ (x : Nat) (o : Obj), x ≠ R0 → w3.heap[x]? = some o → ((w3.setCell ⟨R0, 0, none⟩ (.int .i64 (i : Int))).setCell ⟨R0, 1, none⟩ (.int .i64 (k2.sps.length : Int))).heap[x]? = some o := fun x o hx ho => (heap_setCell_other _ ⟨R0, 1, none⟩ x _ hx).trans ((heap_setCell_other _ ⟨R0, 0, none⟩ x _ hx).trans ho)
      generalize (w3.setCell ⟨R0, 0, none⟩ (.int .i64 (i : Int))).setCell ⟨R0, 1, none⟩ (.int .i64 (k2.sps.length : Int)) = w4 at c2 k4 b4 f4 ⊢
      have h4 := h3.keeps k4
      have hi : i < (ensure K (canonL l)).length := (List.getElem?_eq_some_iff.1 hk).1
      obtain ⟨ka, kc, rfl⟩ := kv_form h4.keys
      obtain ⟨gk, rfl⟩ : ∃ gk, ka = some ⟨gk, 0, none⟩ := by
        rcases h4.keys.2 with ⟨_, e⟩ | ⟨g, cap, cur, e, _⟩
        · simp at e; simp [e] at hi
        · simp at e; exact ⟨g, e.1⟩
      have hpl : k2.pts.length ≤ 2000 := by
        unfold ensure at hk
        split at hk
        · have := (hK2 _ (List.mem_of_getElem? hk)).2
          omega
        · rcases List.mem_append.1 (List.mem_of_getElem? hk) with hm | hm
          · have := (hK2 _ hm).2
            omega
          · simp at hm
            subst hm
            simp
      refine put_tail N T M1 M2 R0 gk kc i k2.sps.length pol v ((ensure K (canonL l)).set i { k2 with sps := k2.sps ++ [l] }) (S ++ [(l, i, k2.sps.length)]) V3 { k2 with sps := k2.sps ++ [l] } w4 _ h4 (by simp [hi]) c2 hpl ?_ _ _ _ _ _ _ _ _ _ _ _ _ _ _ _ _ _ _ _ _ _ _ _ _ _ _ _ _ _ _ _ _ _ _ _ _ _ _ _ _ _
      intro kv' V' w' ht hb hfr
      have hkk : (ensure K (canonL l))[idxOf K (canonL l)]? = some k2 := by rw [hidx]; exact hk
      obtain ⟨hnm, hso⟩ := sok_new (v := v) hSK hp hkk
      have est : stepK K l v = ((ensure K (canonL l)).set i { k2 with sps := k2.sps ++ [l] }).set i { canon := k2.canon, sps := k2.sps ++ [l], pts := k2.pts ++ [(v, k2.sps.length)] } := by
        rw [stepK_eq hkk, hidx, List.set_set]
        simp [putK, hnm, List.idxOf_eq_length hnm]
      refine ⟨rfl, _, kv', V', by rw [est]; exact ht, by rw [hidx] at hso; exact hso, b4.trans hb, fun x o ho hn => ?_⟩
      have hxl := lt_heap ho
      exact hfr x o (f4 x o (by omega) (f3 x o (kB x o (kA x o ho trivial) trivial) hn)) hn
  | some p =>
    obtain ⟨i, j⟩ := p
    have hlk0 : ∀ w : World, w.heap[M2]? = some (.map (mapA (spL S)) (spL S).length) → (Instr.lookup 52 (.map (some M2)) (strV l) true).run Yba.prog w = .ok (.tuple #[.agg #[.int .i64 (i : Int), .int .i64 (j : Int)], .bool true]) w := fun w hw => run_lookup_some Yba.underlying52 hw (by rw [look_spL, hSK l, hp]; rfl)
    have hlk1 := hlk0 w1.drew h1.m2
    have hlk2 : ∀ o, (Instr.lookup 52 (.map (some M2)) (strV l) true).run Yba.prog (w1.alloc o).drew = .ok (.tuple #[.agg #[.int .i64 (i : Int), .int .i64 (j : Int)], .bool true]) (w1.alloc o).drew := fun o => hlk0 _ ((Below.heap_alloc w1 o M2 (lt_heap h1.m2)).trans h1.m2)
    clear hlk0
    have gT3 : w1.cell? ⟨T, 3, none⟩ = some (.map (some M2)) := (cell_of_row w1 T 3 _ _ _ h1.tb).trans rfl
    have gX : w1.cell? ⟨X, 0, none⟩ = some (strV l) := (cell_of_row w1 X 0 _ _ _ xA).trans rfl
    have gT3' : ∀ o, (w1.alloc o).drew.cell? ⟨T, 3, none⟩ = some (.map (some M2)) := fun o => (World.cell?_of_block (w := w1) (a := ⟨T, 3, none⟩) (Below.heap_alloc w1 o T (World.block_lt_of_cell? w1 _ gT3))).trans gT3
    have gX' : ∀ o, (w1.alloc o).drew.cell? ⟨X, 0, none⟩ = some (strV l) := fun o => (World.cell?_of_block (w := w1) (a := ⟨X, 0, none⟩) (Below.heap_alloc w1 o X (World.block_lt_of_cell? w1 _ gX))).trans gX
    -- the key that the map names
    have hkm := posOf_mem hk
    rw [hp] at hkm
    have hmem : l ∈ k.sps := by
      by_cases hm : l ∈ k.sps
      · exact hm
      · simp [hm] at hkm
    simp only [hmem, if_true, Option.some.injEq, Prod.mk.injEq] at hkm
    have hens : ensure K (canonL l) = K := by
      unfold ensure
      cases hf : K.findIdx? fun k => k.canon == canonL l with
      | some _ => rfl
      | none => simp [posOf, hf] at hp
    rw [hens] at hk
    obtain ⟨ei, ej⟩ := hkm
    rw [← ei] at hk
    have Ei : Hid (i = idxOf K (canonL l)) := ei
    have Ej : Hid (j = k.sps.idxOf l) := ej
    clear ei ej
    go_upto_region 1 with fail
    go_region
    all_goals
      go_wp2_with fail
      unfold wpS
      clear hlk1 hlk2 gT3 gX gT3' gX'
      have kB : Keeps (fun _ => True) w1 (w1.alloc (.cells #[.int .i64 (i : Int), .int .i64 (j : Int)] 72)).drew := (keeps_alloc w1 _ _).drew
      have bB : Below N w (w1.alloc (.cells #[.int .i64 (i : Int), .int .i64 (j : Int)] 72)).drew := ((bA.mono hNlt).alloc (tab_lt h1).2 _).drew
      have rB : (w1.alloc (.cells #[.int .i64 (i : Int), .int .i64 (j : Int)] 72)).drew.heap[w1.heap.size]? = some (.cells #[.int .i64 (i : Int), .int .i64 (j : Int)] 72 (0, 0)) := heap_alloc_new w1 _
      generalize (w1.alloc (.cells #[.int .i64 (i : Int), .int .i64 (j : Int)] 72)).drew = w2 at kB bB rB ⊢
      have hB := h1.keeps (kB.mono (by simp))
      refine wp_seqS fun K3 hK3 => ?_
      go_wp2_with fail
      unfold wpS
      obtain ⟨ka, kc, rfl⟩ := kv_form hB.keys
      have hi : i < K.length := (List.getElem?_eq_some_iff.1 hk).1
      obtain ⟨gk, rfl⟩ : ∃ gk, ka = some ⟨gk, 0, none⟩ := by
        rcases hB.keys.2 with ⟨_, e⟩ | ⟨g, cap, cur, e, _⟩
        · omega
        · simp at e; exact ⟨g, e.1⟩
      refine put_tail N T M1 M2 w1.heap.size gk kc i j pol v K S V k w2 _ hB hk rB (by have := (hK2 k (List.mem_of_getElem? hk)).2; omega) ?_ _ _ _ _ _ _ _ _ _ _ _ _ _ _ _ _ _ _ _ _ _ _ _ _ _ _ _ _ _ _ _ _ _ _ _ _ _ _ _ _ _
      intro kv' V' w' ht hb hfr
      have est : stepK K l v = K.set i { k with pts := k.pts ++ [(v, j)] } := by
        have ei := Ei.out
        have ej := Ej.out
        rw [stepK_eq (k := k) (by rw [hens, ← ei]; exact hk), hens, ← ei]
        simp [putK, hmem, ← ej]
      refine ⟨rfl, S, kv', V', by rw [est]; exact ht, sok_old hSK hp, bB.trans hb, fun x o ho hn => hfr x o (kB x o (kA x o ho trivial) trivial) hn⟩
end Go.Proofs.Ybulkbasw
