import Derived.Test.YbulkbaswTab
import Derived.Deep.DeepCutAuto
namespace Go.Proofs.Ybulkbasw
open Go.RowKit

theorem look_keyL (K : List Key) (c : List UInt8) : look (keyL K) c = (K.findIdx? fun k => k.canon == c).map fun i => Value.int .i64 (i : Int) := by
  have : ∀ (K : List Key) (n : Nat), ((K.zipIdx n).map fun p => (p.1.canon, Value.int .i64 (p.2 : Int))).find? (fun p => p.1 == c) = ((K.findIdx? fun k => k.canon == c).map fun i => (c, Value.int .i64 ((i + n : Nat) : Int))) := by
    intro K
    induction K with
    | nil => intro n; rfl
    | cons a r ih =>
      intro n
      simp only [List.zipIdx_cons, List.map_cons, List.find?_cons, List.findIdx?_cons]
      by_cases h : a.canon = c
      · simp [h]
      · have h' : (a.canon == c) = false := by simpa using h
        rw [h']
        simp only [ih (n + 1)]
        cases hf : List.findIdx? (fun k => k.canon == c) r with
        | none => simp
        | some x => simp; omega
  unfold look keyL
  rw [this K 0]
  cases List.findIdx? (fun k => k.canon == c) K <;> simp

theorem kv_form {w : World} {N n : Nat} {e : TypeId} {size : Nat} {v : Value} {xs : List Value} (h : w.ownsRow N e size v n xs) : ∃ a c, v = .slice a n c := by
  rcases h.2 with ⟨rfl, rfl⟩ | ⟨g, cap, cur, rfl, _⟩
  · exact ⟨none, 0, rfl⟩
  · exact ⟨_, _, rfl⟩
theorem info59 : ∃ i, Yba.prog.info? 59 = some i ∧ i.zero = some (.agg #[.slice none 0 0, .slice none 0 0]) ∧ i.size = 2 ∧ i.bytes = 48 := by
  have h1 : (Yba.prog.info? 59).map (·.size) = some 2 := by kernel_rfl
  have h2 : (Yba.prog.info? 59).map (·.bytes) = some 48 := by kernel_rfl
  have h3 : (Yba.prog.info? 59).bind (·.zero) = some (.agg #[.slice none 0 0, .slice none 0 0]) := by kernel_rfl
  obtain ⟨i, hi, hb⟩ := Option.map_eq_some_iff.1 h1
  rw [hi] at h2 h3
  exact ⟨i, hi, h3, hb, by simpa using h2⟩
theorem info43 : ∃ i, Yba.prog.info? 43 = some i ∧ i.zero = some (.agg #[.string ⟨#[]⟩]) ∧ i.size = 1 ∧ i.bytes = 16 := by
  have h1 : (Yba.prog.info? 43).map (·.size) = some 1 := by kernel_rfl
  have h2 : (Yba.prog.info? 43).map (·.bytes) = some 16 := by kernel_rfl
  have h3 : (Yba.prog.info? 43).bind (·.zero) = some (.agg #[.string ⟨#[]⟩]) := by kernel_rfl
  obtain ⟨i, hi, hb⟩ := Option.map_eq_some_iff.1 h1
  rw [hi] at h2 h3
  exact ⟨i, hi, h3, hb, by simpa using h2⟩
theorem info61 : ∃ i, Yba.prog.info? 61 = some i ∧ i.zero = some (.agg #[.int .i64 0, .int .i64 0]) ∧ i.size = 2 ∧ i.bytes = 16 := by
  have h1 : (Yba.prog.info? 61).map (·.size) = some 2 := by kernel_rfl
  have h2 : (Yba.prog.info? 61).map (·.bytes) = some 16 := by kernel_rfl
  have h3 : (Yba.prog.info? 61).bind (·.zero) = some (.agg #[.int .i64 0, .int .i64 0]) := by kernel_rfl
  obtain ⟨i, hi, hb⟩ := Option.map_eq_some_iff.1 h1
  rw [hi] at h2 h3
  exact ⟨i, hi, h3, hb, by simpa using h2⟩

set_option maxHeartbeats 1000000 in
theorem newTable_any (pol : Int) (w : World) :
    Calls Yba.prog 12 #[.int .u8 pol] w fun e w' => e = .returned (.pointer (some ⟨w.heap.size + 2, 0, none⟩)) ∧ TabOk w' w.heap.size (w.heap.size + 2) w.heap.size (w.heap.size + 1) pol [] [] (.slice none 0 0) [] ∧ Below w.heap.size w w' := by
  have hmm := @run_makeMap Yba.prog
  go_enter Yba.func12, Yba.ntmps12
  go_wp2
  go_ret
  refine ⟨rfl, ?_, (((Below.refl _ w).alloc (Nat.le_refl _) _).alloc (by simp) _).alloc (by simp; omega) _⟩
  have h0 := heap_alloc_new w (.map #[] 0)
  have h1 := heap_alloc_new (w.alloc (.map #[] 0)) (.map #[] 0)
  have h2 := heap_alloc_new ((w.alloc (.map #[] 0)).alloc (.map #[] 0)) (.cells #[.int .u8 pol, .slice none 0 0, .map (some w.heap.size), .map (some (w.heap.size + 1))] 54)
  simp only [World.size_alloc] at h1 h2
  exact { tb := h2, m1 := ((Below.heap_alloc _ _ _ (by simp; omega)).trans (Below.heap_alloc _ _ _ (by simp))).trans h0, m2 := (Below.heap_alloc _ _ _ (by simp)).trans h1, keys := World.ownsRow_nil _ _ _ _, len := rfl, sp := fun i k q hk => by simp at hk, pt := fun i k q hk => by simp at hk, ap1 := fun i j q r _ hq => by simp at hq, ap2 := fun i j q r _ hq => by simp at hq, nT := by omega, n1 := Nat.le_refl _, n2 := by omega, n12 := by omega }

/-- The keys once the key of c is there; its place. -/
def ensure (K : List Key) (c : List UInt8) : List Key := match K.findIdx? fun k => k.canon == c with
  | some _ => K
  | none => K ++ [⟨c, [], []⟩]
def idxOf (K : List Key) (c : List UInt8) : Nat := (K.findIdx? fun k => k.canon == c).getD K.length
theorem ensure_get (K : List Key) (c : List UInt8) : ∃ k, (ensure K c)[idxOf K c]? = some k ∧ k.canon = c := by
  unfold ensure idxOf
  cases h : K.findIdx? fun k => k.canon == c with
  | none => exact ⟨⟨c, [], []⟩, by simp, rfl⟩
  | some i =>
    obtain ⟨hi, h1, _⟩ := List.findIdx?_eq_some_iff_getElem.1 h
    exact ⟨K[i], by simp [hi], by simpa using h1⟩

theorem canonical_s (l : List UInt8) (hl : l.length ≤ 200) (w : World) : Calls Yba.prog 19 #[.agg #[strV l]] w fun e w' => e = .returned (.agg #[strV (canonL l)]) ∧ Below w.heap.size w w' := canonical_any l hl w
theorem keeps_below {p : Obj → Prop} {a b : World} (h : Below a.heap.size a b) : Keeps p a b := fun k _ ho _ => (h.block k (lt_heap ho)).trans ho

theorem tab_lt {w : World} {N T M1 M2 : Nat} {pol : Int} {K : List Key} {S : List (List UInt8 × Nat × Nat)} {kv : Value} {V : List (Value × Value)} (h : TabOk w N T M1 M2 pol K S kv V) : T < w.heap.size ∧ N ≤ w.heap.size := by
  have := lt_heap h.tb
  have := h.nT
  omega

/-- A way of saying 'Code.wp' at which the walk stands still. -/
def wpS (P : Program) (c : Code) (Q : Exit → Act → World → Prop) (a : Act) (w : World) : Prop := c.wp P Q a w
theorem wp_seqS {P : Program} {x y : Code} {Q : Exit → Act → World → Prop} {a : Act} {w : World} (h : ∀ K : Act → World → Prop, (∀ a w, wpS P y Q a w → K a w) → x.wp P (Exit.then K Q) a w) : (Code.seq x y).wp P Q a w := wp_seq (h _ fun _ _ h => h)
def sndS : Code → Code
  | .seq _ b => b
  | c => c

set_option maxHeartbeats 2000000 in
set_option maxRecDepth 100000 in
theorem add_tail (N T M1 M2 X R0 gk capk i : Nat) (pol : Int) (K : List Key) (S : List (List UInt8 × Nat × Nat)) (V : List (Value × Value)) (k : Key) (l : List UInt8) (w : World) (R : Ending → World → Prop) (h : TabOk w N T M1 M2 pol K S (.slice (some ⟨gk, 0, none⟩) K.length capk) V)
    (hk : K[i]? = some k) (hX : w.heap[X]? = some (.cells #[strV l] 43 (0, 0))) (hR0 : w.heap[R0]? = some (.cells #[.int .i64 0, .int .i64 0] 72 (0, 0))) (hXN : ∀ (j : Nat) (r : Value × Value), V[j]? = some r → r.1.ownBlock ≠ some X) (hS : look (spL S) l = none) (hK2 : k.sps.length ≤ 2000) (hNR : N ≤ R0)
    (hR : ∀ kv' V' w', TabOk w' N T M1 M2 pol (K.set i { k with sps := k.sps ++ [l] }) (S ++ [(l, i, k.sps.length)]) kv' V' → Below N w w' → (∀ (j : Nat) (o : Obj), j ≠ R0 → w.heap[j]? = some o → notTab o → w'.heap[j]? = some o) → R (.returned (.agg #[.int .i64 (i : Int), .int .i64 (k.sps.length : Int)])) w')
    (u1 u2 u5 u7 u8 u9 u10 u11 u12 u13 u14 u15 u16 u17 u18 u19 u20 u21 u22 u23 u24 u25 u26 u27 u28 u29 u30 u31 u32 u33 u34 u35 u36 u37 u38 u39 u40 u41 u42 u43 u44 u45 u46 u47 u48 u49 u50 u51 u52 u53 u54 u55 u56 u57 u58 u59 u60 u61 u62 u63 u64 u65 u66 u67 u68 u69 u70 u71 u72 u73 u74 u75 : Value) :
    Code.wp Yba.prog (sndS (sndS (sndS (sndS (Yba.f18.body.getD .skip))))) (bodyPost Yba.prog Yba.f18 R) ⟨#[.pointer (some ⟨T, 0, none⟩), u1, u2, .pointer (some ⟨X, 0, none⟩), .pointer (some ⟨R0, 0, none⟩), u5, .int .i64 (i : Int), u7, u8, u9, u10, u11, u12, u13, u14, u15, u16, u17, u18, u19, u20, u21, u22, u23, u24, u25, u26, u27, u28, u29, u30, u31, u32, u33, u34, u35, u36, u37, u38, u39, u40, u41, u42, u43, u44, u45, u46, u47, u48, u49, u50, u51, u52, u53, u54, u55, u56, u57, u58, u59, u60, u61, u62, u63, u64, u65, u66, u67, u68, u69, u70, u71, u72, u73, u74, u75], []⟩ w := by
  conv => arg 2; simp only [Yba.f18, Option.getD_some, sndS]
  obtain ⟨q, hq⟩ : ∃ q, V[i]? = some q := ⟨_, List.getElem?_eq_getElem (by rw [h.len]; exact (List.getElem?_eq_some_iff.1 hk).1)⟩
  obtain ⟨sa, sc, hsv⟩ := kv_form (h.sp i k q hk hq)
  obtain ⟨sv, pv⟩ := q
  simp only at hsv
  subst hsv
  have hik : i < K.length := (List.getElem?_eq_some_iff.1 hk).1
  have hik' : (i : Int) < (K.length : Int) := by omega
  have hi0 : (0 : Int) ≤ (i : Int) := by omega
  obtain ⟨hfl1, hfl2⟩ := flatV_get V i _ hq
  have gk1 := own_cell h.keys (i * 2) _ hfl1
  have gT1 : w.cell? ⟨T, 1, none⟩ = some (.slice (some ⟨gk, 0, none⟩) K.length capk) := (cell_of_row w T 1 _ _ _ h.tb).trans rfl
  clear hfl1 hfl2
  go_upto_region 9 with fail
  have kA : Keeps (fun _ => True) w (w.alloc (.cells #[.int .i64 (i : Int), .int .i64 (k.sps.length : Int)] 72)) := keeps_alloc _ _ _
  have yA : (w.alloc (.cells #[.int .i64 (i : Int), .int .i64 (k.sps.length : Int)] 72)).heap[w.heap.size]? = some (.cells #[.int .i64 (i : Int), .int .i64 (k.sps.length : Int)] 72 (0, 0)) := heap_alloc_new _ _
  have bA : Below N w (w.alloc (.cells #[.int .i64 (i : Int), .int .i64 (k.sps.length : Int)] 72)) := (Below.refl _ w).alloc (tab_lt h).2 _
  have hYR : w.heap.size ≠ R0 := by have := lt_heap hR0; omega
  generalize w.alloc (.cells #[.int .i64 (i : Int), .int .i64 (k.sps.length : Int)] 72) = w8 at kA yA bA ⊢
  generalize w.heap.size = Y at yA hYR ⊢
  have h8 := h.keeps (kA.mono (by simp))
  have x8 := kA _ _ hX trivial
  have r8 := kA _ _ hR0 trivial
  clear gk1 gT1
  obtain ⟨hfl1, hfl2⟩ := flatV_get V i _ hq
  have gk1 : w8.cell? ⟨gk, i * 2, none⟩ = some (.slice sa k.sps.length sc) := own_cell h8.keys (i * 2) _ hfl1
  have gX1 : w8.cell? ⟨X, 0, none⟩ = some (strV l) := (cell_of_row w8 X 0 _ _ _ x8).trans rfl
  clear hfl1 hfl2
  obtain ⟨i43, hi, hz, hs, hy⟩ := info43
  have hgkX : gk ≠ X := by
    obtain ⟨c0, hc0⟩ := own_at h8.keys (g := gk) rfl
    exact obj_ne hc0 x8 (by simp)
  have hsp8 := h8.sp i k _ hk hq
  have hspA : ∀ o, (w8.alloc o).drew.ownsRow N 43 1 (.slice sa k.sps.length sc) k.sps.length (k.sps.map strV) := fun o => hsp8.alloc o
  have hnwA : ∀ j u, [strV l][j]? = some u → (w8.alloc (.cells #[strV l] 43)).drew.cell? ((⟨w8.heap.size, 0, none⟩ : Addr).add j) = some u := World.news_of_block (heap_alloc_new w8 (.cells #[strV l] 43))
  have hbsA : N ≤ (w8.alloc (.cells #[strV l] 43)).drew.heap.size := by have := (tab_lt h8).2; show N ≤ (w8.alloc (.cells #[strV l] 43)).heap.size; simp; omega
  have hne1 : some gk ≠ (Value.slice sa k.sps.length sc).ownBlock := fun e => (h8.sp_ne hk hq e.symm).2.2.2.1 rfl
  have hne2 : some X ≠ (Value.slice sa k.sps.length sc).ownBlock := fun e => hXN i _ hq e.symm
  have gkA : (w8.alloc (.cells #[strV l] 43)).drew.cell? ⟨gk, i * 2, none⟩ = some (.slice sa k.sps.length sc) := (World.cell?_of_block (w := w8) (a := ⟨gk, i * 2, none⟩) (Below.heap_alloc w8 _ gk (World.block_lt_of_cell? w8 _ gk1))).trans gk1
  have gXA : (w8.alloc (.cells #[strV l] 43)).drew.cell? ⟨X, 0, none⟩ = some (strV l) := (World.cell?_of_block (w := w8) (a := ⟨X, 0, none⟩) (Below.heap_alloc w8 _ X (World.block_lt_of_cell? w8 _ gX1))).trans gX1
  obtain ⟨ck, hck⟩ := own_at h8.keys (g := gk) rfl
  have fkA : (w8.alloc (.cells #[strV l] 43)).drew.frozen? ⟨gk, i * 2, none⟩ = false := frozen_of_row (w8.alloc (.cells #[strV l] 43)) gk (i * 2) ck 59 ((Below.heap_alloc w8 _ gk (lt_heap hck)).trans hck)
  go_region_law ((refine step_append_lies _ (by rfl) _ _ _ (by rfl) N 43 i43 (.agg #[.string ⟨#[]⟩]) 1 16 Yba.underlying56 hi hz hs hy rfl (by omega) (.slice sa k.sps.length sc) k.sps.length (k.sps.map strV) (by rfl) (hspA _) ⟨w8.heap.size, 0, none⟩ 1 1 [strV l] (by rfl) (by rfl) hnwA (by simp [Value.oneCell']) (by omega) (by simp [maxLen]; omega) (by omega) hbsA _ (by rfl) ?_; intro g9 cap9 w9 hown9 hgrow9 hat9 hlt9; have gk9 := (hgrow9.cell_far ⟨gk, i * 2, none⟩ (World.block_lt_of_cell? _ _ gkA) hne1).trans gkA; have gX9 := (hgrow9.cell_far ⟨X, 0, none⟩ (World.block_lt_of_cell? _ _ gXA) hne2).trans gXA; have fk9 := (hgrow9.frozen_far ⟨gk, i * 2, none⟩ (World.block_lt_of_cell? _ _ gkA) hne1).trans fkA))
  all_goals
    have hAA : TabOk (w8.alloc (.cells #[strV l] 43)).drew N T M1 M2 pol K S (.slice (some ⟨gk, 0, none⟩) K.length capk) V := h8.keeps (keeps_alloc w8 _ _)
    have h9 := hAA.addSp (x0 := l) hk hq rfl hgrow9 hown9 (by rcases hat9 with e | e; exact .inl e; exact .inr (Nat.le_of_eq e.symm))
    have kk9 : ∀ (j : Nat) (o : Obj), w8.heap[j]? = some o → some j ≠ (Value.slice sa k.sps.length sc).ownBlock → j ≠ gk → (w9.setCell ⟨gk, i * 2, none⟩ (.slice (some ⟨g9, 0, none⟩) (k.sps.length + 1) cap9)).heap[j]? = some o := fun j o ho h1 h2 =>
      (heap_setCell_other w9 ⟨gk, i * 2, none⟩ j _ h2).trans ((hgrow9.block j (by have := lt_heap ho; show j < (w8.alloc (.cells #[strV l] 43)).heap.size; simp; omega) h1).trans ((Below.heap_alloc w8 _ j (lt_heap ho)).trans ho))
    have b9 : Below N w (w9.setCell ⟨gk, i * 2, none⟩ (.slice (some ⟨g9, 0, none⟩) (k.sps.length + 1) cap9)) := by
      refine (((bA.alloc (tab_lt h8).2 (.cells #[strV l] 43)).drew).grown hgrow9 hbsA (fun j hj => (hsp8.lt j hj).1)).setCell ?_ _
      exact (h8.keys.lt gk rfl).1
    generalize w9.setCell ⟨gk, i * 2, none⟩ (.slice (some ⟨g9, 0, none⟩) (k.sps.length + 1) cap9) = w10 at h9 kk9 b9 ⊢
    have no72 : ∀ (j : Nat) (c : Array Value), w8.heap[j]? = some (.cells c 72 (0, 0)) → w10.heap[j]? = some (.cells c 72 (0, 0)) := fun j c hj => kk9 j _ hj (fun e => by
        obtain ⟨c2, h2⟩ := own_at hsp8 e.symm
        rw [hj] at h2; simp at h2) (obj_ne hj hck (by simp))
    have y10 := no72 Y _ yA
    have r10 := no72 R0 _ r8
    have x10 := kk9 X _ x8 hne2 (fun e => hgkX e.symm)
    have gT3 : w10.cell? ⟨T, 3, none⟩ = some (.map (some M2)) := (cell_of_row w10 T 3 _ _ _ h9.tb).trans rfl
    have gXx : w10.cell? ⟨X, 0, none⟩ = some (strV l) := (cell_of_row w10 X 0 _ _ _ x10).trans rfl
    have gY0 : w10.cell? ⟨Y, 0, none⟩ = some (.int .i64 (i : Int)) := (cell_of_row w10 Y 0 _ _ _ y10).trans rfl
    have gY1 : w10.cell? ⟨Y, 1, none⟩ = some (.int .i64 (k.sps.length : Int)) := (cell_of_row w10 Y 1 _ _ _ y10).trans rfl
    have hup := run_update_new (w := w10.drew) Yba.underlying52 (k := l) (.agg #[.int .i64 (i : Int), .int .i64 (k.sps.length : Int)]) h9.m2 hS
    have h9d := h9.keeps ((Keeps.refl isTab w10).drew)
    have h11 := h9d.setM2 (S ++ [(l, i, k.sps.length)])
    rw [spL_app] at hup
    have far11 : ∀ (j : Nat) (c : Array Value) (t : TypeId) (f : Nat × Nat), w10.heap[j]? = some (.cells c t f) → (setMap w10.drew M2 (.map (mapA (spL (S ++ [(l, i, k.sps.length)]))) (spL (S ++ [(l, i, k.sps.length)])).length)).heap[j]? = some (.cells c t f) := fun j c t f hj =>
      (setMap_far w10.drew M2 j _ (obj_ne hj h9.m2 (by simp))).trans hj
    have b11 : Below N w (setMap w10.drew M2 (.map (mapA (spL (S ++ [(l, i, k.sps.length)]))) (spL (S ++ [(l, i, k.sps.length)])).length)) :=
      b9.trans ⟨rfl, rfl, rfl, by simp [setMap], fun j hj => setMap_far w10.drew M2 j _ (by have := h.n2; omega)⟩
    clear h9 h9d hgrow9 hown9 hat9 hlt9 gk9 gX9 fk9 hAA
    go_wp2_with fail
    go_region
    generalize setMap w10.drew M2 (.map (mapA (spL (S ++ [(l, i, k.sps.length)]))) (spL (S ++ [(l, i, k.sps.length)])).length) = w11 at h11 far11 b11 ⊢
    have y11 := far11 Y _ _ _ y10
    have r11 := far11 R0 _ _ _ r10
    have gY0' : w11.cell? ⟨Y, 0, none⟩ = some (.int .i64 (i : Int)) := (cell_of_row w11 Y 0 _ _ _ y11).trans rfl
    have gY1' : w11.cell? ⟨Y, 1, none⟩ = some (.int .i64 (k.sps.length : Int)) := (cell_of_row w11 Y 1 _ _ _ y11).trans rfl
    have gR0 : w11.cell? ⟨R0, 0, none⟩ = some (.int .i64 0) := (cell_of_row w11 R0 0 _ _ _ r11).trans rfl
    have gR1 : w11.cell? ⟨R0, 1, none⟩ = some (.int .i64 0) := (cell_of_row w11 R0 1 _ _ _ r11).trans rfl
    have fR0 : w11.frozen? ⟨R0, 0, none⟩ = false := frozen_of_row w11 R0 0 _ _ r11
    have fR1 : w11.frozen? ⟨R0, 1, none⟩ = false := frozen_of_row w11 R0 1 _ _ r11
    clear y11 hup gY0 gY1 gXx gT3
    go_wp2
    have cell1 : (w11.setCell ⟨R0, 0, none⟩ (.int .i64 (i : Int))).heap[R0]? = some (.cells #[.int .i64 (i : Int), .int .i64 0] 72 (0, 0)) := heap_setCell_same w11 R0 0 _ _ _ r11
    have cell2 : ((w11.setCell ⟨R0, 0, none⟩ (.int .i64 (i : Int))).setCell ⟨R0, 1, none⟩ (.int .i64 (k.sps.length : Int))).heap[R0]? = some (.cells #[.int .i64 (i : Int), .int .i64 (k.sps.length : Int)] 72 (0, 0)) := heap_setCell_same _ R0 1 _ _ _ cell1
    have c20 := cell_of_row _ R0 0 _ _ _ cell2
    have c21 := cell_of_row _ R0 1 _ _ _ cell2
    have k12 : Keeps isTab w11 ((w11.setCell ⟨R0, 0, none⟩ (.int .i64 (i : Int))).setCell ⟨R0, 1, none⟩ (.int .i64 (k.sps.length : Int))) := ((Keeps.refl _ w11).setCell (fun o ho hp => by rw [r11] at ho; simp at ho; subst ho; simp [isTab] at hp) _).setCell (fun o ho hp => by rw [cell1] at ho; simp at ho; subst ho; simp [isTab] at hp) _
    refine bodyPost_ret (v := .agg #[.int .i64 (i : Int), .int .i64 (k.sps.length : Int)]) ?_ rfl (hR _ _ _ (h11.keeps k12) ((b11.setCell hNR _).setCell hNR _) ?_)
    · simp [results, Yba.results18, go_sem, c20, c21]
    · intro j o hj ho hn
      cases o with
      | cells c t f =>
        have ht : t ∉ [54, 59, 43, 61] := hn
        have a8 := kA j _ ho trivial
        have a10 := kk9 j _ a8 (fun e => by
          obtain ⟨c2, h2⟩ := own_at hsp8 e.symm
          rw [a8] at h2
          simp at h2
          exact ht (by simp [h2.2.1])) (fun e => by
          subst e
          rw [hck] at a8
          simp at a8
          exact ht (by simp [← a8.2.1]))
        exact (heap_setCell_other _ ⟨R0, 1, none⟩ j _ hj).trans ((heap_setCell_other _ ⟨R0, 0, none⟩ j _ hj).trans (far11 j _ _ _ a10))
      | map _ _ => exact hn.elim
      | _ => exact hn.elim

end Go.Proofs.Ybulkbasw
