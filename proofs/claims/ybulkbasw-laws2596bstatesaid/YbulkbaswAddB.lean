import Derived.Test.YbulkbaswAdd
namespace Go.Proofs.Ybulkbasw
open Go.RowKit

set_option maxHeartbeats 2000000 in
set_option maxRecDepth 100000 in
theorem add_any (N T M1 M2 : Nat) (pol : Int) (K : List Key) (S : List (List UInt8 × Nat × Nat)) (kv : Value) (V : List (Value × Value)) (l : List UInt8) (w : World) (h : TabOk w N T M1 M2 pol K S kv V) (hl : l.length ≤ 200) (hS : look (spL S) l = none) (hK : K.length ≤ 2000) (hK2 : ∀ k ∈ K, k.sps.length ≤ 2000) :
    Calls Yba.prog 18 #[.pointer (some ⟨T, 0, none⟩), .agg #[strV l]] w fun e w' => ∃ k kv' V', (ensure K (canonL l))[idxOf K (canonL l)]? = some k ∧ e = .returned (.agg #[.int .i64 (idxOf K (canonL l) : Int), .int .i64 (k.sps.length : Int)]) ∧
      TabOk w' N T M1 M2 pol ((ensure K (canonL l)).set (idxOf K (canonL l)) { k with sps := k.sps ++ [l] }) (S ++ [(l, idxOf K (canonL l), k.sps.length)]) kv' V' ∧ Below N w w' ∧ Keeps notTab w w' := by
  obtain ⟨hTlt, hNlt⟩ := tab_lt h
  have hfd : ∀ (v : ByteArray) (w : World), (Instr.field 43 (.agg #[.string v]) 0).run Yba.prog w = .ok (.string v) w := fun _ _ => by kernel_rfl
  go_enter Yba.func18, Yba.ntmps18
  refine wp_seqS fun K1 hK1 => ?_
  go_wp2_with fail
  have kA : Keeps (fun _ => True) w ((w.alloc (.cells #[strV l] 43)).alloc (.cells #[.int .i64 0, .int .i64 0] 72)) := ((Keeps.refl _ w).alloc _).alloc _
  have bA : Below w.heap.size w ((w.alloc (.cells #[strV l] 43)).alloc (.cells #[.int .i64 0, .int .i64 0] 72)) := ((Below.refl _ w).alloc (Nat.le_refl _) _).alloc (by simp) _
  have xA : ((w.alloc (.cells #[strV l] 43)).alloc (.cells #[.int .i64 0, .int .i64 0] 72)).heap[w.heap.size]? = some (.cells #[strV l] 43 (0, 0)) := (Below.heap_alloc _ _ _ (by simp)).trans (heap_alloc_new _ _)
  have rA : ((w.alloc (.cells #[strV l] 43)).alloc (.cells #[.int .i64 0, .int .i64 0] 72)).heap[w.heap.size + 1]? = some (.cells #[.int .i64 0, .int .i64 0] 72 (0, 0)) := by
    have := heap_alloc_new (w.alloc (.cells #[strV l] 43)) (.cells #[.int .i64 0, .int .i64 0] 72)
    simpa using this
  unfold wpS
  refine wp_seqS fun K2 hK2' => ?_
  go_wp2_with fail
  refine (canonical_s l hl _).mono ?_
  rintro e w1 ⟨rfl, hb1⟩
  have k1 : Keeps (fun _ => True) w w1 := kA.trans (keeps_below hb1)
  have b1 : Below w.heap.size w w1 := bA.trans (hb1.mono bA.size)
  have x1 := (keeps_below (p := fun _ => True) hb1) _ _ xA trivial
  have r1 := (keeps_below (p := fun _ => True) hb1) _ _ rA trivial
  have h1 := h.keeps (k1.mono (by simp))
  generalize hX : w.heap.size = X at x1 r1 b1 hTlt hNlt
  have HX : Hid (w.heap.size = X) := hX
  clear hX
  clear kA bA xA rA hb1
  obtain ⟨ka, kc, rfl⟩ := kv_form h1.keys
  have gT1 : w1.cell? ⟨T, 1, none⟩ = some (.slice ka K.length kc) := (cell_of_row w1 T 1 _ _ _ h1.tb).trans rfl
  have gT2 : w1.cell? ⟨T, 2, none⟩ = some (.map (some M1)) := (cell_of_row w1 T 2 _ _ _ h1.tb).trans rfl
  have fT1 : w1.frozen? ⟨T, 1, none⟩ = false := frozen_of_row w1 T 1 _ _ h1.tb
  go_wp2_with fail
  unfold wpS
  refine wp_seqS fun K3 hK3 => ?_
  cases hf : K.findIdx? fun k => k.canon == canonL l with
  | none =>
    have hlk := run_lookup_none (w := w1) Yba.underlying51 Yba.zeroValue3 h1.m1 (k := canonL l) (by rw [look_keyL, hf]; rfl)
    obtain ⟨i59, hi, hz, hs, hy⟩ := info59
    have hA := h1.keeps (keeps_alloc w1 (.cells #[.slice none 0 0, .slice none 0 0] 59) isTab)
    have Hf : Hid (K.findIdx? (fun k => k.canon == canonL l) = none) := hf
    clear hf
    go_wp2_with fail
    unfold wpS
    refine wp_seqS fun K4 hK4 => ?_
    go_wp2_with (at_builtin; refine wpList_append_lies _ rfl _ _ _ rfl N 59 i59 (.agg #[.slice none 0 0, .slice none 0 0]) 2 48 Yba.underlying50 hi hz hs hy rfl (by omega) (.slice ka K.length kc) K.length (flatV V) rfl (h1.keys.alloc _) ⟨w1.heap.size, 0, none⟩ 1 1 [.slice none 0 0, .slice none 0 0] rfl rfl (World.news_of_block (heap_alloc_new _ _)) (by simp [Value.oneCell']) (by omega) (by simp [maxLen]; omega) (by omega) (by simp; have := b1.size; have := HX.out; omega) _ rfl ?_; intro g2 cap2 w2 hown2 hgrow2 hat2 hlt2; have t2 := (hgrow2.block T (lt_heap hA.tb) (fun e => (hA.kv_ne e.symm).1 rfl)).trans hA.tb; have gT3 := (cell_of_row w2 T 1 _ _ _ t2).trans rfl; have gT4 := (cell_of_row w2 T 2 _ _ _ t2).trans rfl; have fT3 := frozen_of_row w2 T 1 _ _ t2; have m2 := (heap_setCell_other w2 ⟨T, 1, none⟩ M1 (.slice (some ⟨g2, 0, none⟩) (K.length + 1) cap2) (obj_ne hA.m1 hA.tb (by simp))).trans ((hgrow2.block M1 (lt_heap hA.m1) (fun e => (hA.kv_ne e.symm).2.1 rfl)).trans hA.m1); have hup := run_update_new (w := w2.setCell ⟨T, 1, none⟩ (.slice (some ⟨g2, 0, none⟩) (K.length + 1) cap2)) Yba.underlying51 (k := canonL l) (.int .i64 (K.length : Int)) m2 (by rw [look_keyL, Hf.out]; rfl); clear t2 m2)
    unfold wpS
    have e1 : ensure K (canonL l) = K ++ [⟨canonL l, [], []⟩] := by unfold ensure; rw [Hf.out]
    have e2 : idxOf K (canonL l) = K.length := by unfold idxOf; rw [Hf.out]; rfl
    rw [e1, e2, show (keyL K).length + 1 = (keyL K ++ [(canonL l, Value.int .i64 (K.length : Int))]).length from by simp]
    have h2 := hA.addKey (c := canonL l) hgrow2 hown2
    have far2 : ∀ (j : Nat) (c : Array Value) (t : TypeId) (f : Nat × Nat), w1.heap[j]? = some (.cells c t f) → t ≠ 59 → t ≠ 54 → (setMap (w2.setCell ⟨T, 1, none⟩ (.slice (some ⟨g2, 0, none⟩) (K.length + 1) cap2)) M1 (.map (mapA (keyL K ++ [(canonL l, .int .i64 (K.length : Int))])) (keyL K ++ [(canonL l, Value.int .i64 (K.length : Int))]).length)).heap[j]? = some (.cells c t f) := by
      intro j c t f hj n1 n2
      have ha : (w1.alloc (.cells #[.slice none 0 0, .slice none 0 0] 59)).heap[j]? = some (.cells c t f) := (Below.heap_alloc w1 _ j (lt_heap hj)).trans hj
      refine (setMap_far _ M1 j _ (obj_ne ha hA.m1 (by simp))).trans ((heap_setCell_other w2 ⟨T, 1, none⟩ j _ (obj_ne ha hA.tb (by simp [n2]))).trans ((hgrow2.block j (lt_heap ha) fun e => ?_).trans ha))
      obtain ⟨c2, h2⟩ := own_at hA.keys e.symm
      rw [ha] at h2
      simp at h2
      exact n1 h2.2.1
    have b2 : Below N w (setMap (w2.setCell ⟨T, 1, none⟩ (.slice (some ⟨g2, 0, none⟩) (K.length + 1) cap2)) M1 (.map (mapA (keyL K ++ [(canonL l, .int .i64 (K.length : Int))])) (keyL K ++ [(canonL l, Value.int .i64 (K.length : Int))]).length)) := by
      have q := (((b1.mono hNlt).alloc (tab_lt h1).2 (.cells #[.slice none 0 0, .slice none 0 0] 59)).grown hgrow2 (tab_lt hA).2 (fun j hj => (hA.keys.lt j hj).1)).setCell (p := ⟨T, 1, none⟩) h.nT (.slice (some ⟨g2, 0, none⟩) (K.length + 1) cap2)
      exact q.trans ⟨rfl, rfl, rfl, by simp [setMap], fun j hj => setMap_far _ M1 j _ (by have := h.n1; omega)⟩
    have x2 := far2 X _ _ _ x1 (by decide) (by decide)
    have r2 := far2 (X + 1) _ _ _ r1 (by decide) (by decide)
    generalize setMap (w2.setCell ⟨T, 1, none⟩ (.slice (some ⟨g2, 0, none⟩) (K.length + 1) cap2)) M1 (.map (mapA (keyL K ++ [(canonL l, .int .i64 (K.length : Int))])) (keyL K ++ [(canonL l, Value.int .i64 (K.length : Int))]).length) = w3 at h2 far2 b2 x2 r2 ⊢
    have h3 : TabOk w3 N T M1 M2 pol (K ++ [⟨canonL l, [], []⟩]) S (.slice (some ⟨g2, 0, none⟩) (K ++ [(⟨canonL l, [], []⟩ : Key)]).length cap2) (V ++ [(.slice none 0 0, .slice none 0 0)]) := by
      rw [List.length_append]; exact h2
    have hXX := HX.out
    subst hXX
    refine add_tail N T M1 M2 w.heap.size (w.heap.size + 1) g2 cap2 K.length pol (K ++ [⟨canonL l, [], []⟩]) S (V ++ [(.slice none 0 0, .slice none 0 0)]) ⟨canonL l, [], []⟩ l w3 _ h3 (by simp) x2 r2 ?_ hS (by simp) (by omega) ?_ _ _ _ _ _ _ _ _ _ _ _ _ _ _ _ _ _ _ _ _ _ _ _ _ _ _ _ _ _ _ _ _ _ _ _ _ _ _ _ _ _ _ _ _ _ _ _ _ _ _ _ _ _ _ _ _ _ _ _ _ _ _ _ _ _ _ _ _ _ _ _ _
    · intro j r hr e
      have hlt := h.len
      by_cases hj : j < V.length
      · rw [List.getElem?_append_left hj] at hr
        obtain ⟨c, hc⟩ := own_at (h.sp j K[j] r (List.getElem?_eq_getElem (by omega)) hr) e
        have := lt_heap hc
        have := HX.out
        omega
      · rw [List.getElem?_append_right (by omega)] at hr
        have := (List.getElem?_eq_some_iff.1 hr).1
        simp at this
        have ej : j - V.length = 0 := by omega
        rw [ej] at hr
        simp at hr
        subst hr
        simp [Value.ownBlock] at e
    · intro kv' V' w' ht hb hfr
      refine ⟨⟨canonL l, [], []⟩, kv', V', by simp, rfl, ht, b2.trans hb, fun j o ho hn => ?_⟩
      have hjlt := lt_heap ho
      have := HX.out
      cases o with
      | cells c t f =>
        have hnt : t ∉ [54, 59, 43, 61] := hn
        exact hfr j _ (by omega) (far2 j c t f (k1 j _ ho trivial) (fun e => hnt (by simp [e])) (fun e => hnt (by simp [e]))) hn
      | map _ _ => exact hn.elim
      | _ => exact hn.elim
  | some i =>
    have hlk := run_lookup_some (w := w1) Yba.underlying51 h1.m1 (k := canonL l) (v := .int .i64 (i : Int)) (by rw [look_keyL, hf]; rfl)
    have Hf : Hid (K.findIdx? (fun k => k.canon == canonL l) = some i) := hf
    obtain ⟨hi, _, _⟩ := List.findIdx?_eq_some_iff_getElem.1 hf
    clear hf
    go_wp2_with fail
    unfold wpS
    refine wp_seqS fun K4 hK4 => ?_
    go_wp2_with fail
    unfold wpS
    have e1 : ensure K (canonL l) = K := by unfold ensure; rw [Hf.out]
    have e2 : idxOf K (canonL l) = i := by unfold idxOf; rw [Hf.out]; rfl
    rw [e1, e2]
    obtain ⟨gk, rfl⟩ : ∃ gk, ka = some ⟨gk, 0, none⟩ := by
      rcases h1.keys.2 with ⟨_, e⟩ | ⟨g, cap, cur, e, _⟩
      · omega
      · simp at e; exact ⟨g, e.1⟩
    have hXX := HX.out
    subst hXX
    refine add_tail N T M1 M2 w.heap.size (w.heap.size + 1) gk kc i pol K S V K[i] l w1 _ h1 (by simp [hi]) x1 r1 ?_ hS (hK2 _ (List.getElem_mem hi)) (by omega) ?_ _ _ _ _ _ _ _ _ _ _ _ _ _ _ _ _ _ _ _ _ _ _ _ _ _ _ _ _ _ _ _ _ _ _ _ _ _ _ _ _ _ _ _ _ _ _ _ _ _ _ _ _ _ _ _ _ _ _ _ _ _ _ _ _ _ _ _ _ _ _ _ _
    · intro j r hr e
      have hlt := h.len
      have hj := (List.getElem?_eq_some_iff.1 hr).1
      obtain ⟨c, hc⟩ := own_at (h.sp j K[j] r (List.getElem?_eq_getElem (by omega)) hr) e
      have := lt_heap hc
      have := HX.out
      omega
    · intro kv' V' w' ht hb hfr
      refine ⟨K[i], kv', V', by simp [hi], rfl, ht, (b1.mono hNlt).trans hb, fun j o ho hn => ?_⟩
      have hjlt := lt_heap ho
      have := HX.out
      exact hfr j o (by omega) (k1 j o ho trivial) hn
end Go.Proofs.Ybulkbasw
