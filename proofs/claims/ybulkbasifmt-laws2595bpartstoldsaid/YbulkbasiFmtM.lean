import Derived.Test.YbulkbasiFmtK
namespace Go.Proofs.YbulkbasiFmt
open Go.RowKit
set_option maxRecDepth 100000

/-- How far a reader has to go. -/
def rdMeas (v : Value) (w : World) : Nat := match v with
  | .pointer (some a) => (match w.cell? ⟨a.block, 0, none⟩ with
      | some (.slice _ n _) => n
      | _ => 0) + (match w.cell? ⟨a.block, 16, none⟩ with
      | some (.bool true) => 1
      | _ => 0)
  | _ => 0
theorem Rd.meas {w : World} {R : Nat} {ks : List (Nat × Nat)} (h : Rd w R ks) : rdMeas (.pointer (some ⟨R, 0, none⟩)) w = (bytesK ks.tail).length + (if ks.isEmpty then 0 else 1) := by
  obtain ⟨cs, h1, h2⟩ := h
  obtain ⟨a, c, an, nn, cn, av, nv, cv, ae, ne, ce, ve, ok, rfl, _, hok, _⟩ := h2.ex
  have c0 : w.cell? ⟨R, 0, none⟩ = some (.slice a (bytesK ks.tail).length c) := (cell_of_row w R 0 _ _ _ h1).trans rfl
  have c16 : w.cell? ⟨R, 16, none⟩ = some (.bool ok) := (cell_of_row w R 16 _ _ _ h1).trans rfl
  unfold rdMeas
  simp only [c0, c16, hok]
  cases ks.isEmpty <;> rfl
theorem Rd.lt {w w' : World} {R R' : Nat} {k : Nat × Nat} {t : List (Nat × Nat)} (h : Rd w R (k :: t)) (h' : Rd w' R' t) : rdMeas (.pointer (some ⟨R', 0, none⟩)) w' < rdMeas (.pointer (some ⟨R, 0, none⟩)) w := by
  rw [h.meas, h'.meas]
  cases t with
  | nil => simp [bytesK]
  | cons k' t' =>
    have := encK_length k'.1 k'.2
    simp only [List.tail_cons, bytesK_cons, List.length_append]
    simp
    omega
theorem Rd.okc {w : World} {R : Nat} {ks : List (Nat × Nat)} (h : Rd w R ks) : w.cell? ⟨R, 16, none⟩ = some (.bool (!ks.isEmpty)) := by
  obtain ⟨cs, h1, h2⟩ := h
  obtain ⟨a, c, an, nn, cn, av, nv, cv, ae, ne, ce, ve, ok, rfl, _, hok, _⟩ := h2.ex
  subst hok
  exact (cell_of_row w R 16 _ _ _ h1).trans rfl
theorem Rd.verc {w : World} {R : Nat} {x ver : Nat} {t : List (Nat × Nat)} (h : Rd w R ((x, ver) :: t)) : w.cell? ⟨R, 15, none⟩ = some (.int .u64 (ver : Int)) := by
  obtain ⟨cs, h1, h2⟩ := h
  obtain ⟨a, c, an, nn, cn, av, nv, cv, ae, ne, ce, ve, ok, rfl, _, _, hk⟩ := h2.ex
  obtain ⟨_, _, rfl, _⟩ := hk x ver t rfl
  exact (cell_of_row w R 15 _ _ _ h1).trans rfl
theorem Rd.namec {w : World} {R : Nat} {x ver : Nat} {t : List (Nat × Nat)} (h : Rd w R ((x, ver) :: t)) : ∃ a c, w.cell? ⟨R, 12, none⟩ = some (.slice a 2 c) ∧ Sl w a c [x / 256, x % 256] := by
  obtain ⟨cs, h1, h2⟩ := h
  obtain ⟨a, c, an, nn, cn, av, nv, cv, ae, ne, ce, ve, ok, rfl, _, _, hk⟩ := h2.ex
  obtain ⟨rfl, hs, _, _⟩ := hk x ver t rfl
  exact ⟨an, cn, (cell_of_row w R 12 _ _ _ h1).trans rfl, hs⟩
abbrev Z65 : Obj := .cells #[.slice none 0 0, .nilIface, .int .i64 0, .slice none 0 0, .slice none 0 0, .int .i64 0, .bool false, .slice none 0 0, .bool false, .string ⟨#[]⟩, .slice none 0 0, .bool false, .slice none 0 0, .slice none 0 0, .slice none 0 0, .int .u64 0, .bool false] 65
/-- A reader laid into a new block. -/
theorem Rd.laid {w : World} {cs : Array Value} {ks : List (Nat × Nat)} (h : RdV w cs ks) : Rd ((w.alloc Z65).setRow w.heap.size cs) w.heap.size ks ∧ Gr w ((w.alloc Z65).setRow w.heap.size cs) none := by
  have h1 : (w.alloc Z65).heap[w.heap.size]? = some Z65 := heap_alloc_new w _
  have hg := gr_alloc w Z65 none
  have hg2 := gr_setRow (w.alloc Z65) w.heap.size cs
  refine ⟨⟨cs, setRow_heap _ _ _ _ _ _ h1, (h.kept hg.g (fun R e => by simp at e)).kept hg2.g (fun R e => ?_)⟩, hg.andThen hg2 (fun j hj => .inl (by simp at hj; omega))⟩
  have : w.heap.size = R := by simpa using e
  subst this
  exact ⟨_, _, _, h1, by decide⟩

theorem size33 : (Ybaf.prog.info? 33).map (·.size) = some 1 := by kernel_rfl
set_option maxHeartbeats 1000000 in
theorem newKeyList_small (w : World) (a : Option Addr) (c : Nat) (ks : List (Nat × Nat)) (hs : Sl w a c (bytesK ks)) (ha : ks ≠ [] → ∃ g, a = some ⟨g, 0, none⟩) (hl : ks.length < 128) :
    Calls Ybaf.prog 6 #[.slice a (bytesK ks).length c, .int .i64 (ks.length : Int)] w fun e w' => ∃ p, e = .returned (.agg #[.pointer p]) ∧ KL w' p ks none ∧ w.grownBy w' none := by
  by_cases hk : ks = []
  · subst hk
    go_enter Ybaf.func6, Ybaf.ntmps6
    go_wp2
    refine bodyPost_ret (results_cell_row rfl _ _ w.heap.size 33 #[.pointer none] (0, 0) _ rfl (heap_alloc_new w _) Ybaf.underlying33 rfl size33) rfl ?_
    exact ⟨none, rfl, ⟨.inl ⟨rfl, rfl, rfl⟩⟩, World.grownBy_alloc _ _ _⟩
  · obtain ⟨g, rfl⟩ := ha hk
    have h0 : ¬ ((ks.length : Int) = 0) := by
      have : ks.length ≠ 0 := by simpa using hk
      omega
    have h0' : ((ks.length : Int) == 0) = false := by simpa using h0
    have hl' : (ks.length : Int) < 128 := by omega
    go_enter Ybaf.func6, Ybaf.ntmps6
    go_wp2
    have hb0 := (Below.heap_alloc (w.alloc (.cells #[.pointer (some ⟨w.heap.size + 1, 0, none⟩)] 33)) (.cells #[.slice (some ⟨g, 0, none⟩) (bytesK ks).length c, .int .i64 (ks.length : Int), .pointer none] 50) w.heap.size (by simp)).trans (heap_alloc_new w _)
    have hb1 := heap_alloc_new (w.alloc (.cells #[.pointer (some ⟨w.heap.size + 1, 0, none⟩)] 33)) (.cells #[.slice (some ⟨g, 0, none⟩) (bytesK ks).length c, .int .i64 (ks.length : Int), .pointer none] 50)
    rw [World.size_alloc] at hb1
    have hG := (gr_alloc w (.cells #[.pointer (some ⟨w.heap.size + 1, 0, none⟩)] 33) none).trans (gr_alloc _ (.cells #[.slice (some ⟨g, 0, none⟩) (bytesK ks).length c, .int .i64 (ks.length : Int), .pointer none] 50) none)
    refine bodyPost_ret (results_cell_row rfl _ _ w.heap.size 33 #[.pointer (some ⟨w.heap.size + 1, 0, none⟩)] (0, 0) _ rfl hb0 Ybaf.underlying33 rfl size33) rfl ?_
    exact ⟨some ⟨w.heap.size + 1, 0, none⟩, rfl, ⟨.inr ⟨w.heap.size + 1, g, c, none, rfl, hk, hb1, hs.kept0 hG, .inl ⟨rfl, rfl⟩⟩⟩, hG.g⟩

theorem keys_at {ks : List (Nat × Nat)} {i : Nat} (h : i < ks.length) : ks.drop i = ks[i] :: ks.drop (i + 1) := by rw [List.drop_eq_getElem_cons h]
theorem off_add (ks : List (Nat × Nat)) (i : Nat) : (bytesK ks).length = off ks i + (bytesK (ks.drop i)).length := by
  unfold off
  rw [← List.length_append, ← bytesK_append, List.take_append_drop]
theorem bytesK_le (ks : List (Nat × Nat)) : (bytesK ks).length ≤ 6 * ks.length := by
  induction ks with
  | nil => simp [bytesK]
  | cons k t ih =>
    have := encK_length k.1 k.2
    rw [bytesK_cons, List.length_append, List.length_cons]
    omega

theorem Sl.far {w w' : World} {a : Option Addr} {c : Nat} {bs : List Nat} (h : Sl w a c bs) (f : ∀ (k : Nat) (arr : Array Value) (fr : Nat × Nat), w.heap[k]? = some (.cells arr 5 fr) → w'.heap[k]? = some (.cells arr 5 fr)) : Sl w' a c bs := by
  refine ⟨h.le, fun ad had => ?_, h.nil⟩
  obtain ⟨g, o, rfl, hl⟩ := h.lies ad had
  obtain ⟨arr, fr, h1, h2⟩ := hl.blk
  exact ⟨g, o, rfl, ⟨arr, fr, f g arr fr h1, h2⟩⟩
theorem RdV.far {w w' : World} {cs : Array Value} {ks : List (Nat × Nat)} (h : RdV w cs ks) (f : ∀ (k : Nat) (arr : Array Value) (fr : Nat × Nat), w.heap[k]? = some (.cells arr 5 fr) → w'.heap[k]? = some (.cells arr 5 fr)) : RdV w' cs ks := by
  obtain ⟨a, c, an, nn, cn, av, nv, cv, ae, ne, ce, ve, ok, rfl, h1, h2, h3⟩ := h.ex
  exact ⟨a, c, an, nn, cn, av, nv, cv, ae, ne, ce, ve, ok, rfl, h1.far f, h2, fun x ver t e => ⟨(h3 x ver t e).1, (h3 x ver t e).2.1.far f, (h3 x ver t e).2.2⟩⟩
theorem Cut.kept {w w' : World} {N C : Nat} {rv : Value} {rs : List Run} (h : Cut w N C rv rs) (hg : w.grownBy w' none) : Cut w' N C rv rs := ⟨(hg.block C (lt_heap h.c) (by simp)).trans h.c, h.own.kept hg (by cases rv.ownBlock <;> simp), h.fm⟩
theorem Cut.keptR {w w' : World} {N C R : Nat} {rv : Value} {rs : List Run} {cs : Array Value} {t : TypeId} (h : Cut w N C rv rs) (hg : w.grownBy w' (some R)) (hR : w.heap[R]? = some (.cells cs t (0, 0))) (h1 : t ≠ 53) (h2 : t ≠ 41) : Cut w' N C rv rs := by
  refine ⟨(hg.block C (lt_heap h.c) (fun e => ?_)).trans h.c, h.own.kept hg (.inr (fun e => ?_)), h.fm⟩
  · have e' : C = R := by simpa using e
    subst e'
    rw [h.c] at hR
    simp at hR
    exact h1 hR.2.symm
  · obtain ⟨cur, hc⟩ := own_at h.own e
    rw [hc] at hR
    simp at hR
    exact h2 hR.2.symm
/-- What the cutter's steps leave alone. -/
theorem Cut.far {w w' : World} {N C : Nat} {rv : Value} {rs : List Run} (h : Cut w N C rv rs) (hk : Kp (fun k => k = C ∨ some k = rv.ownBlock) w w') {k : Nat} {arr : Array Value} {t : TypeId} {fr : Nat × Nat} (hb : w.heap[k]? = some (.cells arr t fr)) (h1 : t ≠ 53) (h2 : t ≠ 41) : w'.heap[k]? = some (.cells arr t fr) := by
  refine (hk.block k (lt_heap hb) (fun e => ?_)).trans hb
  rcases e with rfl | e
  · rw [h.c] at hb
    simp at hb
    exact h1 hb.2.1.symm
  · obtain ⟨cur, hc⟩ := own_at h.own e.symm
    rw [hc] at hb
    simp at hb
    exact h2 hb.2.1.symm
theorem Cut.base {w w' : World} {N C : Nat} {rv : Value} {rs : List Run} (h : Cut w N C rv rs) (hC : N ≤ C) (hk : Kp (fun k => k = C ∨ some k = rv.ownBlock) w w') : Kp (fun k => N ≤ k) w w' := hk.mono (fun i hi => by
  rcases hi with rfl | e
  · exact hC
  · exact (h.own.lt i e.symm).1)

set_option maxHeartbeats 4000000 in
theorem newKeyList_big (w : World) (g c : Nat) (ks : List (Nat × Nat)) (hs : Sl w (some ⟨g, 0, none⟩) c (bytesK ks)) (hv : ∀ k ∈ ks, k.2 < 16384) (hl : 128 ≤ ks.length) (hl2 : ks.length ≤ 1000) :
    Calls Ybaf.prog 6 #[.slice (some ⟨g, 0, none⟩) (bytesK ks).length c, .int .i64 (ks.length : Int)] w fun e w' => ∃ p, e = .returned (.agg #[.pointer p]) ∧ KL w' p ks (some (cutRuns ks)) ∧ w.grownBy w' none := by
  have hbl := bytesK_le ks
  obtain ⟨i41, hi, hz, hsz, hy⟩ := info41
  have h0' : ((ks.length : Int) == 0) = false := by
    rw [beq_eq_false_iff_ne]
    omega
  have hl' : ¬ (ks.length : Int) < 128 := by omega
  obtain ⟨B, hB⟩ : ∃ B, B = bytesK ks := ⟨_, rfl⟩
  have hSl : Hid (Sl w (some ⟨g, 0, none⟩) c (bytesK ks)) := hs
  clear hs
  go_enter Ybaf.func6, Ybaf.ntmps6
  go_wp2_with (first
    | (at_make; refine wpList_make_own _ rfl _ _ 51 rfl w.heap.size 41 i41 (.agg #[.int .i64 0, .int .i64 0, .int .u64 0]) 3 Ybaf.underlying51 hi hz hsz .i64 .i64 _ (ks.length / 64 + 1) rfl rfl (by omega) (by rw [hy]; omega) (by simp [maxLen]; omega) (by simp) ?_; intro w1 hown1 hgrow1)
    | (go_at_call 14; refine (keysIn_any _ (some ⟨g, 0, none⟩) c ks (hSl.out.kept (((World.grownBy_alloc w (.cells #[.pointer none] 33) none).trans hgrow1).trans (World.grownBy_alloc w1 _ none)) (fun R e => by simp at e)) hv (by omega)).mono ?_; rintro e w2 ⟨cs, rfl, hV2, hg2⟩; have hcs := hV2.size; have hi2 : (Ybaf.prog.info? 65).map (·.size) = some cs.size := (by rw [hcs.1]; exact size65))
    | (refine wpList_store_row rfl 65 _ _ rfl w2.heap.size cs rfl rfl 65 _ (heap_alloc_new w2 _) hi2 (by rw [hcs.1]; rfl) hcs.2 ?_))
  simp only [Act.put]
  have hRd0 := (Rd.laid hV2).1
  have hG3 := (Rd.laid hV2).2
  have hC1 : (w1.alloc (.cells #[.slice (some ⟨w.heap.size + 1, 0, none⟩) 0 (ks.length / 64 + 1), .int .i64 0] 53)).heap[w1.heap.size]? = some (.cells #[.slice (some ⟨w.heap.size + 1, 0, none⟩) 0 (ks.length / 64 + 1), .int .i64 0] 53 (0, 0)) := heap_alloc_new w1 _
  have hC3 := (hG3.block w1.heap.size (Nat.lt_of_lt_of_le (lt_heap hC1) hg2.size) (by simp)).trans ((hg2.block _ (lt_heap hC1) (by simp)).trans hC1)
  have hGA := ((World.grownBy_alloc w1 (.cells #[.slice (some ⟨w.heap.size + 1, 0, none⟩) 0 (ks.length / 64 + 1), .int .i64 0] 53) none).trans hg2.g).trans hG3.g
  have hGB := ((World.grownBy_alloc w (.cells #[.pointer none] 33) none).trans hgrow1).trans hGA
  have hown3 := hown1.kept hGA (by simp [Value.ownBlock])
  rw [World.size_alloc] at hown3
  have hb0 : (w.alloc (.cells #[.pointer none] 33)).heap[w.heap.size]? = some (.cells #[.pointer none] 33 (0, 0)) := heap_alloc_new w _
  have hb3 := ((hgrow1.trans hGA).block w.heap.size (lt_heap hb0) (by simp)).trans hb0
  have hCut0 : Cut ((w2.alloc Z65).setRow w2.heap.size cs) w.heap.size w1.heap.size (.slice (some ⟨w.heap.size + 1, 0, none⟩) 0 (ks.length / 64 + 1)) (addsTo ks 0) := ⟨hC3, hown3, _, _, rfl⟩
  have hCN : w.heap.size ≤ w1.heap.size := by have := hgrow1.size; simp at this; omega
  have hRN : w.heap.size ≤ w2.heap.size := by have := hg2.size; simp at this; omega
  have hK0 : Kp (fun k => w.heap.size ≤ k) w ((w2.alloc Z65).setRow w2.heap.size cs) := kp_of hGB (fun R e => by simp at e)
  generalize (w2.alloc Z65).setRow w2.heap.size cs = W3 at hRd0 hCut0 hb3 hK0 ⊢
  generalize w1.heap.size = C at hCut0 hCN ⊢
  generalize w2.heap.size = R0 at hRd0 hRN ⊢
  generalize hN0 : w.heap.size = N0 at *
  have HN : Hid (w.heap.size = N0) := hN0
  clear hN0
  clear hG3 hC1 hC3 hGA hGB hown3 hb0 hown1 hgrow1 hg2 hV2 hcs hi2
  go_loopw [6] (fun v wr => ∃ (i R : Nat) (crv : Value), i ≤ ks.length ∧ v = .pointer (some ⟨R, 0, none⟩) ∧ N0 ≤ R ∧ Rd wr R (ks.drop i) ∧ Cut wr N0 C crv (addsTo ks i) ∧ wr.heap[N0]? = some (.cells #[.pointer none] 33 (0, 0)) ∧ Kp (fun k => N0 ≤ k) w wr) (fun v wr => rdMeas v wr)
  case atStart => exact ⟨0, R0, _, Nat.zero_le _, rfl, hRN, hRd0, hCut0, hb3, hK0⟩
  case round =>
    clear hRd0 hCut0 hb3 hK0
    obtain ⟨i, R, crv, hin, rfl, hRN', hrd, hcut, hb, hK⟩ := hrel
    clear hi hz hsz hy hB
    by_cases hlt : i < ks.length
    · obtain ⟨x, ver, hxv⟩ : ∃ x ver, ks[i] = (x, ver) := ⟨_, _, rfl⟩
      have hdr : ks.drop i = (x, ver) :: ks.drop (i + 1) := by rw [keys_at hlt, hxv]
      have hgd : (ks.getD i (0, 0)).2 = ver := by simp [List.getD, hlt, hxv]
      have hoff := off_add ks i
      have hlen2 : (bytesK (ks.drop i)).length ≤ 90000 := by omega
      have hv2 : ∀ k ∈ ks.drop i, k.2 < 16384 := fun k hk => hv k (List.mem_of_mem_drop hk)
      have hsm := addsTo_small ks i hin
      have hrd1 := hrd
      rw [hdr] at hrd1
      have c16 : wr.cell? ⟨R, 16, none⟩ = some (.bool true) := by have := hrd1.okc; simpa using this
      have c15 : wr.cell? ⟨R, 15, none⟩ = some (.int .u64 (ver : Int)) := hrd1.verc
      have hleft := left_any wr.drew R (ks.drop i) (hrd.kept (gr_drew wr).g (by simp) (fun R e => by simp at e)) hlen2
      have hcutd : Cut wr.drew N0 C crv (addsTo ks i) := hcut.kept (gr_drew wr).g
      have hNr : N0 ≤ wr.heap.size := by have := hK.size; have := HN.out; omega
      have HW : Hid (IntKind.i64.wrap (((bytesK ks).length : Int) - ((bytesK (ks.drop i)).length : Int)) = (off ks i : Int)) := by
        show IntKind.i64.wrap (((bytesK ks).length : Int) - ((bytesK (ks.drop i)).length : Int)) = (off ks i : Int)
        rw [IntKind.wrap_i64]
        omega
      obtain ⟨csR, hRb, hRV⟩ := hrd
      have hHr : Hid (wr.heap[R]? = some (.cells csR 65 (0, 0)) ∧ RdV wr csR (ks.drop i) ∧ Rd wr R ((x, ver) :: ks.drop (i + 1)) ∧ wr.heap[N0]? = some (.cells #[.pointer none] 33 (0, 0))) := ⟨hRb, hRV, hrd1, hb⟩
      have hHd : Hid (ks.drop i = (x, ver) :: ks.drop (i + 1)) := hdr
      generalize hT : ks.drop i = T at *
      have HT : Hid (ks.drop i = T) := hT
      have HG : Hid ((ks.getD i (0, 0)).2 = ver ∧ ((addsTo ks i).length ≤ i ∧ ∀ r ∈ addsTo ks i, r.n ≤ 64) ∧ (∀ k ∈ T, k.2 < 16384)) := ⟨hgd, hsm, hv2⟩
      clear hRb hRV hrd1 hb hdr hT hxv hcut hoff hgd hsm hv2
      go_wp2
      go_region_held3 (fun w' => w'.cell? ⟨R, 15, none⟩ = some (.int .u64 (ver : Int))) (go_keep)
        (first
          | (go_at_call 17; refine hleft.mono ?_; rintro e w2 ⟨rfl, hg2⟩; have c15' : w2.cell? ⟨R, 15, none⟩ = some (.int .u64 (ver : Int)) := (World.cell?_of_block (hg2.block R (lt_heap hHr.out.1) (by simp))).trans c15; have hR2' : w2.heap[R]? = some (.cells csR 65 (0, 0)) := (hg2.block R (lt_heap hHr.out.1) (by simp)).trans hHr.out.1; have hcut2 := hcutd.kept hg2.g; have hadd := add_any w2 N0 C crv (addsTo ks i) (off ks i) ver hcut2 (fun r hr => Nat.le_trans (HG.out.2.1.2 r hr) (by omega)) (by have := HG.out.2.1.1; omega) (Nat.le_trans hNr hg2.size); rw [← HW.out] at hadd; have hHadd : Hid (Calls Ybaf.prog 16 _ w2 _) := hadd; clear hadd)
          | (go_at_call 16; refine hHadd.out.mono ?_; rintro e w3 ⟨rfl, crv', hcut3, hk3, hat3⟩; have c15'' : w3.cell? ⟨R, 15, none⟩ = some (.int .u64 (ver : Int)) := (World.cell?_of_block ((hcut2.far hk3 hR2' (by decide) (by decide)).trans hR2'.symm)).trans c15'))
      have hRb2 := (hg2.block R (lt_heap hHr.out.1) (by simp)).trans hHr.out.1
      have hRb3 := hcut2.far hk3 hRb2 (by decide) (by decide)
      have hb2 := (hg2.block N0 (lt_heap hHr.out.2.2.2) (by simp)).trans hHr.out.2.2.2
      have hb3 := hcut2.far hk3 hb2 (by decide) (by decide)
      have hRV3 : RdV w3 csR T := ((hHr.out.2.1.kept (gr_drew wr).g (fun R e => by simp at e)).kept hg2.g (fun R e => by simp at e)).far (fun k arr fr hk => hcut2.far hk3 hk (by decide) (by decide))
      have hK3 : Kp (fun k => N0 ≤ k) w w3 := ((hK.trans (kp_of (gr_drew wr).g (fun R e => by simp at e))).trans (kp_of hg2.g (fun R e => by simp at e))).trans (hcut2.base hCN hk3)
      have hcs3 := hRV3.size
      have hi3 : (Ybaf.prog.info? 65).map (·.size) = some csR.size := by rw [hcs3.1]; exact size65
      have hlaid := Rd.laid hRV3
      rw [hHd.out] at hlaid
      have hnx := next_any _ w3.heap.size (ks.drop (i + 1)) hlaid.1.pre (fun k hk => hv k (List.mem_of_mem_drop hk)) (by have := off_add ks (i + 1); omega)
      have hcut4 := hcut3.kept hlaid.2.g
      have hb4 := (hlaid.2.block N0 (lt_heap hb3) (by simp)).trans hb3
      have hK4 := hK3.trans (kp_of (S := fun k => N0 ≤ k) hlaid.2.g (fun R e => by simp at e))
      have hN3 : N0 ≤ w3.heap.size := by have := hK3.size; have := HN.out; omega
      have hz65 : ((w3.alloc Z65).setRow w3.heap.size csR).heap[w3.heap.size]? = some (.cells csR 65 (0, 0)) := setRow_heap _ _ _ _ _ _ (heap_alloc_new w3 _)
      have HF : Hid (Cut ((w3.alloc Z65).setRow w3.heap.size csR) N0 C crv' (addR (addsTo ks i) (off ks i) ver) ∧ ((w3.alloc Z65).setRow w3.heap.size csR).heap[N0]? = some (.cells #[.pointer none] 33 (0, 0)) ∧ Kp (fun k => N0 ≤ k) w ((w3.alloc Z65).setRow w3.heap.size csR) ∧ ((w3.alloc Z65).setRow w3.heap.size csR).heap[w3.heap.size]? = some (.cells csR 65 (0, 0))) := ⟨hcut4, hb4, hK4, hz65⟩
      clear hcut4 hb4 hK4 hz65 hlaid hb3 hb2 hRb2 hcut3 hk3 hat3 hcut2 hHadd hcutd hleft hRV3 hK3 c15 c16 c15' c15''
      go_wp2_with (first
        | (refine wpList_load_row rfl 65 _ rfl R rfl 65 csR (0, 0) _ hRb3 Ybaf.underlying65 rfl hi3 ?_)
        | (refine wpList_store_row rfl 65 _ _ rfl w3.heap.size csR rfl rfl 65 _ (heap_alloc_new w3 _) hi3 (by rw [hcs3.1]; rfl) hcs3.2 ?_)
        | (go_at_call 15; refine hnx.mono ?_; rintro e w5 ⟨rfl, hrd5, hg5⟩))
      refine ⟨⟨i + 1, w3.heap.size, crv', by omega, rfl, hN3, hrd5, ?_, ?_, ?_⟩, ?_⟩
      · have e : addsTo ks (i + 1) = addR (addsTo ks i) (off ks i) ver := by
          show addR (addsTo ks i) (off ks i) (ks.getD i (0, 0)).2 = _
          rw [HG.out.1]
        rw [e]
        exact HF.out.1.keptR hg5.g HF.out.2.2.2 (by decide) (by decide)
      · refine (hg5.block N0 (lt_heap HF.out.2.1) (fun e => ?_)).trans HF.out.2.1
        have e' : N0 = w3.heap.size := by simpa using e
        have h1 := HF.out.2.1
        rw [e', HF.out.2.2.2] at h1
        simp at h1
      · exact HF.out.2.2.1.trans (kp_of hg5.g (fun R e => by simp at e; omega))
      · exact hHr.out.2.2.1.lt hrd5
    · have hie : i = ks.length := by omega
      subst hie
      rw [List.drop_length] at hrd
      have c16 : wr.cell? ⟨R, 16, none⟩ = some (.bool false) := by have := hrd.okc; simpa using this
      have hend : Calls Ybaf.prog 18 #[.pointer (some ⟨C, 0, none⟩)] wr fun e w' => e = .returned (.tuple #[]) ∧ ∃ rv' st, w'.heap[C]? = some (.cells #[rv', .int .i64 st] 53 (0, 0)) ∧ RunsAt w' rv' (cutRuns ks) ∧ Kp (fun k => k = C ∨ some k = crv.ownBlock) wr w' := by
        have hsm := addsTo_small ks ks.length (Nat.le_refl _)
        rcases cut_cases ks hl with ⟨s, r1, r2, e, h1, h2, h3⟩ | ⟨s, r, e, h1, h2, h3⟩
        · rw [e] at hcut hsm
          refine (end_join wr N0 C crv s r1 r2 hcut h1 (by omega) (by have := hsm.1; simp at this; omega)).mono ?_
          rintro e w' ⟨he, rv', a, b, c⟩
          rw [h3] at b
          exact ⟨he, rv', _, a, b, c⟩
        · rw [e] at hcut hsm
          refine (end_same wr N0 C crv s r hcut h1 h2 (by have := hsm.1; simp at this; omega)).mono ?_
          rintro e w' ⟨he, rv', a, b, c⟩
          rw [h3] at b
          exact ⟨he, rv', _, a, b, c⟩
      have hHr : Hid (wr.heap[N0]? = some (.cells #[.pointer none] 33 (0, 0)) ∧ Cut wr N0 C crv (addsTo ks ks.length)) := ⟨hb, hcut⟩
      clear hrd hcut hb
      go_wp2_with (first
        | (go_at_call 18; refine hend.mono ?_; rintro e w5 ⟨rfl, rv', st, hC5, hrun5, hk5⟩; obtain ⟨q, cq, arr, t, fr, hrv, _⟩ := hrun5.ex; subst hrv; have hcutc := cut_any w5 C ⟨q, 0, none⟩ (cutRuns ks).length cq st hC5; have hb5 := hHr.out.2.far hk5 hHr.out.1 (by decide) (by decide))
        | (go_at_call 19; refine hcutc.mono ?_; rintro e w6 ⟨Q, rfl, hQ6, hg6⟩; have hb6 := (hg6.block N0 (lt_heap hb5) (by simp)).trans hb5; have hb6' : ∀ o, (w6.alloc o).heap[N0]? = some (.cells #[.pointer none] 33 (0, 0)) := fun o => (Below.heap_alloc w6 o N0 (lt_heap hb6)).trans hb6; have d6 : ∀ o, (w6.alloc o).cell? ⟨N0, 0, none⟩ = some (.pointer none) := fun o => (cell_of_row _ N0 0 _ _ _ (hb6' o)).trans rfl; have f6 : ∀ o, (w6.alloc o).frozen? ⟨N0, 0, none⟩ = false := fun o => frozen_of_row _ N0 0 _ _ (hb6' o); have HB : Hid (∀ o, (w6.alloc o).heap[N0]? = some (.cells #[.pointer none] 33 (0, 0))) := hb6'; clear hb6'))
      have hKA := (kp_of (S := fun k => N0 ≤ k) (World.grownBy_alloc w6 (.cells #[.slice (some ⟨g, 0, none⟩) (bytesK ks).length c, .int .i64 (ks.length : Int), .pointer (some ⟨Q, 0, none⟩)] 50) none) (fun R e => by simp at e))
      have hb7 := heap_setCell_same _ N0 0 _ _ (.pointer (some ⟨w6.heap.size, 0, none⟩)) (HB.out (.cells #[.slice (some ⟨g, 0, none⟩) (bytesK ks).length c, .int .i64 (ks.length : Int), .pointer (some ⟨Q, 0, none⟩)] 50))
      have hG7 := gr_setCell (w6.alloc (.cells #[.slice (some ⟨g, 0, none⟩) (bytesK ks).length c, .int .i64 (ks.length : Int), .pointer (some ⟨Q, 0, none⟩)] 50)) ⟨N0, 0, none⟩ (.pointer (some ⟨w6.heap.size, 0, none⟩))
      have hsafe : Safe (w6.alloc (.cells #[.slice (some ⟨g, 0, none⟩) (bytesK ks).length c, .int .i64 (ks.length : Int), .pointer (some ⟨Q, 0, none⟩)] 50)) (some N0) := fun R e => by
        have : N0 = R := by simpa using e
        subst this
        exact ⟨_, _, _, HB.out _, by decide, by decide, by decide, by decide, by decide⟩
      have hK7 : Kp (fun k => N0 ≤ k) w ((w6.alloc (.cells #[.slice (some ⟨g, 0, none⟩) (bytesK ks).length c, .int .i64 (ks.length : Int), .pointer (some ⟨Q, 0, none⟩)] 50)).setCell ⟨N0, 0, none⟩ (.pointer (some ⟨w6.heap.size, 0, none⟩))) := (((hK.trans (hHr.out.2.base hCN hk5)).trans (kp_of hg6.g (fun R e => by simp at e))).trans hKA).trans (kp_of hG7.g (fun R e => by have : N0 = R := (by simpa using e); omega))
      refine bodyPost_ret (results_cell_row rfl _ _ N0 33 #[.pointer (some ⟨w6.heap.size, 0, none⟩)] (0, 0) _ rfl hb7 Ybaf.underlying33 rfl size33) rfl ?_
      have hSL : Sl ((w6.alloc (.cells #[.slice (some ⟨g, 0, none⟩) (bytesK ks).length c, .int .i64 (ks.length : Int), .pointer (some ⟨Q, 0, none⟩)] 50)).setCell ⟨N0, 0, none⟩ (.pointer (some ⟨w6.heap.size, 0, none⟩))) (some ⟨g, 0, none⟩) c (bytesK ks) := hSl.out.far (fun k arr fr hk => (hK7.block k (lt_heap hk) (by have := lt_heap hk; have := HN.out; omega)).trans hk)
      have hKK : (w6.alloc (.cells #[.slice (some ⟨g, 0, none⟩) (bytesK ks).length c, .int .i64 (ks.length : Int), .pointer (some ⟨Q, 0, none⟩)] 50)).heap[w6.heap.size]? = some (.cells #[.slice (some ⟨g, 0, none⟩) (bytesK ks).length c, .int .i64 (ks.length : Int), .pointer (some ⟨Q, 0, none⟩)] 50 (0, 0)) := heap_alloc_new w6 _
      have hQ7 := (Below.heap_alloc w6 (.cells #[.slice (some ⟨g, 0, none⟩) (bytesK ks).length c, .int .i64 (ks.length : Int), .pointer (some ⟨Q, 0, none⟩)] 50) Q (lt_heap hQ6)).trans hQ6
      refine ⟨_, rfl, ⟨.inr ⟨w6.heap.size, g, c, some ⟨Q, 0, none⟩, rfl, by intro e; rw [e] at hl; simp at hl, (hG7.block _ (lt_heap hKK) (hsafe.ne hKK (by simp))).trans hKK, hSL, .inr ⟨Q, _, cutRuns ks, rfl, rfl, ?_, (hG7.block _ (lt_heap hQ7) (hsafe.ne hQ7 (by simp))).trans hQ7, ?_⟩⟩⟩, ?_⟩
      · intro e
        have := congrArg List.length e
        simp [cutRuns] at this
        omega
      · exact ((hrun5.kept hg6.g (safe_none _)).kept (World.grownBy_alloc w6 _ none) (safe_none _)).kept hG7.g hsafe
      · exact ⟨hK7.os, hK7.tape, hK7.output, hK7.size, fun k hk _ => hK7.block k hk (by have := HN.out; omega)⟩
end Go.Proofs.YbulkbasiFmt
