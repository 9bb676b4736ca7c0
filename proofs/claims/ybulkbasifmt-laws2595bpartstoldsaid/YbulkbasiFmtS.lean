import Derived.Test.YbulkbasiFmtQ
import Derived.Test.YbulkbasiFmtR
namespace Go.Proofs.YbulkbasiFmt
open Go.RowKit
set_option maxRecDepth 100000

theorem wp_seqK {P : Program} {x y : Code} {Q : Exit → Act → World → Prop} {a : Act} {w : World} (h : ∀ K : Act → World → Prop, (∀ a w, y.wp P Q a w → K a w) → x.wp P (Exit.then K Q) a w) : (Code.seq x y).wp P Q a w := wp_seq (h _ fun _ _ h => h)
/-- A way of saying 'Code.wp' at which the walk stands still. -/
def wpS (P : Program) (c : Code) (Q : Exit → Act → World → Prop) (a : Act) (w : World) : Prop := c.wp P Q a w
theorem wp_seqS {P : Program} {x y : Code} {Q : Exit → Act → World → Prop} {a : Act} {w : World} (h : ∀ K : Act → World → Prop, (∀ a w, wpS P y Q a w → K a w) → x.wp P (Exit.then K Q) a w) : (Code.seq x y).wp P Q a w := wp_seq (h _ fun _ _ h => h)
def intOf : Value → Int
  | .int _ n => n
  | _ => 0

/-- What is given of the two lists. -/
structure PC (lk ik : List (Nat × Nat)) (l : List Run) (nR : Nat) (T slot f : Nat → Nat) (part : Nat → List (Nat × Nat)) : Prop where
  nR1 : 1 ≤ nR
  nR2 : nR ≤ 100
  len : l.length = nR
  lkv : ∀ k ∈ lk, k.1 < 65536 ∧ k.2 < 16384
  ikv : ∀ k ∈ ik, k.1 < 65536 ∧ k.2 < 16384
  lkl : lk.length ≤ 1000
  ikl : ik.length ≤ 1024
  nil : lk = [] → nR = 1
  seg : ∀ j, j < nR → ∃ ps xs ys r, l[j]? = some r ∧ lk = ps ++ xs ++ ys ∧ xs = (lk.take (hiR lk.length nR j)).drop (64 * j) ∧ r.at' = (bytesK ps).length ∧ (∀ r', l[j + 1]? = some r' → r'.at' = (bytesK (ps ++ xs)).length) ∧ (j + 1 = l.length → ys = []) ∧ r = ⟨off lk (64 * j), hiR lk.length nR j - 64 * j, nwR lk.length nR j⟩
  first : ∀ m, 1 ≤ m → m < nR → Seg lk l m (f m) ∧ f m < 65536
  mono : ∀ m m', m ≤ m' → m' < nR → f m ≤ f m'
  sl : ∀ y m, 1 ≤ m → m < nR → (f m ≤ y ↔ m ≤ slot y)
  sl2 : ∀ y, slot y < nR
  T0 : T 0 = 0
  Tn : T nR = ik.length
  Tm : ∀ j, T j ≤ T (j + 1)
  Ti : ∀ i (h : i < ik.length) j, j ≤ nR → (i < T j ↔ slot ik[i].1 < j)
  part : ∀ j, part j = (ik.take (T (j + 1))).drop (T j)
  hi : ∀ j, j < nR → 64 * j ≤ hiR lk.length nR j ∧ hiR lk.length nR j ≤ lk.length
section
variable {lk ik : List (Nat × Nat)} {l : List Run} {nR : Nat} {T slot f : Nat → Nat} {part : Nat → List (Nat × Nat)}
theorem PC.Tle (h : PC lk ik l nR T slot f part) : ∀ j j', j ≤ j' → T j ≤ T j' := by
  intro j j' hj
  induction hj with
  | refl => exact Nat.le_refl _
  | step _ ih => exact Nat.le_trans ih (h.Tm _)
theorem PC.Tlen (h : PC lk ik l nR T slot f part) (j : Nat) (hj : j ≤ nR) : T j ≤ ik.length := by rw [← h.Tn]; exact h.Tle j nR hj
theorem PC.still (h : PC lk ik l nR T slot f part) {j j' : Nat} (hj : j ≤ j') (hlt : T j < ik.length) (hs : j' ≤ slot ik[T j].1) : T j' = T j := by
  have h1 := h.Tle j j' hj
  have h2 := h.sl2 ik[T j].1
  have h3 := h.Ti (T j) hlt j' (by omega)
  by_cases h4 : T j < T j'
  · have := h3.1 h4
    omega
  · omega

/-- What 'parts' keeps from round to round. -/
structure PSt (w : World) (lk ik : List (Nat × Nat)) (l : List Run) (nR : Nat) (part : Nat → List (Nat × Nat)) (rs : Option (List Run)) (E : Env) (B3 R : Nat) (pl : Option Addr) (rv : Value) (aa : Option Addr) (ca j t : Nat) : Prop where
  b3 : w.heap[B3]? = some (.cells #[.pointer pl] 33 (0, 0))
  kl : KL w pl lk rs
  ru : RunsAt w rv l
  al : Sl w aa ca (bytesK ik)
  env : EnvOk w E lk nR part j
  rd : Rd w R (ik.drop t)
variable {rs : Option (List Run)} {E : Env} {B3 R : Nat} {pl : Option Addr} {rv : Value} {aa : Option Addr} {ca j t : Nat}
theorem PSt.kept {w w' : World} (h : PSt w lk ik l nR part rs E B3 R pl rv aa ca j t) (hg : w.grownBy w' none) : PSt w' lk ik l nR part rs E B3 R pl rv aa ca j t :=
  ⟨(hg.block _ (lt_heap h.b3) (by simp)).trans h.b3, h.kl.kept hg (safe_none _), h.ru.kept hg (safe_none _), h.al.kept hg (fun R e => by simp at e), h.env.step hg (fun R e => by simp at e), h.rd.kept hg (by simp) (fun R e => by simp at e)⟩
/-- Behind 'next'. -/
theorem PSt.read {w w' : World} {t' : Nat} (h : PSt w lk ik l nR part rs E B3 R pl rv aa ca j t) (hg : w.grownBy w' (some R)) (hr : Rd w' R (ik.drop t')) : PSt w' lk ik l nR part rs E B3 R pl rv aa ca j t' := by
  obtain ⟨cs, h1, _⟩ := h.rd
  have hs : Safe w (some R) := fun R' e => by
    have : R = R' := by simpa using e
    subst this
    exact ⟨_, _, _, h1, by decide, by decide, by decide, by decide, by decide⟩
  refine ⟨(hg.block _ (lt_heap h.b3) (fun e => ?_)).trans h.b3, h.kl.kept hg hs, h.ru.kept hg hs, h.al.kept hg hs.sl, h.env.step hg (fun R' e => ?_), hr⟩
  · have e' : B3 = R := by simpa using e
    have := h.b3
    rw [e', h1] at this
    simp at this
  · have : R = R' := by simpa using e
    subst this
    exact ⟨_, _, _, h1, by decide, by decide, by decide, by decide, by decide, by decide⟩
/-- Behind a call of the law's function. -/
theorem PSt.called {w w' : World} {j' : Nat} (h : PSt w lk ik l nR part rs E B3 R pl rv aa ca j t) (hg : w.grownBy w' (some E.bc)) (hr : EnvOk w' E lk nR part j') : PSt w' lk ik l nR part rs E B3 R pl rv aa ca j' t := by
  have h1 := h.env.c
  have hs : Safe w (some E.bc) := fun R' e => by
    have : E.bc = R' := by simpa using e
    subst this
    exact ⟨_, _, _, h1, by decide, by decide, by decide, by decide, by decide⟩
  have hne : ∀ (k : Nat) (arr : Array Value) (t : TypeId) (fr : Nat × Nat), w.heap[k]? = some (.cells arr t fr) → t ≠ 3 → some k ≠ some E.bc := fun k arr t fr hk ht e => by
    have e' : k = E.bc := by simpa using e
    subst e'
    rw [h1] at hk
    simp at hk
    exact ht hk.2.1.symm
  obtain ⟨cs, h2, _⟩ := h.rd
  refine ⟨(hg.block _ (lt_heap h.b3) (hne _ _ _ _ h.b3 (by decide))).trans h.b3, h.kl.kept hg hs, h.ru.kept hg hs, h.al.kept hg hs.sl, hr, h.rd.kept hg (hne _ _ _ _ h2 (by decide)).symm hs.sl⟩
theorem PSt.ne {w : World} {q cq n : Nat} (h : PSt w lk ik l nR part rs E B3 R pl (.slice (some ⟨q, 0, none⟩) n cq) aa ca j t) : some q ≠ some E.bc ∧ some B3 ≠ some E.bc ∧ some R ≠ some E.bc := by
  have h1 := h.env.c
  obtain ⟨g, c, arr, ty, fr, he, hg, ht, _⟩ := h.ru.ex
  have hgq : q = g := by
    have := (Value.slice.inj he).1
    simpa using this
  subst hgq
  obtain ⟨cs, h2, _⟩ := h.rd
  refine ⟨fun e => ?_, fun e => ?_, fun e => ?_⟩
  · have e' : q = E.bc := by simpa using e
    rw [e', h1] at hg
    simp at hg
    obtain ⟨_, rfl, _⟩ := hg
    rcases ht with e | e <;> exact absurd e (by decide)
  · have e' : B3 = E.bc := by simpa using e
    have h3 := h.b3
    rw [e', h1] at h3
    simp at h3
  · have e' : R = E.bc := by simpa using e
    rw [e', h1] at h2
    simp at h2
/-- The law's function, as 'parts' calls it. -/
def CloAt (E : Env) (lk : List (Nat × Nat)) (nR : Nat) (part : Nat → List (Nat × Nat)) : Prop :=
  ∀ (j : Nat) (W : World) (a1 a2 : Option Addr) (c1 c2 : Nat), j < nR → EnvOk W E lk nR part j → Sl W a1 c1 (bytesK ((lk.take (hiR lk.length nR j)).drop (64 * j))) → Sl W a2 c2 (bytesK (part j)) →
    Calls Ybaf.prog 10 #[.agg #[.int .i64 (off lk (64 * j) : Int), .int .i64 ((hiR lk.length nR j - 64 * j : Nat) : Int), .int .u64 (nwR lk.length nR j : Int)], .slice a1 (bytesK ((lk.take (hiR lk.length nR j)).drop (64 * j))).length c1, .slice a2 (bytesK (part j)).length c2, .pointer (some ⟨E.bc, 0, none⟩), .pointer (some ⟨E.bnr, 0, none⟩), .pointer (some ⟨E.bok, 0, none⟩), .pointer (some ⟨E.bn, 0, none⟩), .pointer (some ⟨E.bo, 0, none⟩), .pointer (some ⟨E.bl, 0, none⟩), .pointer (some ⟨E.bw, 0, none⟩)] W fun e w' => e = .returned (.tuple #[]) ∧ EnvOk w' E lk nR part (j + 1) ∧ W.grownBy w' (some E.bc)
theorem cloAt (h : PC lk ik l nR T slot f part) (E : Env) : CloAt E lk nR part := by
  intro j W a1 a2 c1 c2 hj hE h1 h2
  have hvp : ∀ k ∈ part j, k.1 < 65536 ∧ k.2 < 16384 := fun k hk => by
    rw [h.part] at hk
    exact h.ikv k (List.mem_of_mem_take (List.mem_of_mem_drop hk))
  by_cases hlk : lk = []
  · subst hlk
    have hn1 := h.nil rfl
    subst hn1
    have hj0 : j = 0 := by omega
    subst hj0
    exact clo_nil W E part hE hvp a1 a2 c1 c2 h1 h2
  · exact clo_any W E lk nR part j hE hj h.nR2 hlk h.lkl (h.hi j hj).1 (h.hi j hj).2 h.lkv hvp a1 a2 c1 c2 h1 h2
theorem run_seg (h : PC lk ik l nR T slot f part) {w : World} (hs : PSt w lk ik l nR part rs E B3 R pl rv aa ca j t) (m : Nat) (hm : m < nR) {w' : World} (hg : w.grownBy w' none) :
    Calls Ybaf.prog 26 #[.agg #[.pointer pl], rv, .int .i64 (m : Int)] w' fun e w'' => ∃ a c, e = .returned (.slice a (bytesK ((lk.take (hiR lk.length nR m)).drop (64 * m))).length c) ∧ Sl w'' a c (bytesK ((lk.take (hiR lk.length nR m)).drop (64 * m))) ∧ Gr w' w'' none := by
  obtain ⟨ps, xs, ys, r, h1, h2, h3, h4, h5, h6, _⟩ := h.seg m hm
  have hbl := bytesK_le lk
  have := h.lkl
  have := h.nR2
  rw [← h3]
  have hs' := hs.kept hg
  exact runBytes_any w' pl lk ps xs ys rs rv l m r hs'.kl hs'.ru h1 h2 h4 h5 h6 (fun e => by rw [h.len]; exact h.nil e) (by omega) (by rw [h.len]; omega)
end

theorem countP_lt (N c : Nat) (h : c ≤ N) : (List.range N).countP (fun i => decide (i < c)) = c := by
  induction N generalizing c with
  | zero => have : c = 0 := by omega
            subst this; rfl
  | succ N ih =>
    rw [List.range_succ, List.countP_append]
    by_cases hc : c ≤ N
    · rw [ih c hc]
      simp
      omega
    · have hc' : c = N + 1 := by omega
      subst hc'
      have e : (List.range N).countP (fun i => decide (i < N + 1)) = (List.range N).length := by
        rw [List.countP_eq_length]
        intro i hi
        simp at hi ⊢
        omega
      rw [e]
      simp
theorem PC.count {lk ik : List (Nat × Nat)} {l : List Run} {nR : Nat} {T slot f : Nat → Nat} {part : Nat → List (Nat × Nat)} (h : PC lk ik l nR T slot f part) (y j : Nat) (hj : j ≤ slot y) : j + (List.range (l.length - j - 1)).countP (fun i => !decide (y < f (j + 1 + i))) = slot y := by
  have h2 := h.sl2 y
  have e : (List.range (l.length - j - 1)).countP (fun i => !decide (y < f (j + 1 + i))) = (List.range (l.length - j - 1)).countP (fun i => decide (i < slot y - j)) := by
    apply List.countP_congr
    intro i hi
    simp at hi
    have hs := h.sl y (j + 1 + i) (by omega) (by have := h.len; omega)
    simp
    constructor
    · intro hh
      have := hs.1 hh
      omega
    · intro hh
      exact hs.2 (by omega)
  rw [e, countP_lt _ _ (by have := h.len; omega)]
  omega
/-- A run as 'parts' loads it. -/
theorem run_cells {w : World} {lk ik : List (Nat × Nat)} {l : List Run} {nR : Nat} {T slot f : Nat → Nat} {part : Nat → List (Nat × Nat)} (h : PC lk ik l nR T slot f part) {q cq : Nat} (hr : RunsAt w (.slice (some ⟨q, 0, none⟩) nR cq) l) (m : Nat) (hm : m < nR) :
    w.cell? ⟨q, m * 3, none⟩ = some (.int .i64 (off lk (64 * m) : Int)) ∧ w.cell? ⟨q, m * 3 + 1, none⟩ = some (.int .i64 ((hiR lk.length nR m - 64 * m : Nat) : Int)) ∧ w.cell? ⟨q, m * 3 + 2, none⟩ = some (.int .u64 (nwR lk.length nR m : Int)) := by
  obtain ⟨ps, xs, ys, r, h1, _, _, _, _, _, h2⟩ := h.seg m hm
  obtain ⟨g, c, he, hc⟩ := hr.cell
  have hgq : q = g := by
    have := (Value.slice.inj he).1
    simpa using this
  subst hgq
  have := hc m r h1
  rw [h2] at this
  exact this

theorem cmpN_lt {x y : Nat} (h : x < y) : cmpN x y = -1 := by unfold cmpN; rw [if_pos h]
theorem cmpN_ge {x y : Nat} (h : ¬ x < y) : (0 : Int) ≤ cmpN x y := by
  unfold cmpN
  rw [if_neg h]
  split <;> omega

theorem slice_bytes (aa : Option Addr) (LA ca ST EN Y : Nat) (W : World) (h1 : ST ≤ EN) (h2 : EN ≤ ca) (hY : EN - ST = Y) : (Instr.slice 24 (.slice aa LA ca) (some (.int .i64 (ST : Int))) (some (.int .i64 (EN : Int))) none).run Ybaf.prog W = .ok (.slice (if ca = ST then aa else aa.map (·.add ST)) Y (ca - ST)) W := by
  obtain ⟨i5, hi, hz, hs, hy⟩ := info5
  subst hY
  simp [Instr.slice, run_underlying Ybaf.underlying24, Instr.sliceBounds, Instr.sliceBound, asIntOf, sizeOf, typeInfo, hi, hs, h1, h2]

set_option maxHeartbeats 4000000 in
theorem parts_any (w : World) (lk ik : List (Nat × Nat)) (l : List Run) (nR : Nat) (T slot f : Nat → Nat) (part : Nat → List (Nat × Nat)) (rs irs : Option (List Run)) (E : Env) (pl pi : Option Addr) (hP : PC lk ik l nR T slot f part) (hl : KL w pl lk rs) (hi : KL w pi ik irs) (hsp : spansOf lk rs = l) (hE : EnvOk w E lk nR part 0) :
    Calls Ybaf.prog 9 #[.agg #[.pointer pl], .agg #[.pointer pi], .func (.func 10) #[] #[.pointer (some ⟨E.bc, 0, none⟩), .pointer (some ⟨E.bnr, 0, none⟩), .pointer (some ⟨E.bok, 0, none⟩), .pointer (some ⟨E.bn, 0, none⟩), .pointer (some ⟨E.bo, 0, none⟩), .pointer (some ⟨E.bl, 0, none⟩), .pointer (some ⟨E.bw, 0, none⟩)]] w fun e w' => e = .returned (.tuple #[]) ∧ EnvOk w' E lk nR part nR ∧ w.grownBy w' (some E.bc) := by
  have hclo := cloAt hP E
  have hlb := bytesK_le lk
  have hib := bytesK_le ik
  have hlkl := hP.lkl
  have hikl := hP.ikl
  obtain ⟨W, hW⟩ : ∃ W, ((w.alloc (.cells #[.pointer pl] 33)).alloc (.cells #[.pointer pi] 33)).alloc (.cells #[.int .i64 0, .int .i64 0, .int .u64 0] 72) = W := ⟨_, rfl⟩
  have hgW : w.grownBy W none := by rw [← hW]; exact ((World.grownBy_alloc _ _ _).trans (World.grownBy_alloc _ _ _)).trans (World.grownBy_alloc _ _ _)
  have hb3 : W.heap[w.heap.size]? = some (.cells #[.pointer pl] 33 (0, 0)) := by rw [← hW]; exact ((Below.heap_alloc _ _ _ (by simp; omega)).trans (Below.heap_alloc _ _ _ (by simp))).trans (heap_alloc_new w _)
  have hb4 : W.heap[w.heap.size + 1]? = some (.cells #[.pointer pi] 33 (0, 0)) := by rw [← hW]; have := heap_alloc_new (w.alloc (.cells #[.pointer pl] 33)) (.cells #[.pointer pi] 33); rw [World.size_alloc] at this; exact (Below.heap_alloc _ _ _ (by simp)).trans this
  have hb6 : W.heap[w.heap.size + 2]? = some (.cells #[.int .i64 0, .int .i64 0, .int .u64 0] 72 (0, 0)) := by rw [← hW]; have := heap_alloc_new ((w.alloc (.cells #[.pointer pl] 33)).alloc (.cells #[.pointer pi] 33)) (.cells #[.int .i64 0, .int .i64 0, .int .u64 0] 72); rw [World.size_alloc, World.size_alloc] at this; exact this
  have HA : Hid (KL w pl lk rs ∧ KL w pi ik irs ∧ EnvOk w E lk nR part 0 ∧ w.grownBy W none) := ⟨hl, hi, hE, hgW⟩
  have HP : Hid (PC lk ik l nR T slot f part) := hP
  have HC : Hid (CloAt E lk nR part) := hclo
  have HS : Hid (spansOf lk rs = l) := hsp
  clear hP hclo hl hi hE hgW hsp
  have c3 : W.cell? ⟨w.heap.size, 0, none⟩ = some (.pointer pl) := (cell_of_row W _ 0 _ _ _ hb3).trans rfl
  have c4 : W.cell? ⟨w.heap.size + 1, 0, none⟩ = some (.pointer pi) := (cell_of_row W _ 0 _ _ _ hb4).trans rfl
  have hspan := spans_any W.drew pl lk rs (w.heap.size + 2) ((HA.out.1.kept HA.out.2.2.2 (safe_none _)).kept (gr_drew W).g (safe_none _)) hb6
  go_enter Ybaf.func9, Ybaf.ntmps9
  go_wp2
  simp only [Nat.add_assoc, Nat.reduceAdd]
  go_region_held3 (fun w' => w'.cell? ⟨w.heap.size, 0, none⟩ = some (.pointer pl) ∧ w'.cell? ⟨w.heap.size + 1, 0, none⟩ = some (.pointer pi)) (go_keep)
    (first
      | (go_at_call 22; refine hspan.mono ?_; rintro e w2 ⟨rv, rfl, hru2, hkl2, hg2⟩; have hb32 := (hg2.block _ (lt_heap hb3) (by simp)).trans hb3; have hb42 := (hg2.block _ (lt_heap hb4) (by simp)).trans hb4; have c32 : w2.cell? ⟨w.heap.size, 0, none⟩ = some (.pointer pl) := (cell_of_row w2 _ 0 _ _ _ hb32).trans rfl; have c42 : w2.cell? ⟨w.heap.size + 1, 0, none⟩ = some (.pointer pi) := (cell_of_row w2 _ 0 _ _ _ hb42).trans rfl; have hgA : w.grownBy w2 none := (HA.out.2.2.2.trans (gr_drew W).g).andThen hg2.g (fun j hj => .inl (by have : w.heap.size + 2 = j := (by simpa using hj); omega)); have hall := lbytes_any w2 pi ik irs (HA.out.2.1.kept hgA (safe_none _)))
      | (go_at_call 23; refine hall.mono ?_; rintro e w3 ⟨aa, ca, rfl, hal3, haa1, haa2, hg3⟩; have hb33 := (hg3.block _ (lt_heap hb32) (by simp)).trans hb32; have hb43 := (hg3.block _ (lt_heap hb42) (by simp)).trans hb42; have c33 : w3.cell? ⟨w.heap.size, 0, none⟩ = some (.pointer pl) := (cell_of_row w3 _ 0 _ _ _ hb33).trans rfl; have c43 : w3.cell? ⟨w.heap.size + 1, 0, none⟩ = some (.pointer pi) := (cell_of_row w3 _ 0 _ _ _ hb43).trans rfl))
  have hgB : w.grownBy w3 none := hgA.trans hg3.g
  have hrdr := reader_any w3 pi ik irs (HA.out.2.1.kept hgB (safe_none _)) (fun k hk => (HP.out.ikv k hk).2) (by omega)
  have HB : Hid (RunsAt w3 rv l ∧ KL w3 pl lk rs ∧ w.grownBy w3 none ∧ w3.heap[w.heap.size]? = some (.cells #[.pointer pl] 33 (0, 0)) ∧ Sl w3 aa ca (bytesK ik)) := ⟨HS.out ▸ hru2.kept hg3.g (safe_none _), hkl2.kept hg3.g (safe_none _), hgB, hb33, hal3⟩
  clear hru2 hkl2 hg2 hg3 hal3 hb33 hb32 hb42 hb43 c32 c42 c33 hspan hall hgA hgB
  go_wp2_with (first
    | (go_at_call 24; refine hrdr.mono ?_; rintro e w4 ⟨cs, rfl, hV4, hg4⟩; have hcs := hV4.size; have hi2 : (Ybaf.prog.info? 65).map (·.size) = some cs.size := (by rw [hcs.1]; exact size65))
    | (refine wpList_store_row rfl 65 _ _ rfl w4.heap.size cs rfl rfl 65 _ (heap_alloc_new w4 _) hi2 (by rw [hcs.1]; rfl) hcs.2 ?_))
  try simp only [Act.put]
  have hlaid := Rd.laid hV4
  have hgC : w3.grownBy ((w4.alloc Z65).setRow w4.heap.size cs) none := hg4.g.trans hlaid.2.g
  obtain ⟨q, cq, arrq, tq, frq, hrv, _⟩ := HB.out.1.ex
  have hps0 : PSt ((w4.alloc Z65).setRow w4.heap.size cs) lk ik l nR part rs E w.heap.size w4.heap.size pl rv aa ca 0 (T 0) := by
    refine ⟨(hgC.block _ (lt_heap HB.out.2.2.2.1) (by simp)).trans HB.out.2.2.2.1, HB.out.2.1.kept hgC (safe_none _), HB.out.1.kept hgC (safe_none _), HB.out.2.2.2.2.kept hgC (fun R e => by simp at e), (HA.out.2.2.1.step HB.out.2.2.1 (fun R e => by simp at e)).step hgC (fun R e => by simp at e), ?_⟩
    rw [HP.out.T0]
    exact hlaid.1
  have hkp0 : Kp (fun k => k = E.bc ∨ w.heap.size ≤ k) w ((w4.alloc Z65).setRow w4.heap.size cs) := kp_of (HB.out.2.2.1.trans hgC) (fun R e => by simp at e)
  have hRN : w.heap.size ≤ w4.heap.size := Nat.le_trans HB.out.2.2.1.size hg4.size
  rw [HP.out.len] at hrv
  subst hrv
  generalize (w4.alloc Z65).setRow w4.heap.size cs = W5 at hps0 hkp0 ⊢
  generalize w4.heap.size = R at hps0 hRN ⊢
  have HN : Hid (∃ N0, w.heap.size = N0) := ⟨_, rfl⟩
  generalize hN0 : w.heap.size = N0 at *
  have HNN : Hid (w.heap.size = N0) := hN0
  clear hN0 hlaid hgC hV4 hg4 hcs hi2 hrdr c43 c3 c4 hb3 hb4 hb6 hW HB HN
  have hnr := HP.out.nR2
  have hnr1 := HP.out.nR1
  go_loopw [10] (fun v wr => ∃ j : Nat, j ≤ nR ∧ v = .int .i64 (j : Int) ∧ PSt wr lk ik l nR part rs E N0 R pl (.slice (some ⟨q, 0, none⟩) nR cq) aa ca j (T j) ∧ Kp (fun k => k = E.bc ∨ N0 ≤ k) w wr) (fun v _ => nR - (intOf v).toNat)
  case atStart => exact ⟨0, Nat.zero_le _, rfl, hps0, hkp0⟩
  case round =>
    clear hps0 hkp0
    obtain ⟨j, hjn, rfl, hps, hkp⟩ := hrel
    by_cases hlt : j < nR
    · have hltI : (j : Int) < (nR : Int) := by omega
      refine wp_seqS fun Ka hKa => ?_
      go_wp2_with fail
      unfold wpS
      refine wp_seqS fun Kb hKb => ?_
      refine wp_block ?_
      refine wp_seqS fun Kc hKc => ?_
      go_cut [10] from 20 to 96 (fun s10 wx => ∃ j' : Nat, j ≤ j' ∧ j' < nR ∧ s10 = .int .i64 (j' : Int) ∧ PSt wx lk ik l nR part rs E N0 R pl (.slice (some ⟨q, 0, none⟩) nR cq) aa ca j' (T j') ∧ Kp (fun k => k = E.bc ∨ N0 ≤ k) w wx ∧ ∀ (h : T j' < ik.length), slot ik[T j'].1 = j')
      case first =>
        have hTl := HP.out.Tlen j hjn
        by_cases hok : T j < ik.length
        · obtain ⟨y, yv, hyv⟩ : ∃ y yv, ik[T j] = (y, yv) := ⟨_, _, rfl⟩
          have hdr : ik.drop (T j) = (y, yv) :: ik.drop (T j + 1) := by rw [keys_at hok, hyv]
          have hrd := hps.rd
          rw [hdr] at hrd
          have hjs : j ≤ slot y := by
            have := HP.out.Ti (T j) hok j hjn
            rw [hyv] at this
            simp at this
            exact this
          have hyb := (HP.out.ikv _ (List.getElem_mem hok)).1
          rw [hyv] at hyb
          have c16 : wr.cell? ⟨R, 16, none⟩ = some (.bool true) := by have := hrd.okc; simpa using this
          obtain ⟨an, cn, c12, hsn⟩ := hrd.namec
          have c3 : wr.cell? ⟨N0, 0, none⟩ = some (.pointer pl) := (cell_of_row wr _ 0 _ _ _ hps.b3).trans rfl
          have hrun := runOf_any wr pl lk y j f rs (.slice (some ⟨q, 0, none⟩) nR cq) l an cn hps.kl hps.ru (fun m h1 h2 => HP.out.first m h1 (by have := HP.out.len; omega)) (fun m m' h1 h2 => HP.out.mono m m' h1 (by have := HP.out.len; omega)) (by omega) (by have := HP.out.len; omega) (fun k hk => (HP.out.lkv k hk).2) hyb (by have := HP.out.len; omega) hsn
          rw [HP.out.count y j hjs] at hrun
          have hsl2 := HP.out.sl2 y
          have HH : Hid (PSt wr lk ik l nR part rs E N0 R pl (.slice (some ⟨q, 0, none⟩) nR cq) aa ca j (T j) ∧ Kp (fun k => k = E.bc ∨ N0 ≤ k) w wr ∧ slot ik[T j].1 = slot y) := ⟨hps, hkp, by rw [hyv]⟩
          generalize slot y = k at *
          clear hps hkp hrd hsn hdr hyv
          go_wp2_with (go_at_call 25; refine hrun.mono ?_; rintro e w2 ⟨rfl, hg2⟩)
          have hps2 := HH.out.1.kept hg2.g
          have hkp2 := HH.out.2.1.trans (kp_of (S := fun k => k = E.bc ∨ N0 ≤ k) hg2.g (fun R e => by simp at e))
          go_loopw [10] (fun v wq => ∃ i : Nat, j ≤ i ∧ i ≤ k ∧ v = .int .i64 (i : Int) ∧ PSt wq lk ik l nR part rs E N0 R pl (.slice (some ⟨q, 0, none⟩) nR cq) aa ca i (T j) ∧ Kp (fun k => k = E.bc ∨ N0 ≤ k) w wq) (fun v _ => k - (intOf v).toNat)
          case atStart => exact ⟨j, Nat.le_refl _, hjs, rfl, hps2, hkp2⟩
          case round =>
            clear hps2 hkp2
            obtain ⟨i, hji, hik, rfl, hpq, hkq⟩ := hrel
            by_cases hik2 : i < k
            · have hT1 : T i = T j := HP.out.still hji hok (by rw [HH.out.2.2]; omega)
              have hT2 : T (i + 1) = T j := HP.out.still (by omega) hok (by rw [HH.out.2.2]; omega)
              have hpart : part i = [] := by
                rw [HP.out.part, hT1, hT2, List.drop_eq_nil_iff, List.length_take]
                omega
              have hin : i < nR := by omega
              obtain ⟨e1, e2, e3⟩ := run_cells HP.out hpq.ru i hin
              have e4 : wr.cell? ⟨N0, 0, none⟩ = some (.pointer pl) := (cell_of_row wr _ 0 _ _ _ hpq.b3).trans rfl
              have hseg := run_seg HP.out hpq i hin (gr_drew wr).g
              have hclo : ∀ (W : World) (a1 : Option Addr) (c1 : Nat), EnvOk W E lk nR part i → Sl W a1 c1 (bytesK ((lk.take (hiR lk.length nR i)).drop (64 * i))) → _ := fun W a1 c1 h1 h2 => HC.out i W a1 none c1 0 hin h1 h2 (by rw [hpart]; exact ⟨Nat.le_refl _, fun ad e => by simp at e, fun _ => rfl⟩)
              have hz : (bytesK (part i)).length = 0 := by rw [hpart]; rfl
              rw [hz] at hclo
              generalize off lk (64 * i) = A at *
              generalize hiR lk.length nR i - 64 * i = D at *
              generalize nwR lk.length nR i = NW at *
              generalize hBS : bytesK ((lk.take (hiR lk.length nR i)).drop (64 * i)) = BS at *
              generalize BS.length = X at *
              have hi0 : (0 : Int) ≤ (i : Int) := by omega
              have hi1 : (i : Int) < (nR : Int) := by omega
              have hikI : (i : Int) < (k : Int) := by omega
              have HQ : Hid (PSt wr lk ik l nR part rs E N0 R pl (.slice (some ⟨q, 0, none⟩) nR cq) aa ca i (T j) ∧ Kp (fun k => k = E.bc ∨ N0 ≤ k) w wr) := ⟨hpq, hkq⟩
              have HCl : Hid (∀ (W : World) (a1 : Option Addr) (c1 : Nat), EnvOk W E lk nR part i → Sl W a1 c1 BS → _) := hclo
              clear hpq hkq hT1 hT2 hpart hz hclo hBS
              go_wp2
              go_region_held3 (fun w' => w'.cell? ⟨q, i * 3, none⟩ = some (.int .i64 (A : Int)) ∧ w'.cell? ⟨q, i * 3 + 1, none⟩ = some (.int .i64 (D : Int)) ∧ w'.cell? ⟨q, i * 3 + 2, none⟩ = some (.int .u64 (NW : Int)) ∧ w'.cell? ⟨N0, 0, none⟩ = some (.pointer pl)) (go_keep)
                (first
                  | (go_at_call 26; refine hseg.mono ?_; rintro e w3 ⟨a1, c1, rfl, hs1, hg3⟩; have g3 := (gr_drew wr).g.trans hg3.g; have k1 := (g3.cell_far ⟨q, i * 3, none⟩ (World.block_lt_of_cell? _ _ e1) (by simp)).trans e1; have k2 := (g3.cell_far ⟨q, i * 3 + 1, none⟩ (World.block_lt_of_cell? _ _ e2) (by simp)).trans e2; have k3 := (g3.cell_far ⟨q, i * 3 + 2, none⟩ (World.block_lt_of_cell? _ _ e3) (by simp)).trans e3; have k4 := (g3.cell_far ⟨N0, 0, none⟩ (World.block_lt_of_cell? _ _ e4) (by simp)).trans e4; have hps3 := HQ.out.1.kept g3; have hcall := HCl.out w3 a1 c1 hps3.env hs1)
                  | (go_at_call 10; refine hcall.mono ?_; rintro e w5 ⟨rfl, henv5, hg5⟩; have m1 := (hg5.cell_far ⟨q, i * 3, none⟩ (World.block_lt_of_cell? _ _ k1) hps3.ne.1).trans k1; have m2 := (hg5.cell_far ⟨q, i * 3 + 1, none⟩ (World.block_lt_of_cell? _ _ k2) hps3.ne.1).trans k2; have m3 := (hg5.cell_far ⟨q, i * 3 + 2, none⟩ (World.block_lt_of_cell? _ _ k3) hps3.ne.1).trans k3; have m4 := (hg5.cell_far ⟨N0, 0, none⟩ (World.block_lt_of_cell? _ _ k4) hps3.ne.2.1).trans k4))
              have hps5 := hps3.called hg5 henv5
              have hkp5 : Kp (fun k => k = E.bc ∨ N0 ≤ k) w w5 := (HQ.out.2.trans (kp_of g3 (fun R e => by simp at e))).trans (kp_of hg5 (fun R e => .inl (by simpa using e.symm)))
              have HZ : Hid (PSt w5 lk ik l nR part rs E N0 R pl (.slice (some ⟨q, 0, none⟩) nR cq) aa ca (i + 1) (T j) ∧ Kp (fun k => k = E.bc ∨ N0 ≤ k) w w5) := ⟨hps5, hkp5⟩
              clear hps5 hkp5 hps3 henv5 hg5 hcall g3 hg3 hs1
              go_wp2
              exact ⟨⟨i + 1, by omega, by omega, by simp, HZ.out.1, HZ.out.2⟩, by simp [intOf]; omega⟩
            · have hie : i = k := by omega
              subst hie
              have hT : T i = T j := HP.out.still hjs hok (by rw [HH.out.2.2]; exact Nat.le_refl _)
              have HQ : Hid (PSt wr lk ik l nR part rs E N0 R pl (.slice (some ⟨q, 0, none⟩) nR cq) aa ca i (T i) ∧ Kp (fun k => k = E.bc ∨ N0 ≤ k) w wr ∧ ∀ (h : T i < ik.length), slot ik[T i].1 = i) := ⟨by rw [hT]; exact hpq, hkq, fun h => by simp only [hT]; exact HH.out.2.2⟩
              clear hpq hkq hT
              go_wp2
              go_meet
              exact ⟨i, hji, hsl2, rfl, HQ.out.1, HQ.out.2.1, HQ.out.2.2⟩
        · have hTe : ik.drop (T j) = [] := by rw [List.drop_eq_nil_iff]; omega
          have hrd := hps.rd
          rw [hTe] at hrd
          have c16 : wr.cell? ⟨R, 16, none⟩ = some (.bool false) := by have := hrd.okc; simpa using this
          have HH : Hid (PSt wr lk ik l nR part rs E N0 R pl (.slice (some ⟨q, 0, none⟩) nR cq) aa ca j (T j) ∧ Kp (fun k => k = E.bc ∨ N0 ≤ k) w wr) := ⟨hps, hkp⟩
          clear hps hkp hrd
          go_wp2
          go_meet
          exact ⟨j, Nat.le_refl _, hlt, rfl, HH.out.1, HH.out.2, fun h => absurd h hok⟩
      case rest =>
        obtain ⟨i, hji, hin, rfl, hpc, hkc, hsl⟩ := hcut
        clear hps hkp
        apply hKc
        unfold wpS
        have hTl := HP.out.Tlen i (by omega)
        have hTl1 := HP.out.Tlen (i + 1) (by omega)
        have hTm := HP.out.Tm i
        have hoa := off_add ik (T i)
        have hoa1 := off_add ik (T (i + 1))
        have hleft := left_any wc R (ik.drop (T i)) hpc.rd (by omega)
        obtain ⟨ST, hST⟩ : ∃ ST, ST = off ik (T i) := ⟨_, rfl⟩
        have HST : Hid (ST = off ik (T i)) := hST
        have hSTi : ((bytesK ik).length : Int) - ((bytesK (ik.drop (T i))).length : Int) = (ST : Int) := by omega
        have hLT : (bytesK (ik.drop (T i))).length ≤ (bytesK ik).length := by omega
        have HH : Hid (PSt wc lk ik l nR part rs E N0 R pl (.slice (some ⟨q, 0, none⟩) nR cq) aa ca i (T i) ∧ Kp (fun k => k = E.bc ∨ N0 ≤ k) w wc ∧ ∀ (h : T i < ik.length), slot ik[T i].1 = i) := ⟨hpc, hkc, hsl⟩
        have HO : Hid ((bytesK ik).length = off ik (T i) + (bytesK (ik.drop (T i))).length ∧ (bytesK ik).length = off ik (T (i + 1)) + (bytesK (ik.drop (T (i + 1)))).length) := ⟨hoa, hoa1⟩
        clear hpc hkc hsl hST hoa hoa1
        generalize (bytesK (ik.drop (T i))).length = LT at *
        generalize hLA : (bytesK ik).length = LA at *
        have HLA : Hid ((bytesK ik).length = LA) := hLA
        clear hLA
        refine wp_seqS fun Kd hKd => ?_
        go_wp2_with (go_at_call 17; refine hleft.mono ?_; rintro e w2 ⟨rfl, hg2⟩)
        unfold wpS
        have hps2 := HH.out.1.kept hg2.g
        have hkp2 := HH.out.2.1.trans (kp_of (S := fun k => k = E.bc ∨ N0 ≤ k) hg2.g (fun R e => by simp at e))
        refine wp_seqS fun Ke hKe => ?_
        go_cut [13] from 20 to 96 (fun _ wx => PSt wx lk ik l nR part rs E N0 R pl (.slice (some ⟨q, 0, none⟩) nR cq) aa ca i (T (i + 1)) ∧ Kp (fun k => k = E.bc ∨ N0 ≤ k) w wx)
        case first =>
          have hib2 : (i : Int) + 1 ≤ 100 := by omega
          by_cases hlast : i + 1 = nR
          · have hlb2 : ((i : Int) + 1 == (nR : Int)) = true := by simp; omega
            have HK : Hid (PSt w2 lk ik l nR part rs E N0 R pl (.slice (some ⟨q, 0, none⟩) nR cq) aa ca i (T i) ∧ Kp (fun k => k = E.bc ∨ N0 ≤ k) w w2) := ⟨hps2, hkp2⟩
            clear hps2 hkp2
            go_wp2
            go_loopw [] (fun wq => ∃ t : Nat, T i ≤ t ∧ t ≤ ik.length ∧ PSt wq lk ik l nR part rs E N0 R pl (.slice (some ⟨q, 0, none⟩) nR cq) aa ca i t ∧ Kp (fun k => k = E.bc ∨ N0 ≤ k) w wq) (fun wq => rdMeas (.pointer (some ⟨R, 0, none⟩)) wq)
            case atStart => exact ⟨T i, Nat.le_refl _, hTl, HK.out.1, HK.out.2⟩
            case round =>
              obtain ⟨t, ht1, ht2, hpq, hkq⟩ := hrel
              by_cases htl : t < ik.length
              · obtain ⟨y, yv, hyv⟩ : ∃ y yv, ik[t] = (y, yv) := ⟨_, _, rfl⟩
                have hdr : ik.drop t = (y, yv) :: ik.drop (t + 1) := by rw [keys_at htl, hyv]
                have hrd := hpq.rd
                rw [hdr] at hrd
                have c16 : wr.cell? ⟨R, 16, none⟩ = some (.bool true) := by have := hrd.okc; simpa using this
                have hnx := next_any wr R (ik.drop (t + 1)) hrd.pre (fun k hk => (HP.out.ikv k (List.mem_of_mem_drop hk)).2) (by have := off_add ik (t + 1); have := HLA.out; omega)
                have HQ : Hid (PSt wr lk ik l nR part rs E N0 R pl (.slice (some ⟨q, 0, none⟩) nR cq) aa ca i t ∧ Kp (fun k => k = E.bc ∨ N0 ≤ k) w wr ∧ Rd wr R ((y, yv) :: ik.drop (t + 1))) := ⟨hpq, hkq, hrd⟩
                clear hpq hkq hrd hdr hyv
                go_wp2_with (go_at_call 15; refine hnx.mono ?_; rintro e w3 ⟨rfl, hrd3, hg3⟩)
                exact ⟨⟨t + 1, by omega, by omega, HQ.out.1.read hg3.g hrd3, HQ.out.2.1.trans (kp_of hg3.g (fun R' e => .inr (by have : R = R' := (by simpa using e); omega)))⟩, HQ.out.2.2.lt hrd3⟩
              · have hte : t = T (i + 1) := by rw [hlast, HP.out.Tn]; omega
                have hdr : ik.drop t = [] := by rw [List.drop_eq_nil_iff]; omega
                have hrd := hpq.rd
                rw [hdr] at hrd
                have c16 : wr.cell? ⟨R, 16, none⟩ = some (.bool false) := by have := hrd.okc; simpa using this
                have HQ : Hid (PSt wr lk ik l nR part rs E N0 R pl (.slice (some ⟨q, 0, none⟩) nR cq) aa ca i (T (i + 1)) ∧ Kp (fun k => k = E.bc ∨ N0 ≤ k) w wr) := ⟨hte ▸ hpq, hkq⟩
                clear hpq hkq hrd hdr hte
                go_wp2
                go_meet
                exact HQ.out
          · have hlb2 : ((i : Int) + 1 == (nR : Int)) = false := by rw [beq_eq_false_iff_ne]; omega
            by_cases hok : T i < ik.length
            · have hfi := HP.out.first (i + 1) (by omega) (by omega)
              have hdr0 := keys_at hok
              have hrd0 := hps2.rd
              rw [hdr0] at hrd0
              have c16 : w2.cell? ⟨R, 16, none⟩ = some (.bool true) := hrd0.okc
              have c3 : w2.cell? ⟨N0, 0, none⟩ = some (.pointer pl) := (cell_of_row w2 _ 0 _ _ _ hps2.b3).trans rfl
              have hfn := firstName_seg w2 pl lk (f (i + 1)) (i + 1) rs (.slice (some ⟨q, 0, none⟩) nR cq) l hps2.kl hps2.ru hfi.1 (by omega) (by have := HP.out.len; omega) (fun k hk => (HP.out.lkv k hk).2)
              rw [show ((i + 1 : Nat) : Int) = (i : Int) + 1 from by omega] at hfn
              have HK : Hid (PSt w2 lk ik l nR part rs E N0 R pl (.slice (some ⟨q, 0, none⟩) nR cq) aa ca i (T i) ∧ Kp (fun k => k = E.bc ∨ N0 ≤ k) w w2) := ⟨hps2, hkp2⟩
              clear hps2 hkp2 hrd0 hdr0
              go_wp2_with (go_at_call 27; refine hfn.mono ?_; rintro e w3 ⟨af, cf, rfl, hsf, hg3⟩)
              have hps3 := HK.out.1.kept hg3.g
              have hkp3 := HK.out.2.trans (kp_of (S := fun k => k = E.bc ∨ N0 ≤ k) hg3.g (fun R e => by simp at e))
              go_loopw [] (fun wq => ∃ t : Nat, T i ≤ t ∧ t ≤ T (i + 1) ∧ PSt wq lk ik l nR part rs E N0 R pl (.slice (some ⟨q, 0, none⟩) nR cq) aa ca i t ∧ Kp (fun k => k = E.bc ∨ N0 ≤ k) w wq ∧ Sl wq af cf [f (i + 1) / 256, f (i + 1) % 256]) (fun wq => rdMeas (.pointer (some ⟨R, 0, none⟩)) wq)
              case atStart => exact ⟨T i, Nat.le_refl _, hTm, hps3, hkp3, hsf⟩
              case round =>
                clear hps3 hkp3 hsf
                obtain ⟨t, ht1, ht2, hpq, hkq, hsq⟩ := hrel
                by_cases htl : t < ik.length
                · obtain ⟨y, yv, hyv⟩ : ∃ y yv, ik[t] = (y, yv) := ⟨_, _, rfl⟩
                  have hdr : ik.drop t = (y, yv) :: ik.drop (t + 1) := by rw [keys_at htl, hyv]
                  have hrd := hpq.rd
                  rw [hdr] at hrd
                  have c16' : wr.cell? ⟨R, 16, none⟩ = some (.bool true) := by have := hrd.okc; simpa using this
                  obtain ⟨an, cn, c12, hsn⟩ := hrd.namec
                  have hyb := (HP.out.ikv _ (List.getElem_mem htl)).1
                  have hslot := HP.out.Ti t htl (i + 1) (by omega)
                  have hfs := HP.out.sl y (i + 1) (by omega) (by omega)
                  rw [hyv] at hyb hslot
                  simp only at hyb hslot
                  have hcmp := compare_any wr an af cn cf y (f (i + 1)) hsn hsq hyb hfi.2
                  have hnx := next_any wr R (ik.drop (t + 1)) hrd.pre (fun k hk => (HP.out.ikv k (List.mem_of_mem_drop hk)).2) (by have := off_add ik (t + 1); have := HLA.out; omega)
                  have HQ : Hid (PSt wr lk ik l nR part rs E N0 R pl (.slice (some ⟨q, 0, none⟩) nR cq) aa ca i t ∧ Kp (fun k => k = E.bc ∨ N0 ≤ k) w wr ∧ Rd wr R ((y, yv) :: ik.drop (t + 1)) ∧ Sl wr af cf [f (i + 1) / 256, f (i + 1) % 256]) := ⟨hpq, hkq, hrd, hsq⟩
                  by_cases hyl : y < f (i + 1)
                  · rw [cmpN_lt hyl] at hcmp
                    have htT : t < T (i + 1) := hslot.2 (by
                      by_cases h9 : i + 1 ≤ slot y
                      · have := hfs.2 h9
                        omega
                      · omega)
                    clear hpq hkq hrd hdr hyv hsq hsn
                    go_wp2_with (first
                      | (go_at_call 28; refine hcmp.mono ?_; rintro e w4 ⟨rfl, rfl⟩)
                      | (go_at_call 15; refine hnx.mono ?_; rintro e w5 ⟨rfl, hrd5, hg5⟩))
                    obtain ⟨csR, hRb, _⟩ := HQ.out.1.rd
                    exact ⟨⟨t + 1, by omega, by omega, HQ.out.1.read hg5.g hrd5, HQ.out.2.1.trans (kp_of hg5.g (fun R' e => .inr (by have : R = R' := (by simpa using e); omega))), HQ.out.2.2.2.kept hg5.g (fun R' e => by have e' : R = R' := (by simpa using e); subst e'; exact ⟨_, _, _, hRb, by decide⟩)⟩, HQ.out.2.2.1.lt hrd5⟩
                  · have hcge := cmpN_ge hyl
                    generalize cmpN y (f (i + 1)) = cv at hcmp hcge
                    have hcge' : ¬ cv < 0 := by omega
                    have hte : t = T (i + 1) := by
                      by_cases h9 : t < T (i + 1)
                      · have := hslot.1 h9
                        have h10 := hfs.1 (by omega)
                        omega
                      · omega
                    have HQ2 : Hid (t = T (i + 1)) := hte
                    clear hpq hkq hrd hdr hyv hsq hsn hte hcge
                    go_wp2_with (go_at_call 28; refine hcmp.mono ?_; rintro e w4 ⟨rfl, rfl⟩)
                    go_meet
                    exact ⟨HQ2.out ▸ HQ.out.1, HQ.out.2.1⟩
                · have hte : t = T (i + 1) := by omega
                  have hdr : ik.drop t = [] := by rw [List.drop_eq_nil_iff]; omega
                  have hrd := hpq.rd
                  rw [hdr] at hrd
                  have c16' : wr.cell? ⟨R, 16, none⟩ = some (.bool false) := by have := hrd.okc; simpa using this
                  have HQ : Hid (PSt wr lk ik l nR part rs E N0 R pl (.slice (some ⟨q, 0, none⟩) nR cq) aa ca i (T (i + 1)) ∧ Kp (fun k => k = E.bc ∨ N0 ≤ k) w wr) := ⟨hte ▸ hpq, hkq⟩
                  clear hpq hkq hrd hdr hte hsq
                  go_wp2
                  go_meet
                  exact HQ.out
            · have hTe : T (i + 1) = T i := by omega
              have hdr : ik.drop (T i) = [] := by rw [List.drop_eq_nil_iff]; omega
              have hrd := hps2.rd
              rw [hdr] at hrd
              have c16 : w2.cell? ⟨R, 16, none⟩ = some (.bool false) := by have := hrd.okc; simpa using this
              have HQ : Hid (PSt w2 lk ik l nR part rs E N0 R pl (.slice (some ⟨q, 0, none⟩) nR cq) aa ca i (T (i + 1)) ∧ Kp (fun k => k = E.bc ∨ N0 ≤ k) w w2) := ⟨by rw [hTe]; exact hps2, hkp2⟩
              clear hps2 hkp2 hrd hdr hTe
              go_wp2
              go_meet
              exact HQ.out
        case rest =>
          obtain ⟨hpd, hkd⟩ := hcut
          apply hKe
          unfold wpS
          clear hps2 hkp2
          have hpe : bytesK (ik.take (T (i + 1))) = bytesK (ik.take (T i)) ++ bytesK (part i) := by
            rw [HP.out.part, ← bytesK_append]
            congr 1
            have : ik.take (T i) = (ik.take (T (i + 1))).take (T i) := by rw [List.take_take]; congr 1; omega
            rw [this, List.take_append_drop]
          have hall : bytesK ik = bytesK (ik.take (T i)) ++ bytesK (part i) ++ bytesK (ik.drop (T (i + 1))) := by rw [← hpe, ← bytesK_append, List.take_append_drop]
          have hoo := HO.out
          have hLAo := HLA.out
          obtain ⟨EN, hEN⟩ : ∃ EN, EN = off ik (T (i + 1)) := ⟨_, rfl⟩
          have hENy : off ik (T (i + 1)) = off ik (T i) + (bytesK (part i)).length := by
            unfold off
            rw [hpe, List.length_append]
          obtain ⟨e1, e2, e3⟩ := run_cells HP.out hpd.ru i hin
          have e4 : wc.cell? ⟨N0, 0, none⟩ = some (.pointer pl) := (cell_of_row wc _ 0 _ _ _ hpd.b3).trans rfl
          have hseg := run_seg HP.out hpd i hin (gr_drew wc).g
          have hcaL := hpd.al.le
          rw [hLAo] at hcaL
          have hSTo := HST.out
          have hSTl : ST = (bytesK (ik.take (T i))).length := hSTo
          obtain ⟨LT1, hLT1⟩ : ∃ LT1, LT1 = (bytesK (ik.drop (T (i + 1)))).length := ⟨_, rfl⟩
          have hwE : IntKind.i64.wrap ((LA : Int) - (LT1 : Int)) = (EN : Int) := by rw [IntKind.wrap_i64]; omega
          have hLb : LT1 ≤ 90000 := by omega
          have hi0 : (0 : Int) ≤ (i : Int) := by omega
          have hi1 : (i : Int) < (nR : Int) := by omega
          have hslice : ∃ ai ci, (∀ W', (Instr.slice 24 (.slice aa LA ca) (some (.int .i64 (ST : Int))) (some (.int .i64 (EN : Int))) none).run Ybaf.prog W' = .ok (.slice ai (bytesK (part i)).length ci) W') ∧ ∀ W', Sl W' aa ca (bytesK ik) → Sl W' ai ci (bytesK (part i)) := by
            by_cases hik0 : ik = []
            · obtain ⟨rfl, rfl⟩ := haa2 hik0
              have hpn : bytesK (part i) = [] := by
                rw [hik0] at hall
                simp [bytesK] at hall
                simp [bytesK]
                exact hall
              have hST0 : ST = 0 := by omega
              have hEN0 : EN = 0 := by omega
              refine ⟨none, 0, fun W' => ?_, fun W' h => ?_⟩
              · rw [slice_bytes none LA 0 ST EN (bytesK (part i)).length W' (by omega) (by omega) (by omega), hST0]
                simp
              · rw [hpn]
                exact ⟨Nat.le_refl _, fun ad e => by simp at e, fun _ => rfl⟩
            · obtain ⟨ga, rfl⟩ := haa1 hik0
              refine ⟨if ca = ST then some ⟨ga, 0, none⟩ else some ⟨ga, ST, none⟩, ca - ST, fun W' => ?_, fun W' h3 => ?_⟩
              · rw [slice_bytes (some ⟨ga, 0, none⟩) LA ca ST EN (bytesK (part i)).length W' (by omega) (by omega) (by omega)]
                have e : (⟨ga, 0, none⟩ : Addr).add ST = ⟨ga, ST, none⟩ := by unfold Addr.add; split <;> simp_all
                simp only [Option.map_some, e]
              · rw [hall] at h3
                have := h3.mid
                rw [Nat.zero_add, ← hSTl] at this
                exact this
          obtain ⟨ai, ci, hslr, hsls⟩ := hslice
          have HCl0 : ∀ (W : World) (a1 : Option Addr) (c1 : Nat), EnvOk W E lk nR part i → Sl W a1 c1 (bytesK ((lk.take (hiR lk.length nR i)).drop (64 * i))) → Sl W aa ca (bytesK ik) → _ := fun W a1 c1 h1 h2 h3 => HC.out i W a1 ai c1 ci hin h1 h2 (hsls W h3)
          clear hsls
          · skip
            generalize off lk (64 * i) = A at *
            generalize hiR lk.length nR i - 64 * i = D at *
            generalize nwR lk.length nR i = NW at *
            generalize bytesK ((lk.take (hiR lk.length nR i)).drop (64 * i)) = BS at *
            generalize BS.length = X at *
            generalize (bytesK (part i)).length = Y at *
            have HQ : Hid (PSt wc lk ik l nR part rs E N0 R pl (.slice (some ⟨q, 0, none⟩) nR cq) aa ca i (T (i + 1)) ∧ Kp (fun k => k = E.bc ∨ N0 ≤ k) w wc ∧ (bytesK (ik.drop (T (i + 1)))).length = LT1) := ⟨hpd, hkd, hLT1.symm⟩
            have HCl : Hid (∀ (W : World) (a1 : Option Addr) (c1 : Nat), EnvOk W E lk nR part i → Sl W a1 c1 BS → Sl W aa ca (bytesK ik) → _) := HCl0
            clear hpd hkd HCl0 hpe hall hoo hLAo hEN hENy hcaL hSTo hSTl hLT1
            go_region_held3 (fun w' => w'.cell? ⟨q, i * 3, none⟩ = some (.int .i64 (A : Int)) ∧ w'.cell? ⟨q, i * 3 + 1, none⟩ = some (.int .i64 (D : Int)) ∧ w'.cell? ⟨q, i * 3 + 2, none⟩ = some (.int .u64 (NW : Int)) ∧ w'.cell? ⟨N0, 0, none⟩ = some (.pointer pl)) (go_keep)
              (first
                | (go_at_call 26; refine hseg.mono ?_; rintro e w3 ⟨a1, c1, rfl, hs1, hg3⟩; have g3 := (gr_drew wc).g.trans hg3.g; have k1 := (g3.cell_far ⟨q, i * 3, none⟩ (World.block_lt_of_cell? _ _ e1) (by simp)).trans e1; have k2 := (g3.cell_far ⟨q, i * 3 + 1, none⟩ (World.block_lt_of_cell? _ _ e2) (by simp)).trans e2; have k3 := (g3.cell_far ⟨q, i * 3 + 2, none⟩ (World.block_lt_of_cell? _ _ e3) (by simp)).trans e3; have k4 := (g3.cell_far ⟨N0, 0, none⟩ (World.block_lt_of_cell? _ _ e4) (by simp)).trans e4; have hps3 := HQ.out.1.kept g3; have hleft3 := left_any w3 R (ik.drop (T (i + 1))) hps3.rd (by rw [HQ.out.2.2]; exact hLb); rw [HQ.out.2.2] at hleft3)
                | (go_at_call 17; refine hleft3.mono ?_; rintro e w4 ⟨rfl, hg4⟩; have r1 := (hg4.g.cell_far ⟨q, i * 3, none⟩ (World.block_lt_of_cell? _ _ k1) (by simp)).trans k1; have r2 := (hg4.g.cell_far ⟨q, i * 3 + 1, none⟩ (World.block_lt_of_cell? _ _ k2) (by simp)).trans k2; have r3 := (hg4.g.cell_far ⟨q, i * 3 + 2, none⟩ (World.block_lt_of_cell? _ _ k3) (by simp)).trans k3; have r4 := (hg4.g.cell_far ⟨N0, 0, none⟩ (World.block_lt_of_cell? _ _ k4) (by simp)).trans k4; have hps4 := hps3.kept hg4.g; have hcall := HCl.out w4 a1 c1 hps4.env (hs1.kept0 hg4) (hps4.al))
                | (go_at_call 10; refine hcall.mono ?_; rintro e w5 ⟨rfl, henv5, hg5⟩; have m1 := (hg5.cell_far ⟨q, i * 3, none⟩ (World.block_lt_of_cell? _ _ r1) hps4.ne.1).trans r1; have m2 := (hg5.cell_far ⟨q, i * 3 + 1, none⟩ (World.block_lt_of_cell? _ _ r2) hps4.ne.1).trans r2; have m3 := (hg5.cell_far ⟨q, i * 3 + 2, none⟩ (World.block_lt_of_cell? _ _ r3) hps4.ne.1).trans r3; have m4 := (hg5.cell_far ⟨N0, 0, none⟩ (World.block_lt_of_cell? _ _ r4) hps4.ne.2.1).trans r4))
            have hps5 := hps4.called hg5 henv5
            have hkp5 : Kp (fun k => k = E.bc ∨ N0 ≤ k) w w5 := ((HQ.out.2.1.trans (kp_of g3 (fun R e => by simp at e))).trans (kp_of hg4.g (fun R e => by simp at e))).trans (kp_of hg5 (fun R e => .inl (by simpa using e.symm)))
            have HZ : Hid (PSt w5 lk ik l nR part rs E N0 R pl (.slice (some ⟨q, 0, none⟩) nR cq) aa ca (i + 1) (T (i + 1)) ∧ Kp (fun k => k = E.bc ∨ N0 ≤ k) w w5) := ⟨hps5, hkp5⟩
            clear hps5 hkp5 hps3 hps4 henv5 hg5 hcall g3 hg3 hs1 hg4
            go_wp2
            unfold wpS
            go_wp2
            exact ⟨⟨i + 1, by omega, by simp, HZ.out.1, HZ.out.2⟩, by simp [intOf]; omega⟩
    · have hltI : ¬ (j : Int) < (nR : Int) := by omega
      have hje : j = nR := by omega
      subst hje
      have HX : Hid (EnvOk wr E lk j part j ∧ Kp (fun k => k = E.bc ∨ N0 ≤ k) w wr) := ⟨hps.env, hkp⟩
      clear hps hkp
      go_wp2
      go_end0
      exact ⟨rfl, HX.out.1, ⟨HX.out.2.os, HX.out.2.tape, HX.out.2.output, HX.out.2.size, fun k hk hn => HX.out.2.block k hk (fun e => by rcases e with e | e; (exact hn (by rw [e])); (have := HNN.out; omega))⟩⟩
end Go.Proofs.YbulkbasiFmt
