import Derived.Test.YbulkbaswLookB
import Derived.Test.YbulkbaswPlain
namespace Go.Proofs.Ybulkbasw
open Go.RowKit

theorem nameL_len (s : Int) : (nameL s).length ≤ 4 := by unfold nameL; split <;> (try split) <;> simp
/-- The first n puts. -/
def putsL (sel val : Nat → Int) (n : Nat) : List (List UInt8 × Int) := (List.range n).map fun j => (nameL (sel j), val j)
theorem putsL_succ (sel val : Nat → Int) (n : Nat) : putsL sel val (n + 1) = putsL sel val n ++ [(nameL (sel n), val n)] := by simp [putsL, List.range_succ]
theorem putsL_length (sel val : Nat → Int) (n : Nat) : (putsL sel val n).length = n := by simp [putsL]
theorem neq_str (a b : List UInt8) (w : World) : (binOp .neq 9 (strV a) (strV b)).run Yba.prog w = .ok (.bool (!(a == b))) w := by
  simp [binOp, go_sem, Op.stringOp]

/-- The row that 'Lookup' handed out reads so. -/
def GotOk (w : World) (ga : Option Addr) (view : List (List UInt8 × Int)) : Prop := ∀ (j : Nat) (p : List UInt8 × Int), view[j]? = some p → ∃ g, ga = some ⟨g, 0, none⟩ ∧ w.cell? ⟨g, j * 2, none⟩ = some (strV p.1) ∧ w.cell? ⟨g, j * 2 + 1, none⟩ = some (.int .i64 p.2)
theorem GotOk.below {w w' : World} {ga : Option Addr} {view : List (List UInt8 × Int)} (h : GotOk w ga view) (hb : Below w.heap.size w w') : GotOk w' ga view := fun j p hp => by
  obtain ⟨g, e, h0, h1⟩ := h j p hp
  exact ⟨g, e, (hb.cell (World.block_lt_of_cell? w _ h0)).trans h0, (hb.cell (World.block_lt_of_cell? w _ h1)).trans h1⟩
theorem lookup_u (N T M1 M2 : Nat) (K : List Key) (S : List (List UInt8 × Nat × Nat)) (kv : Value) (V : List (Value × Value)) (l : List UInt8) (w : World) (h : TabOk w N T M1 M2 0 K S kv V) (hl : l.length ≤ 200) (hK2 : ∀ k ∈ K, k.pts.length ≤ 2000 ∧ k.pts ≠ [] ∧ ∀ p ∈ k.pts, p.2 < k.sps.length) :
    Calls Yba.prog 16 #[.pointer (some ⟨T, 0, none⟩), .agg #[strV l]] w fun e w' => Below w.heap.size w w' ∧ ∃ ga, e = .returned (.slice ga ((keyAt K (canonL l)).elim [] viewK).length ((keyAt K (canonL l)).elim [] viewK).length) ∧ GotOk w' ga ((keyAt K (canonL l)).elim [] viewK) := by
  refine (lookup_any N T M1 M2 K S kv V l w h hl hK2).mono ?_
  rintro e w' ⟨hb, ⟨hn, rfl⟩ | ⟨i, k, g, xs, hfi, hki, rfl, ho, hf⟩⟩
  · refine ⟨hb, none, ?_, ?_⟩ <;> simp [keyAt, hn, GotOk]
  · have e : keyAt K (canonL l) = some k := by simp [keyAt, hfi, hki]
    refine ⟨hb, some ⟨g, 0, none⟩, by simp [e, viewK], fun j p hp => ⟨g, rfl, ?_⟩⟩
    rw [e] at hp
    simp only [Option.elim_some, viewK, List.getElem?_map, Option.map_eq_some_iff] at hp
    obtain ⟨q, hq, rfl⟩ := hp
    obtain ⟨a0, a1⟩ := hf.2 j q (List.getElem?_eq_some_iff.1 hq).1 hq
    exact ⟨own_cell ho _ _ a0, own_cell ho _ _ a1⟩
theorem putsL_pre (sel val : Nat → Int) {k n : Nat} (h : k ≤ n) : ∃ r, putsL sel val n = putsL sel val k ++ r := by
  obtain ⟨d, rfl⟩ := Nat.exists_eq_add_of_le h
  exact ⟨((List.range d).map fun x => k + x).map fun j => (nameL (sel j), val j), by simp only [putsL, List.range_add, List.map_append]⟩
/-- Where the k-th put stands among those of its form. -/
theorem filt_at (sel val : Nat → Int) (f : List UInt8 × Int → Bool) {k n : Nat} (h : k < n) (hf : f (nameL (sel k), val k) = true) : ((putsL sel val n).filter f)[((putsL sel val k).filter f).length]? = some (nameL (sel k), val k) := by
  obtain ⟨r, hr⟩ := putsL_pre sel val (k := k + 1) (n := n) h
  rw [hr, putsL_succ, List.filter_append, List.filter_append]
  simp [hf]

set_option maxHeartbeats 2000000 in
set_option maxRecDepth 100000 in
theorem lookup_short (b off len cap : Nat) (sel val : Nat → Int) (qs : Int) (hl : len ≤ 1024) (w : World) (hb : len ≠ 0 → b < w.heap.size)
    (hse : ∀ j, j < len → w.cell? ⟨b, off + j * 2, none⟩ = some (.int .u16 (sel j))) (hva : ∀ j, j < len → w.cell? ⟨b, off + j * 2 + 1, none⟩ = some (.int .i64 (val j))) (hs0 : ∀ j, j < len → 0 ≤ sel j ∧ sel j ≤ 65535) (hq0 : 0 ≤ qs) (hq1 : qs ≤ 65535) :
    Calls Yba.prog 6 #[.slice (some ⟨b, off, none⟩) len cap, .int .u16 qs] w fun e w' => e = .returned (.bool true) ∧ Below w.heap.size w w' := by
  have hl' : ¬ (1024 : Int) < (len : Int) := by omega
  go_enter Yba.func6, Yba.ntmps6
  go_wp2_with (go_at_call 12; refine (newTable_any 0 w).mono ?_; rintro e w0 ⟨rfl, t0, b0⟩)
  generalize hN : w.heap.size = N at t0 b0 ⊢
  have HN : Hid (w.heap.size = N) := hN
  rw [hN] at hb
  clear hN
  generalize N + 2 = T at t0 ⊢
  generalize N + 1 = M2 at t0
  go_loopw [21] (fun v wr => ∃ (k : Nat) (S : List (List UInt8 × Nat × Nat)) (kv : Value) (V : List (Value × Value)), k ≤ len ∧ v = .int .i64 (k : Int) ∧ TabOk wr N T N M2 0 (foldK (putsL sel val k)) S kv V ∧ SOk (foldK (putsL sel val k)) S ∧ Below N w wr)
    (fun v _ => len - (intOf v).toNat)
  case atStart => exact ⟨0, [], _, [], Nat.zero_le _, rfl, t0, fun l => by simp [putsL, foldK, posOf], b0⟩
  case round =>
    obtain ⟨k, S, kv, V, hk, rfl, ht, hso, hbel⟩ := hrel
    by_cases hlt : k < len
    · have e0 : wr.cell? ⟨b, off + k * 2, none⟩ = some (.int .u16 (sel k)) := (hbel.cell (hb (by omega))).trans (hse k hlt)
      have e1 : wr.cell? ⟨b, off + k * 2 + 1, none⟩ = some (.int .i64 (val k)) := (hbel.cell (hb (by omega))).trans (hva k hlt)
      obtain ⟨p0, p1⟩ := hs0 k hlt
      have hiv := inv_fold (putsL sel val k)
      rw [putsL_length] at hiv
      have pA : (wr.alloc (.cells #[.int .u16 (sel k), .int .i64 (val k)] 39)).heap[wr.heap.size]? = some (.cells #[.int .u16 (sel k), .int .i64 (val k)] 39 (0, 0)) := heap_alloc_new _ _
      have tA := ht.keeps (keeps_alloc wr (.cells #[.int .u16 (sel k), .int .i64 (val k)] 39) isTab)
      have bA := hbel.alloc (tab_lt ht).2 (.cells #[.int .u16 (sel k), .int .i64 (val k)] 39)
      go_upto_region 7 with fail
      generalize wr.alloc (.cells #[.int .u16 (sel k), .int .i64 (val k)] 39) = wA at pA tA bA ⊢
      generalize wr.heap.size = P at pA ⊢
      have gP0 : wA.cell? ⟨P, 0, none⟩ = some (.int .u16 (sel k)) := (cell_of_row wA P 0 _ _ _ pA).trans rfl
      have gP1 : wA.cell? ⟨P, 1, none⟩ = some (.int .i64 (val k)) := (cell_of_row wA P 1 _ _ _ pA).trans rfl
      have hPl : P < wA.heap.size := lt_heap pA
      go_region_with (first
        | (go_at_call 13; refine (name_any (sel k) p0 p1 _).mono ?_; rintro e w2 ⟨rfl, hb2⟩; have q0 : w2.cell? ⟨P, 0, none⟩ = some (.int .u16 (sel k)) := (hb2.cell hPl).trans gP0; have q1 : w2.cell? ⟨P, 1, none⟩ = some (.int .i64 (val k)) := (hb2.cell hPl).trans gP1; have t2 := tA.keeps (w' := w2) (fun x o ho _ => (hb2.block x (lt_heap ho)).trans ho))
        | (go_at_call 14; refine (put_any N T N M2 0 (val k) _ S kv V (nameL (sel k)) w2 t2 hso (by have := nameL_len (sel k); omega) (by have := hiv.len; omega) (fun kk hkk => by have := hiv.key kk hkk; omega)).mono ?_; rintro e w3 ⟨rfl, S3, kv3, V3, t3, so3, b3, f3⟩))
      all_goals
        have b3' : Below N w w3 := (bA.drew.trans (hb2.mono (tab_lt tA).2)).trans b3
        go_wp2
        refine ⟨⟨k + 1, S3, kv3, V3, by omega, by simp, ?_, ?_, b3'⟩, by simp [intOf]; omega⟩
        · rw [putsL_succ, foldK_snoc]; exact t3
        · rw [putsL_succ, foldK_snoc]; exact so3
    · have hlt' : ¬ (k : Int) < (len : Int) := by omega
      have ek : k = len := by omega
      subst ek
      have hiv := inv_fold (putsL sel val k)
      rw [putsL_length] at hiv
      go_wp2_with (first
        | (go_at_call 13; refine (name_any qs hq0 hq1 _).mono ?_; rintro e w2 ⟨rfl, hb2⟩; have t2 := ht.keeps (w' := w2) (fun x o ho _ => (hb2.block x (lt_heap ho)).trans ho))
        | (go_at_call 15; refine (canon_any (nameL qs) (by have := nameL_len qs; omega) _).mono ?_; rintro e w3 ⟨rfl, hb3⟩; have t3 := t2.keeps (w' := w3) (fun x o ho _ => (hb3.block x (lt_heap ho)).trans ho))
        | (go_at_call 16; refine (lookup_u N T N M2 _ S kv V (nameL qs) w3 t3 (by have := nameL_len qs; omega) (fun kk hkk => by have := hiv.key kk hkk; exact ⟨by omega, this.2.2.1, this.2.2.2⟩)).mono ?_; rintro e w4 ⟨hb4, ga, rfl, hgot⟩))
      rw [view_fold] at hgot
      simp only [view_fold]
      have b4 : Below N w w4 := ((hbel.trans (hb2.mono (tab_lt ht).2)).trans (hb3.mono (tab_lt t2).2)).trans (hb4.mono (tab_lt t3).2)
      generalize hG : (putsL sel val k).filter (fun p => canonL p.1 == canonL (nameL qs)) = G at hgot ⊢
      have HG : Hid ((putsL sel val k).filter (fun p => canonL p.1 == canonL (nameL qs)) = G) := hG
      clear hG t2 t3 hb2 hb3 hb4
      go_loopw [11, 44] (fun nv v wr => ∃ t : Nat, t ≤ k ∧ v = .int .i64 (t : Int) ∧ nv = .int .i64 (((putsL sel val t).filter fun p => canonL p.1 == canonL (nameL qs)).length : Int) ∧ GotOk wr ga G ∧ Below N w wr)
        (fun _ v _ => k - (intOf v).toNat)
      case atStart => exact ⟨0, Nat.zero_le _, rfl, by simp [putsL], hgot, b4⟩
      case round =>
        clear hgot b4
        obtain ⟨t, htk, rfl, rfl, hgot, b4⟩ := hrel
        by_cases htl : t < k
        · have e0 : wr.cell? ⟨b, off + t * 2, none⟩ = some (.int .u16 (sel t)) := (b4.cell (hb (by omega))).trans (hse t htl)
          have e1 : wr.cell? ⟨b, off + t * 2 + 1, none⟩ = some (.int .i64 (val t)) := (b4.cell (hb (by omega))).trans (hva t htl)
          obtain ⟨p0, p1⟩ := hs0 t htl
          have hNr : N ≤ wr.heap.size := by have := b4.size; have := HN.out; omega
          have pA : (wr.alloc (.cells #[.int .u16 (sel t), .int .i64 (val t)] 39)).heap[wr.heap.size]? = some (.cells #[.int .u16 (sel t), .int .i64 (val t)] 39 (0, 0)) := heap_alloc_new _ _
          have gA := hgot.below ((Below.refl _ wr).alloc (Nat.le_refl _) (.cells #[.int .u16 (sel t), .int .i64 (val t)] 39))
          have bA := b4.alloc hNr (.cells #[.int .u16 (sel t), .int .i64 (val t)] 39)
          have hNA : N ≤ (wr.alloc (.cells #[.int .u16 (sel t), .int .i64 (val t)] 39)).heap.size := by simp; omega
          go_upto_region 16 with fail
          generalize wr.alloc (.cells #[.int .u16 (sel t), .int .i64 (val t)] 39) = wA at pA gA bA hNA ⊢
          generalize wr.heap.size = P at pA ⊢
          have gP0 : wA.cell? ⟨P, 0, none⟩ = some (.int .u16 (sel t)) := (cell_of_row wA P 0 _ _ _ pA).trans rfl
          have hPl : P < wA.heap.size := lt_heap pA
          have hns := neq_str
          go_upto_if 54 with (first
            | (go_at_call 13; refine (name_any (sel t) p0 p1 _).mono ?_; rintro e w5 ⟨rfl, hb5⟩)
            | (go_at_call 15; refine (canon_any (nameL (sel t)) (by have := nameL_len (sel t); omega) _).mono ?_; rintro e w6 ⟨rfl, hb6⟩))
          have g6 : GotOk w6 ga G := (gA.below hb5).below hb6
          have b5 : Below N w w5 := bA.trans (hb5.mono hNA)
          have hN5 : N ≤ w5.heap.size := Nat.le_trans hNA hb5.size
          have b6 : Below N w w6 := b5.trans (hb6.mono hN5)
          have p6 : w6.heap[P]? = some (.cells #[.int .u16 (sel t), .int .i64 (val t)] 39 (0, 0)) := ((hb6.block P (Nat.lt_of_lt_of_le hPl hb5.size)).trans (hb5.block P hPl)).trans pA
          clear pA gA bA hNA gP0 hPl hb5 hb6 b5 hN5 e0 e1
          by_cases hc : canonL (nameL (sel t)) = canonL (nameL qs)
          · have hcb : (canonL (nameL (sel t)) == canonL (nameL qs)) = true := by simpa using hc
            simp only [hcb, Bool.not_true]
            have hat := filt_at sel val (fun p => canonL p.1 == canonL (nameL qs)) htl hcb
            rw [HG.out] at hat
            obtain ⟨g, rfl, c0, c1⟩ := g6 _ _ hat
            have hnl := (List.getElem?_eq_some_iff.1 hat).1
            have hsucc : ((putsL sel val (t + 1)).filter fun p => canonL p.1 == canonL (nameL qs)).length = ((putsL sel val t).filter fun p => canonL p.1 == canonL (nameL qs)).length + 1 := by
              rw [putsL_succ, List.filter_append]
              simp [hcb]
            have Hs : Hid (((putsL sel val (t + 1)).filter fun p => canonL p.1 == canonL (nameL qs)).length = ((putsL sel val t).filter fun p => canonL p.1 == canonL (nameL qs)).length + 1) := hsucc
            generalize hm : ((putsL sel val t).filter fun p => canonL p.1 == canonL (nameL qs)).length = m at c0 c1 hnl Hs ⊢
            clear hm hsucc hat
            have hGk : G.length ≤ k := by
              rw [← HG.out]
              exact Nat.le_trans (List.length_filter_le _ _) (by rw [putsL_length]; omega)
            have gP1 : w6.cell? ⟨P, 1, none⟩ = some (.int .i64 (val t)) := (cell_of_row w6 P 1 _ _ _ p6).trans rfl
            have hml : (m : Int) < (G.length : Int) := by omega
            have hm0 : (0 : Int) ≤ (m : Int) := by omega
            go_upto_region 20 with fail
            go_quiet (fail)
            go_wp2
            refine ⟨⟨t + 1, by omega, by simp, by rw [Hs.out]; simp, g6, b6.trans ⟨rfl, rfl, rfl, Nat.le_refl _, fun _ _ => rfl⟩⟩, by simp [intOf]; omega⟩
          · have hcb : (canonL (nameL (sel t)) == canonL (nameL qs)) = false := by simpa using hc
            simp only [hcb, Bool.not_false]
            go_wp2
            refine ⟨⟨t + 1, by omega, by simp, ?_, g6, b6⟩, by simp [intOf]; omega⟩
            rw [putsL_succ, List.filter_append]
            simp [hcb]
        · have htk' : ¬ (t : Int) < (k : Int) := by omega
          have et : t = k := by omega
          subst et
          have hGl : ((putsL sel val t).filter fun p => canonL p.1 == canonL (nameL qs)).length = G.length := by rw [HG.out]
          go_wp2
          go_ret
          exact ⟨rfl, by rw [HN.out]; exact b4⟩

set_option maxHeartbeats 1000000 in
theorem lookup_long (a : Option Addr) (len cap : Nat) (qs : Int) (hl : 1024 < len) (w : World) :
    Calls Yba.prog 6 #[.slice a len cap, .int .u16 qs] w fun e w' => e = .returned (.bool true) ∧ Below w.heap.size w w' := by
  have hl' : (1024 : Int) < (len : Int) := by omega
  go_enter Yba.func6, Yba.ntmps6
  go_wp2
  go_ret
  exact ⟨rfl, Below.refl _ _⟩

set_option maxHeartbeats 2000000 in
set_option maxRecDepth 100000 in
theorem lookup_zero (a : Option Addr) (cap : Nat) (qs : Int) (hq0 : 0 ≤ qs) (hq1 : qs ≤ 65535) (w : World) :
    Calls Yba.prog 6 #[.slice a 0 cap, .int .u16 qs] w fun e w' => e = .returned (.bool true) ∧ Below w.heap.size w w' := by
  go_enter Yba.func6, Yba.ntmps6
  go_wp2_with (go_at_call 12; refine (newTable_any 0 w).mono ?_; rintro e w0 ⟨rfl, t0, b0⟩)
  refine wp_loop_rounds 1 ?_
  rw [rounds_succ]
  go_wp2_with (first
    | (go_at_call 13; refine (name_any qs hq0 hq1 _).mono ?_; rintro e w2 ⟨rfl, hb2⟩; have t2 := t0.keeps (w' := w2) (fun x o ho _ => (hb2.block x (lt_heap ho)).trans ho))
    | (go_at_call 15; refine (canon_any (nameL qs) (by have := nameL_len qs; omega) _).mono ?_; rintro e w3 ⟨rfl, hb3⟩; have t3 := t2.keeps (w' := w3) (fun x o ho _ => (hb3.block x (lt_heap ho)).trans ho))
    | (go_at_call 16; refine (lookup_u _ _ _ _ _ _ _ _ (nameL qs) w3 t3 (by have := nameL_len qs; omega) (fun kk hkk => by simp at hkk)).mono ?_; rintro e w4 ⟨hb4, ga, rfl, hgot⟩))
  simp only [keyAt, List.findIdx?_nil, Option.bind_none, Option.elim_none, List.length_nil]
  refine wp_loop_rounds 1 ?_
  rw [rounds_succ]
  go_wp2
  go_ret
  exact ⟨rfl, ((b0.trans (hb2.mono (tab_lt t0).2)).trans (hb3.mono (tab_lt t2).2)).trans (hb4.mono (tab_lt t3).2)⟩
end Go.Proofs.Ybulkbasw
