import Derived.Test.YbulkbaswLawL
import Derived.Test.YbulkbaswMk
import Derived.Deep.DeepCutAuto
namespace Go.Proofs.Ybulkbasw
open Go.RowKit

theorem wp_seqK {P : Program} {x y : Code} {Q : Exit → Act → World → Prop} {a : Act} {w : World} (h : ∀ K : Act → World → Prop, (∀ a w, y.wp P Q a w → K a w) → x.wp P (Exit.then K Q) a w) : (Code.seq x y).wp P Q a w := wp_seq (h _ fun _ _ h => h)
theorem info47 : ∃ i, Yba.prog.info? 47 = some i ∧ i.zero = some (.agg #[.string ⟨#[]⟩, .slice none 0 0, .slice none 0 0]) ∧ i.size = 3 ∧ i.bytes = 64 := by
  have h1 : (Yba.prog.info? 47).map (·.size) = some 3 := by kernel_rfl
  have h2 : (Yba.prog.info? 47).map (·.bytes) = some 64 := by kernel_rfl
  have h3 : (Yba.prog.info? 47).bind (·.zero) = some (.agg #[.string ⟨#[]⟩, .slice none 0 0, .slice none 0 0]) := by kernel_rfl
  obtain ⟨i, hi, hb⟩ := Option.map_eq_some_iff.1 h1
  rw [hi] at h2 h3
  exact ⟨i, hi, h3, hb, by simpa using h2⟩
theorem info9 : ∃ i, Yba.prog.info? 9 = some i ∧ i.zero = some (.string ⟨#[]⟩) ∧ i.size = 1 ∧ i.bytes = 16 := by
  have h1 : (Yba.prog.info? 9).map (·.size) = some 1 := by kernel_rfl
  have h2 : (Yba.prog.info? 9).map (·.bytes) = some 16 := by kernel_rfl
  have h3 : (Yba.prog.info? 9).bind (·.zero) = some (.string ⟨#[]⟩) := by kernel_rfl
  obtain ⟨i, hi, hb⟩ := Option.map_eq_some_iff.1 h1
  rw [hi] at h2 h3
  exact ⟨i, hi, h3, hb, by simpa using h2⟩
theorem info49 : ∃ i, Yba.prog.info? 49 = some i ∧ i.zero = some (.agg #[.int .i64 0, .int .i64 0]) ∧ i.size = 2 ∧ i.bytes = 16 := by
  have h1 : (Yba.prog.info? 49).map (·.size) = some 2 := by kernel_rfl
  have h2 : (Yba.prog.info? 49).map (·.bytes) = some 16 := by kernel_rfl
  have h3 : (Yba.prog.info? 49).bind (·.zero) = some (.agg #[.int .i64 0, .int .i64 0]) := by kernel_rfl
  obtain ⟨i, hi, hb⟩ := Option.map_eq_some_iff.1 h1
  rw [hi] at h2 h3
  exact ⟨i, hi, h3, hb, by simpa using h2⟩
def idxI (o : Option Nat) : Int := o.elim (-1) fun i => (i : Int)
theorem idx_some {K : List Key} {c : List UInt8} {i : Nat} {kk : Key} (hi : K[i]? = some kk) (hc : (kk.canon == c) = true) (hb : ∀ (j : Nat) (k : Key), j < i → K[j]? = some k → (k.canon == c) = false) : K.findIdx? (fun k => k.canon == c) = some i := by
  obtain ⟨hl, he⟩ := List.getElem?_eq_some_iff.1 hi
  refine List.findIdx?_eq_some_iff_getElem.2 ⟨hl, by rw [he]; exact hc, fun j hj => ?_⟩
  rw [hb j _ hj (List.getElem?_eq_getElem (by omega))]
  simp
theorem idx_none {K : List Key} {c : List UInt8} (hb : ∀ (j : Nat) (k : Key), j < K.length → K[j]? = some k → (k.canon == c) = false) : K.findIdx? (fun k => k.canon == c) = none := by
  refine List.findIdx?_eq_none_iff.2 fun k hk => ?_
  obtain ⟨j, hj⟩ := List.getElem?_of_mem hk
  exact hb j k (List.getElem?_eq_some_iff.1 hj).1 hj
theorem sp_some {L : List (List UInt8)} {l : List UInt8} {i : Nat} {x : List UInt8} (hi : L[i]? = some x) (hc : (x == l) = true) (hb : ∀ (j : Nat) (y : List UInt8), j < i → L[j]? = some y → (y == l) = false) : L.findIdx? (fun x => x == l) = some i := by
  obtain ⟨hl, he⟩ := List.getElem?_eq_some_iff.1 hi
  refine List.findIdx?_eq_some_iff_getElem.2 ⟨hl, by rw [he]; exact hc, fun j hj => ?_⟩
  rw [hb j _ hj (List.getElem?_eq_getElem (by omega))]
  simp
theorem sp_none {L : List (List UInt8)} {l : List UInt8} (hb : ∀ (j : Nat) (y : List UInt8), j < L.length → L[j]? = some y → (y == l) = false) : L.findIdx? (fun x => x == l) = none := by
  refine List.findIdx?_eq_none_iff.2 fun k hk => ?_
  obtain ⟨j, hj⟩ := List.getElem?_of_mem hk
  exact hb j k (List.getElem?_eq_some_iff.1 hj).1 hj
theorem sp_idx (L : List (List UInt8)) (l : List UInt8) : match L.findIdx? fun x => x == l with
    | some j => l ∈ L ∧ L.idxOf l = j
    | none => l ∉ L ∧ L.idxOf l = L.length := by
  cases h : L.findIdx? fun x => x == l with
  | none =>
    have hn : l ∉ L := fun hm => by
      have := List.findIdx?_eq_none_iff.1 h l hm
      simp at this
    exact ⟨hn, List.idxOf_eq_length hn⟩
  | some j =>
    obtain ⟨hl, h1, h2⟩ := List.findIdx?_eq_some_iff_getElem.1 h
    have e : L[j] = l := by simpa using h1
    refine ⟨e ▸ List.getElem_mem hl, ?_⟩
    unfold List.idxOf
    exact (List.findIdx_eq hl).2 ⟨h1, fun k hk => by simpa using h2 k hk⟩
/-- A row's block, where the row is not empty. -/
theorem own_some {w : World} {N n cap : Nat} {e : TypeId} {size : Nat} {a : Option Addr} {xs : List Value} (h : w.ownsRow N e size (.slice a n cap) n xs) (hn : 0 < n) : ∃ g, a = some ⟨g, 0, none⟩ := by
  rcases h.2 with ⟨_, e⟩ | ⟨g, cap, cur, e, _⟩
  · omega
  · simp at e; exact ⟨g, e.1⟩
theorem _root_.List.set_getElem?_self' {α : Type} {l : List α} {i : Nat} {a : α} (h : l[i]? = some a) : l.set i a = l := by
  obtain ⟨hl, rfl⟩ := List.getElem?_eq_some_iff.1 h
  exact List.set_getElem_self hl
theorem eql_str (a b : List UInt8) (w : World) : (binOp .eql 9 (strV a) (strV b)).run Yba.prog w = .ok (.bool (a == b)) w := by
  simp [binOp, go_sem, Op.stringOp]

set_option maxHeartbeats 2000000 in
set_option maxRecDepth 100000 in
theorem state_short (b off len cap : Nat) (sel val : Nat → Int) (hl : len ≤ 1024) (w : World) (hb : len ≠ 0 → b < w.heap.size)
    (hse : ∀ j, j < len → w.cell? ⟨b, off + j * 2, none⟩ = some (.int .u16 (sel j))) (hva : ∀ j, j < len → w.cell? ⟨b, off + j * 2 + 1, none⟩ = some (.int .i64 (val j))) (hs0 : ∀ j, j < len → 0 ≤ sel j ∧ sel j ≤ 65535) :
    Calls Yba.prog 5 #[.slice (some ⟨b, off, none⟩) len cap] w fun e w' => e = .returned (.bool true) ∧ Below w.heap.size w w' := by
  have hl' : ¬ (1024 : Int) < (len : Int) := by omega
  go_enter Yba.func5, Yba.ntmps5
  go_wp2_with (go_at_call 12; refine (newTable_any 0 w).mono ?_; rintro e w0 ⟨rfl, t0, b0⟩)
  generalize hN : w.heap.size = N at t0 b0 ⊢
  have HN : Hid (w.heap.size = N) := hN
  rw [hN] at hb
  clear hN
  generalize N + 2 = T at t0 ⊢
  generalize N + 1 = M2 at t0
  go_loopw [4, 23] (fun mv v wr => ∃ (k : Nat) (S : List (List UInt8 × Nat × Nat)) (kv : Value) (V U : List (Value × Value)), k ≤ len ∧ v = .int .i64 (k : Int) ∧ TabOk wr N T N M2 0 (foldK (putsL sel val k)) S kv V ∧ SOk (foldK (putsL sel val k)) S ∧ MkOk wr N (foldK (putsL sel val k)) mv U ∧ Below N w wr)
    (fun _ v _ => len - (intOf v).toNat)
  case atStart => exact ⟨0, [], _, [], [], Nat.zero_le _, rfl, t0, fun l => by simp [putsL, foldK, posOf], mk_nil _ _, b0⟩
  case round =>
    obtain ⟨k, S, kv, V, U, hk, rfl, ht, hso, hmk, hbel⟩ := hrel
    by_cases hlt : k < len
    · have e0 : wr.cell? ⟨b, off + k * 2, none⟩ = some (.int .u16 (sel k)) := (hbel.cell (hb (by omega))).trans (hse k hlt)
      have e1 : wr.cell? ⟨b, off + k * 2 + 1, none⟩ = some (.int .i64 (val k)) := (hbel.cell (hb (by omega))).trans (hva k hlt)
      obtain ⟨p0, p1⟩ := hs0 k hlt
      have HkL : Hid (k + 1 ≤ len) := hlt
      have Hme : Hid (len - (intOf (Value.int .i64 ((k : Int) + 1))).toNat < len - (intOf (Value.int .i64 (k : Int))).toNat) := by
        have : len - (intOf (Value.int .i64 ((k : Int) + 1))).toNat < len - (intOf (Value.int .i64 (k : Int))).toNat := by simp [intOf]; omega
        exact this
      have hiv := inv_fold (putsL sel val k)
      rw [putsL_length] at hiv
      have pA : (wr.alloc (.cells #[.int .u16 (sel k), .int .i64 (val k)] 39)).heap[wr.heap.size]? = some (.cells #[.int .u16 (sel k), .int .i64 (val k)] 39 (0, 0)) := heap_alloc_new _ _
      have tA := ht.keeps (keeps_alloc wr (.cells #[.int .u16 (sel k), .int .i64 (val k)] 39) isTab)
      have mA := hmk.keeps (keeps_alloc wr (.cells #[.int .u16 (sel k), .int .i64 (val k)] 39) (fun _ => True)) (by simp)
      have bA := hbel.alloc (tab_lt ht).2 (.cells #[.int .u16 (sel k), .int .i64 (val k)] 39)
      go_upto_region 8 with fail
      generalize wr.alloc (.cells #[.int .u16 (sel k), .int .i64 (val k)] 39) = wA at pA tA mA bA ⊢
      generalize wr.heap.size = P at pA ⊢
      have gP0 : wA.cell? ⟨P, 0, none⟩ = some (.int .u16 (sel k)) := (cell_of_row wA P 0 _ _ _ pA).trans rfl
      have gP1 : wA.cell? ⟨P, 1, none⟩ = some (.int .i64 (val k)) := (cell_of_row wA P 1 _ _ _ pA).trans rfl
      have hPl : P < wA.heap.size := lt_heap pA
      go_upto_region 11 with (first
        | (go_at_call 13; refine (name_any (sel k) p0 p1 _).mono ?_; rintro e w2 ⟨rfl, hb2⟩; have q1 : w2.cell? ⟨P, 1, none⟩ = some (.int .i64 (val k)) := (hb2.cell hPl).trans gP1; have t2 := tA.keeps (w' := w2) (fun x o ho _ => (hb2.block x (lt_heap ho)).trans ho))
        | (go_at_call 14; refine (put_any N T N M2 0 (val k) _ S kv V (nameL (sel k)) w2 t2 hso (by have := nameL_len (sel k); omega) (by have := hiv.len; omega) (fun kk hkk => by have := hiv.key kk hkk; omega)).mono ?_; rintro e w3 ⟨rfl, S3, kv3, V3, t3, so3, b3, f3⟩)
        | (go_at_call 15; refine (canon_any (nameL (sel k)) (by have := nameL_len (sel k); omega) _).mono ?_; rintro e w4 ⟨rfl, hb4⟩))
      have k24 : Keeps notTab wA w4 := ((keeps_below hb2).trans f3).trans (keeps_below hb4)
      have t4 := t3.keeps (keeps_below (p := isTab) hb4)
      have m4 := mA.keeps k24 (by simp [notTab])
      have p4 := k24 _ _ pA (by simp [notTab])
      have b4 : Below N w w4 := ((bA.trans (hb2.mono (tab_lt tA).2)).trans b3).trans (hb4.mono (tab_lt t3).2)
      have Hst : Hid (foldK (putsL sel val (k + 1)) = stepK (foldK (putsL sel val k)) (nameL (sel k)) (val k)) := by
        have : foldK (putsL sel val (k + 1)) = stepK (foldK (putsL sel val k)) (nameL (sel k)) (val k) := by rw [putsL_succ, foldK_snoc]
        exact this
      clear gP0 gP1 hPl hb2 q1 t2 b3 f3 hb4 k24 pA tA mA bA ht hso hmk hbel e0 e1 t3
      have hnl := nameL_len (sel k)
      generalize foldK (putsL sel val k) = K at *
      generalize nameL (sel k) = l at *
      generalize val k = v at *
      go_cut [9] (fun s9 wx => s9 = .int .i64 (-1) ∧ wx = w4)
      case first =>
        go_wp2_with fail
        go_meet
        exact ⟨rfl, rfl⟩
      case rest =>
        obtain ⟨rfl, rfl⟩ := hcut
        apply_assumption
        refine wp_seqK fun K2 hK2 => ?_
        obtain ⟨ma, mc, rfl⟩ := kv_form m4.keys
        have hKl := hiv.len
        go_cut [9] (fun s9 wx => s9 = .int .i64 (idxI (K.findIdx? fun k => k.canon == canonL l)) ∧ wx = wc)
        case first =>
          go_upto_region 13 with fail
          go_loopw [9, 10] (fun a b wr => ∃ i : Nat, i ≤ K.length ∧ b = .int .i64 (i : Int) ∧ a = .int .i64 (-1) ∧ wr = wc ∧ ∀ (j : Nat) (kk : Key), j < i → K[j]? = some kk → (kk.canon == canonL l) = false) (fun _ b _ => K.length - (intOf b).toNat)
          case atStart => exact ⟨0, Nat.zero_le _, rfl, rfl, rfl, fun j _ hj => by omega⟩
          case round =>
            obtain ⟨i, hi, rfl, rfl, rfl, hbf⟩ := hrel
            have HB : Hid (∀ (j : Nat) (kk : Key), j < i → K[j]? = some kk → (kk.canon == canonL l) = false) := hbf
            clear hbf
            by_cases hil : i < K.length
            · obtain ⟨gm, rfl⟩ := own_some m4.keys (by omega)
              obtain ⟨kk, hkk⟩ : ∃ kk, K[i]? = some kk := ⟨_, List.getElem?_eq_getElem hil⟩
              obtain ⟨q, hq⟩ : ∃ q, U[i]? = some q := ⟨_, List.getElem?_eq_getElem (by rw [m4.len]; exact hil)⟩
              have gc := own_cell m4.keys _ _ (flatM_get _ U i kk.canon q (by simp [hkk]) hq).1
              have hilI : (i : Int) < (K.length : Int) := by omega
              have hi0 : (0 : Int) ≤ (i : Int) := by omega
              have Hkk : Hid (K[i]? = some kk) := hkk
              clear hkk
              have heq := eql_str
              go_upto_if 50 with fail
              by_cases hc : (kk.canon == canonL l) = true
              · simp only [hc]
                go_wp2_with fail
                go_meet
                exact ⟨by rw [idx_some Hkk.out hc HB.out]; rfl, rfl⟩
              · have hc' : (kk.canon == canonL l) = false := by simpa using hc
                simp only [hc']
                go_wp2_with fail
                go_roundw
                case rel => 
                  refine ⟨i + 1, by omega, by go_num, by trivial, by trivial, fun j k' hj hk' => ?_⟩
                  by_cases hji : j = i
                  · subst hji
                    rw [Hkk.out] at hk'
                    simp at hk'
                    subst hk'
                    exact hc'
                  · exact HB.out j k' (by omega) hk'
                case measure => simp [intOf]; omega
            · have ei : i = K.length := by omega
              subst ei
              have hge : ¬ (K.length : Int) < (K.length : Int) := by omega
              go_wp2_with fail
              go_meet
              exact ⟨by rw [idx_none HB.out]; rfl, by trivial⟩
        case rest =>
          obtain ⟨rfl, rfl⟩ := hcut
          apply hK2
          refine wp_seqK fun K3 hK3 => ?_
          go_cut [4, 9] (fun s4 s9 wx => s9 = .int .i64 (idxOf K (canonL l) : Int) ∧ (∃ U', MkOk wx N (ensure K (canonL l)) s4 U') ∧ TabOk wx N T N M2 0 (stepK K l v) S3 kv3 V3 ∧ wx.heap[P]? = some (.cells #[.int .u16 (sel k), .int .i64 v] 39 (0, 0)) ∧ Below N w wx)
          case first =>
            cases hf : K.findIdx? fun k => k.canon == canonL l with
            | some i =>
              have e1 : ensure K (canonL l) = K := by unfold ensure; rw [hf]
              have e2 : idxOf K (canonL l) = i := by unfold idxOf; rw [hf]; rfl
              have E1 : Hid (ensure K (canonL l) = K) := e1
              have E2 : Hid (idxOf K (canonL l) = i) := e2
              simp only [idxI, Option.elim_some]
              clear hf e1 e2
              have hi0 : ¬ (i : Int) < 0 := by omega
              go_wp2_with fail
              go_meet
              exact ⟨by rw [E2.out], ⟨U, by rw [E1.out]; exact m4⟩, t4, p4, b4⟩
            | none =>
              have e1 : ensure K (canonL l) = K ++ [⟨canonL l, [], []⟩] := by unfold ensure; rw [hf]
              have e2 : idxOf K (canonL l) = K.length := by unfold idxOf; rw [hf]; rfl
              have E1 : Hid (ensure K (canonL l) = K ++ [⟨canonL l, [], []⟩]) := e1
              have E2 : Hid (idxOf K (canonL l) = K.length) := e2
              simp only [idxI, Option.elim_none]
              clear hf e1 e2
              obtain ⟨i47, hi, hz, hs, hy⟩ := info47
              have hNc : N ≤ wc.heap.size := (tab_lt t4).2
              go_wp2_with (at_builtin; refine wpList_append_lies _ rfl _ _ _ rfl N 47 i47 (.agg #[.string ⟨#[]⟩, .slice none 0 0, .slice none 0 0]) 3 64 Yba.underlying36 hi hz hs hy rfl (by omega) (.slice ma K.length mc) K.length (flatM (K.map (·.canon)) U) rfl (m4.keys.alloc _) ⟨wc.heap.size, 0, none⟩ 1 1 [strV (canonL l), .slice none 0 0, .slice none 0 0] rfl rfl (World.news_of_block (heap_alloc_new _ _)) (by simp [Value.oneCell']) (by omega) (by simp [maxLen]; omega) (by omega) (by simp; omega) _ rfl ?_; intro g2 cap2 w2 hown2 hgrow2 hat2 hlt2)
              have mB := m4.keeps (keeps_alloc wc (.cells #[strV (canonL l), .slice none 0 0, .slice none 0 0] 47) (fun _ => True)) (by simp)
              have m2 := mB.addKey (c := canonL l) hgrow2 hown2
              have k2 : Keeps (fun o => isTab o ∨ ∃ c, o = .cells c 39 (0, 0)) wc w2 := (keeps_alloc wc (.cells #[strV (canonL l), .slice none 0 0, .slice none 0 0] 47) _).grown hgrow2 (fun x o e ho hp => by
                obtain ⟨c2, h2⟩ := own_at mB.keys e
                rw [ho] at h2
                simp at h2
                subst h2
                rcases hp with hp | ⟨c, hp⟩
                · simp [isTab] at hp
                · simp at hp)
              have b2 : Below N w w2 := (b4.alloc hNc (.cells #[strV (canonL l), .slice none 0 0, .slice none 0 0] 47)).grown hgrow2 (by simp; omega) (fun x hx => (mB.keys.lt x hx).1)
              go_meet
              refine ⟨?_, ⟨_, by rw [E1.out]; exact m2⟩, t4.keeps (k2.mono fun _ h => .inl h), k2 _ _ p4 (.inr ⟨_, rfl⟩), b2⟩
              rw [E2.out]
          case rest =>
            obtain ⟨rfl, ⟨U1, m5⟩, t5, p5, b5⟩ := hcut
            apply hK3
            obtain ⟨k0, hk0, hk0c⟩ := ensure_get K (canonL l)
            have hk0b : k0.pts.length ≤ k ∧ k0.sps.length ≤ k := by
              rcases ensure_cases hk0 with ⟨_, _, hm⟩ | ⟨_, _, rfl, _⟩
              · have := hiv.key k0 hm; exact ⟨this.1, this.2.1⟩
              · simp
            have hK1l : (ensure K (canonL l)).length ≤ K.length + 1 := by
              rcases ensure_cases hk0 with ⟨e, _, _⟩ | ⟨e, _⟩
              · rw [e]; omega
              · rw [e]; simp
            have Hse : Hid (stepK K l v = (ensure K (canonL l)).set (idxOf K (canonL l)) (putK k0 l v)) := stepK_eq hk0
            clear m4 t4 p4 b4 hk0c
            generalize ensure K (canonL l) = K1 at m5 hk0 hK1l Hse
            generalize idxOf K (canonL l) = i0 at hk0 Hse ⊢
            have hi0l : i0 < K1.length := (List.getElem?_eq_some_iff.1 hk0).1
            obtain ⟨ma1, mc1, rfl⟩ := kv_form m5.keys
            obtain ⟨gm, rfl⟩ := own_some m5.keys (by omega)
            obtain ⟨q, hq⟩ : ∃ q, U1[i0]? = some q := ⟨_, List.getElem?_eq_getElem (by rw [m5.len]; exact hi0l)⟩
            obtain ⟨q1, q2⟩ := q
            obtain ⟨sa, sc, hsv⟩ := kv_form (m5.sp i0 k0 _ hk0 hq)
            simp only at hsv
            subst hsv
            obtain ⟨pa, pc, hpv⟩ := kv_form (m5.pt i0 k0 _ hk0 hq)
            simp only at hpv
            subst hpv
            have hfm := flatM_get _ U1 i0 k0.canon _ (by simp [hk0] : (K1.map (·.canon))[i0]? = some k0.canon) hq
            have gc1 : wc.cell? ⟨gm, i0 * 3 + 1, none⟩ = some (.slice sa k0.sps.length sc) := own_cell m5.keys _ _ hfm.2.1
            have hiI : (i0 : Int) < (K1.length : Int) := by omega
            have hi0' : (0 : Int) ≤ (i0 : Int) := by omega
            have Hk0 : Hid (K1[i0]? = some k0) := hk0
            have Hq : Hid (U1[i0]? = some (.slice sa k0.sps.length sc, .slice pa k0.pts.length pc)) := hq
            clear hfm hk0 hq
            refine wp_seqK fun K4 hK4 => ?_
            go_cut [11] (fun s11 wx => s11 = .int .i64 (-1) ∧ wx = wc)
            case first =>
              go_wp2_with fail
              go_meet
              exact ⟨rfl, rfl⟩
            case rest =>
              obtain ⟨rfl, rfl⟩ := hcut
              apply hK4
              refine wp_seqK fun K5 hK5 => ?_
              rename_i wc0
              go_cut [11] (fun s11 wx => s11 = .int .i64 (idxI (k0.sps.findIdx? fun x => x == l)) ∧ wx = wc)
              case first =>
                go_upto_region 22 with fail
                have hsr := m5.sp i0 k0 _ Hk0.out Hq.out
                go_loopw [11, 12] (fun a b wr => ∃ i : Nat, i ≤ k0.sps.length ∧ b = .int .i64 (i : Int) ∧ a = .int .i64 (-1) ∧ wr = wc ∧ ∀ (j : Nat) (y : List UInt8), j < i → k0.sps[j]? = some y → (y == l) = false) (fun _ b _ => k0.sps.length - (intOf b).toNat)
                case atStart => exact ⟨0, Nat.zero_le _, rfl, rfl, rfl, fun j _ hj => by omega⟩
                case round =>
                  obtain ⟨i, hi, rfl, rfl, rfl, hbf⟩ := hrel
                  have HB : Hid (∀ (j : Nat) (y : List UInt8), j < i → k0.sps[j]? = some y → (y == l) = false) := hbf
                  clear hbf
                  by_cases hil : i < k0.sps.length
                  · obtain ⟨gs, rfl⟩ := own_some hsr (by omega)
                    obtain ⟨y, hy⟩ : ∃ y, k0.sps[i]? = some y := ⟨_, List.getElem?_eq_getElem hil⟩
                    have gs1 := own_cell hsr i (strV y) (by simp [hy])
                    have hilI : (i : Int) < (k0.sps.length : Int) := by omega
                    have hii0 : (0 : Int) ≤ (i : Int) := by omega
                    have Hy : Hid (k0.sps[i]? = some y) := hy
                    clear hy
                    have heq := eql_str
                    go_upto_if 81 with fail
                    by_cases hc : (y == l) = true
                    · simp only [hc]
                      go_wp2_with fail
                      go_meet
                      exact ⟨by rw [sp_some Hy.out hc HB.out]; rfl, rfl⟩
                    · have hc' : (y == l) = false := by simpa using hc
                      simp only [hc']
                      go_wp2_with fail
                      go_roundw
                      case rel =>
                        refine ⟨i + 1, by omega, by go_num, by trivial, by trivial, fun j k' hj hk' => ?_⟩
                        by_cases hji : j = i
                        · subst hji
                          rw [Hy.out] at hk'
                          simp at hk'
                          subst hk'
                          exact hc'
                        · exact HB.out j k' (by omega) hk'
                      case measure => simp [intOf]; omega
                  · have ei : i = k0.sps.length := by omega
                    subst ei
                    have hge : ¬ (k0.sps.length : Int) < (k0.sps.length : Int) := by omega
                    go_wp2_with fail
                    go_meet
                    exact ⟨by rw [sp_none HB.out]; rfl, by trivial⟩
              case rest =>
                obtain ⟨rfl, rfl⟩ := hcut
                apply hK5
                refine wp_seqK fun K6 hK6 => ?_
                go_cut [11] (fun s11 wx => s11 = .int .i64 (k0.sps.idxOf l : Int) ∧ (∃ U', MkOk wx N (K1.set i0 { k0 with sps := if l ∈ k0.sps then k0.sps else k0.sps ++ [l] }) (.slice (some ⟨gm, 0, none⟩) K1.length mc1) U') ∧ TabOk wx N T N M2 0 (stepK K l v) S3 kv3 V3 ∧ wx.heap[P]? = some (.cells #[.int .u16 (sel k), .int .i64 v] 39 (0, 0)) ∧ Below N w wx)
                case first =>
                  have hsx := sp_idx k0.sps l
                  cases hf : k0.sps.findIdx? fun x => x == l with
                  | some j =>
                    rw [hf] at hsx
                    have Hsx : Hid (l ∈ k0.sps ∧ k0.sps.idxOf l = j) := hsx
                    simp only [idxI, Option.elim_some]
                    clear hf hsx
                    have hj0 : ¬ (j : Int) < 0 := by omega
                    go_wp2_with fail
                    go_meet
                    refine ⟨by rw [Hsx.out.2], ⟨U1, ?_⟩, t5, p5, b5⟩
                    rw [if_pos Hsx.out.1, List.set_getElem?_self' Hk0.out]
                    exact m5
                  | none =>
                    rw [hf] at hsx
                    have Hsx : Hid (l ∉ k0.sps ∧ k0.sps.idxOf l = k0.sps.length) := hsx
                    simp only [idxI, Option.elim_none]
                    clear hf hsx
                    obtain ⟨i9, hi, hz, hs, hy⟩ := info9
                    have hNc : N ≤ wc.heap.size := (tab_lt t5).2
                    have hsr := m5.sp i0 k0 _ Hk0.out Hq.out
                    obtain ⟨ck, hck⟩ := own_at m5.keys (g := gm) rfl
                    have hne1 : some gm ≠ (Value.slice sa k0.sps.length sc).ownBlock := fun e => (m5.sp_ne Hk0.out Hq.out e.symm).1 rfl
                    have gkA : (wc.alloc (.cells #[strV l] 9)).cell? ⟨gm, i0 * 3 + 1, none⟩ = some (.slice sa k0.sps.length sc) := (World.cell?_of_block (w := wc) (a := ⟨gm, i0 * 3 + 1, none⟩) (Below.heap_alloc wc _ gm (World.block_lt_of_cell? wc _ gc1))).trans gc1
                    have fkA : (wc.alloc (.cells #[strV l] 9)).frozen? ⟨gm, i0 * 3 + 1, none⟩ = false := frozen_of_row _ gm (i0 * 3 + 1) ck 47 ((Below.heap_alloc wc _ gm (lt_heap hck)).trans hck)
                    go_wp2_with (at_builtin; refine wpList_append_lies _ rfl _ _ _ rfl N 9 i9 (.string ⟨#[]⟩) 1 16 Yba.underlying44 hi hz hs hy rfl (by omega) (.slice sa k0.sps.length sc) k0.sps.length (k0.sps.map strV) rfl (hsr.alloc _) ⟨wc.heap.size, 0, none⟩ 1 1 [strV l] rfl rfl (World.news_of_block (heap_alloc_new _ _)) (by simp [Value.oneCell']) (by omega) (by simp [maxLen]; omega) (by omega) (by simp; omega) _ rfl ?_; intro g2 cap2 w2 hown2 hgrow2 hat2 hlt2; have gk9 := (hgrow2.cell_far ⟨gm, i0 * 3 + 1, none⟩ (World.block_lt_of_cell? _ _ gkA) hne1).trans gkA; have fk9 := (hgrow2.frozen_far ⟨gm, i0 * 3 + 1, none⟩ (World.block_lt_of_cell? _ _ gkA) hne1).trans fkA)
                    have mB := m5.keeps (keeps_alloc wc (.cells #[strV l] 9) (fun _ => True)) (by simp)
                    have m2 := mB.addSp (x0 := l) Hk0.out Hq.out rfl hgrow2 hown2 (by rcases hat2 with e | e; exact .inl e; exact .inr (Nat.le_of_eq e.symm))
                    have k2 : Keeps (fun o => isTab o ∨ ∃ c, o = .cells c 39 (0, 0)) wc (w2.setCell ⟨gm, i0 * 3 + 1, none⟩ (.slice (some ⟨g2, 0, none⟩) (k0.sps.length + 1) cap2)) := by
                      refine ((keeps_alloc wc (.cells #[strV l] 9) _).grown hgrow2 (fun x o e ho hp => ?_)).setCell (fun o ho hp => ?_) _
                      · obtain ⟨c2, h2⟩ := own_at (mB.sp i0 k0 _ Hk0.out Hq.out) e
                        rw [ho] at h2
                        simp at h2
                        subst h2
                        rcases hp with hp | ⟨c, hp⟩
                        · simp [isTab] at hp
                        · simp at hp
                      · have h2 := (hgrow2.block gm (by have := lt_heap hck; simp; omega) hne1).trans ((Below.heap_alloc wc _ gm (lt_heap hck)).trans hck)
                        rw [h2] at ho
                        simp at ho
                        subst ho
                        rcases hp with hp | ⟨c, hp⟩
                        · simp [isTab] at hp
                        · simp at hp
                    have b2 : Below N w (w2.setCell ⟨gm, i0 * 3 + 1, none⟩ (.slice (some ⟨g2, 0, none⟩) (k0.sps.length + 1) cap2)) := ((b5.alloc hNc (.cells #[strV l] 9)).grown hgrow2 (by simp; omega) (fun x hx => ((mB.sp i0 k0 _ Hk0.out Hq.out).lt x hx).1)).setCell (p := ⟨gm, i0 * 3 + 1, none⟩) (m5.keys.lt gm rfl).1 _
                    go_meet
                    refine ⟨?_, ⟨_, by rw [if_neg Hsx.out.1]; exact m2⟩, t5.keeps (k2.mono fun _ h => .inl h), k2 _ _ p5 (.inr ⟨_, rfl⟩), b2⟩
                    rw [Hsx.out.2]
                case rest =>
                  obtain ⟨rfl, ⟨U2, m6⟩, t6, p6, b6⟩ := hcut
                  apply hK6
                  have hk1 : (K1.set i0 { k0 with sps := if l ∈ k0.sps then k0.sps else k0.sps ++ [l] })[i0]? = some { k0 with sps := if l ∈ k0.sps then k0.sps else k0.sps ++ [l] } := by rw [List.getElem?_set_self hi0l]
                  obtain ⟨q, hq2⟩ : ∃ q, U2[i0]? = some q := ⟨_, List.getElem?_eq_getElem (by rw [m6.len, List.length_set]; exact hi0l)⟩
                  obtain ⟨q1, q2⟩ := q
                  have hpr := m6.pt i0 _ _ hk1 hq2
                  obtain ⟨pa2, pc2, hpv⟩ := kv_form hpr
                  simp only at hpv hpr
                  subst hpv
                  have hfm := flatM_get ((K1.set i0 { k0 with sps := if l ∈ k0.sps then k0.sps else k0.sps ++ [l] }).map (·.canon)) U2 i0 k0.canon _ (by rw [List.getElem?_map, hk1]; rfl) hq2
                  have hkeys6 := m6.keys
                  rw [List.length_set] at hkeys6
                  have gc2 : wc.cell? ⟨gm, i0 * 3 + 2, none⟩ = some (.slice pa2 k0.pts.length pc2) := own_cell hkeys6 _ _ hfm.2.2
                  have gP1 : wc.cell? ⟨P, 1, none⟩ = some (.int .i64 v) := (cell_of_row wc P 1 _ _ _ p6).trans rfl
                  have Hk1 : Hid ((K1.set i0 { k0 with sps := if l ∈ k0.sps then k0.sps else k0.sps ++ [l] })[i0]? = some { k0 with sps := if l ∈ k0.sps then k0.sps else k0.sps ++ [l] }) := hk1
                  have Hq2 : Hid (U2[i0]? = some (q1, .slice pa2 k0.pts.length pc2)) := hq2
                  clear hfm hk1 hq2 gc1 m5 t5 p5 b5
                  obtain ⟨i49, hi, hz, hs, hy⟩ := info49
                  have hNc : N ≤ wc.heap.size := (tab_lt t6).2
                  obtain ⟨ck, hck⟩ := own_at hkeys6 (g := gm) rfl
                  have hne1 : some gm ≠ (Value.slice pa2 k0.pts.length pc2).ownBlock := fun e => (m6.pt_ne Hk1.out Hq2.out e.symm).1 rfl
                  generalize hix : k0.sps.idxOf l = ix
                  have Hix : Hid (k0.sps.idxOf l = ix) := hix
                  clear hix
                  have hptA : ∀ o, (wc.alloc o).drew.ownsRow N 49 2 (.slice pa2 k0.pts.length pc2) k0.pts.length (ptsV k0.pts) := fun o => hpr.alloc o
                  have hnwA : ∀ x u, [Value.int .i64 v, .int .i64 (ix : Int)][x]? = some u → (wc.alloc (.cells #[.int .i64 v, .int .i64 (ix : Int)] 49)).drew.cell? ((⟨wc.heap.size, 0, none⟩ : Addr).add x) = some u := World.news_of_block (heap_alloc_new wc (.cells #[.int .i64 v, .int .i64 (ix : Int)] 49))
                  have hbsA : N ≤ (wc.alloc (.cells #[.int .i64 v, .int .i64 (ix : Int)] 49)).drew.heap.size := by show N ≤ (wc.alloc (.cells #[.int .i64 v, .int .i64 (ix : Int)] 49)).heap.size; simp; omega
                  have gkA : (wc.alloc (.cells #[.int .i64 v, .int .i64 (ix : Int)] 49)).drew.cell? ⟨gm, i0 * 3 + 2, none⟩ = some (.slice pa2 k0.pts.length pc2) := (World.cell?_of_block (w := wc) (a := ⟨gm, i0 * 3 + 2, none⟩) (Below.heap_alloc wc _ gm (World.block_lt_of_cell? wc _ gc2))).trans gc2
                  have fkA : (wc.alloc (.cells #[.int .i64 v, .int .i64 (ix : Int)] 49)).drew.frozen? ⟨gm, i0 * 3 + 2, none⟩ = false := frozen_of_row (wc.alloc (.cells #[.int .i64 v, .int .i64 (ix : Int)] 49)) gm (i0 * 3 + 2) ck 47 ((Below.heap_alloc wc _ gm (lt_heap hck)).trans hck)
                  go_upto_region 29 with fail
                  go_region_law ((refine step_append_lies _ (by rfl) _ _ _ (by rfl) N 49 i49 (.agg #[.int .i64 0, .int .i64 0]) 2 16 Yba.underlying45 hi hz hs hy rfl (by omega) (.slice pa2 k0.pts.length pc2) k0.pts.length (ptsV k0.pts) (by rfl) (hptA _) ⟨wc.heap.size, 0, none⟩ 1 1 [.int .i64 v, .int .i64 (ix : Int)] (by rfl) (by rfl) hnwA (by simp [Value.oneCell']) (by omega) (by simp [maxLen]; omega) (by omega) hbsA _ (by rfl) ?_; intro g9 cap9 w9 hown9 hgrow9 hat9 hlt9; have gk9 := (hgrow9.cell_far ⟨gm, i0 * 3 + 2, none⟩ (World.block_lt_of_cell? _ _ gkA) hne1).trans gkA; have fk9 := (hgrow9.frozen_far ⟨gm, i0 * 3 + 2, none⟩ (World.block_lt_of_cell? _ _ gkA) hne1).trans fkA))
                  all_goals
                    have mB : MkOk (wc.alloc (.cells #[.int .i64 v, .int .i64 (ix : Int)] 49)).drew N _ _ U2 := m6.keeps (keeps_alloc wc (.cells #[.int .i64 v, .int .i64 (ix : Int)] 49) (fun _ => True)).drew (by simp)
                    have m9 := mB.addPt (v := v) (j := ix) Hk1.out Hq2.out (by rw [List.length_set]) hgrow9 hown9 (by rcases hat9 with e | e; exact .inl e; exact .inr (Nat.le_of_eq e.symm))
                    have k9 : Keeps isTab wc (w9.setCell ⟨gm, i0 * 3 + 2, none⟩ (.slice (some ⟨g9, 0, none⟩) (k0.pts.length + 1) cap9)) := by
                      refine ((keeps_alloc wc (.cells #[.int .i64 v, .int .i64 (ix : Int)] 49) isTab).drew.grown hgrow9 (fun x o e ho hp => ?_)).setCell (fun o ho hp => ?_) _
                      · obtain ⟨c2, h2⟩ := own_at (hptA (.cells #[.int .i64 v, .int .i64 (ix : Int)] 49)) e
                        rw [ho] at h2
                        simp at h2
                        subst h2
                        simp [isTab] at hp
                      · have h2 := (hgrow9.block gm (by have := lt_heap hck; show gm < (wc.alloc (.cells #[.int .i64 v, .int .i64 (ix : Int)] 49)).heap.size; simp; omega) hne1).trans ((Below.heap_alloc wc _ gm (lt_heap hck)).trans hck)
                        rw [h2] at ho
                        simp at ho
                        subst ho
                        simp [isTab] at hp
                    have b9 : Below N w (w9.setCell ⟨gm, i0 * 3 + 2, none⟩ (.slice (some ⟨g9, 0, none⟩) (k0.pts.length + 1) cap9)) := (((b6.alloc hNc (.cells #[.int .i64 v, .int .i64 (ix : Int)] 49)).drew).grown hgrow9 hbsA (fun x hx => (hpr.lt x hx).1)).setCell (p := ⟨gm, i0 * 3 + 2, none⟩) (hkeys6.lt gm rfl).1 _
                    have t9 := t6.keeps k9
                    have Hfin : Hid (foldK (putsL sel val (k + 1)) = (K1.set i0 { k0 with sps := if l ∈ k0.sps then k0.sps else k0.sps ++ [l] }).set i0 { canon := k0.canon, sps := if l ∈ k0.sps then k0.sps else k0.sps ++ [l], pts := k0.pts ++ [(v, ix)] }) := by
                      have : foldK (putsL sel val (k + 1)) = (K1.set i0 { k0 with sps := if l ∈ k0.sps then k0.sps else k0.sps ++ [l] }).set i0 { canon := k0.canon, sps := if l ∈ k0.sps then k0.sps else k0.sps ++ [l], pts := k0.pts ++ [(v, ix)] } := by
                        rw [Hst.out, Hse.out, List.set_set, ← Hix.out]
                        rfl
                      exact this
                    generalize w9.setCell ⟨gm, i0 * 3 + 2, none⟩ (.slice (some ⟨g9, 0, none⟩) (k0.pts.length + 1) cap9) = w10 at m9 t9 b9 ⊢
                    clear gk9 fk9 gkA fkA hnwA hptA gc2 gP1
                    go_wp2_with fail
                    refine ⟨⟨k + 1, S3, kv3, V3, U2.set i0 (q1, .slice (some ⟨g9, 0, none⟩) (k0.pts.length + 1) cap9), HkL.out, ?_, ?_, ?_, ?_, b9⟩, Hme.out⟩
                    · simp
                    · rw [Hst.out]; exact t9
                    · rw [Hst.out]; exact so3
                    · rw [Hfin.out]; exact m9
    · have hlt' : ¬ (k : Int) < (len : Int) := by omega
      have hiv := inv_fold (putsL sel val k)
      rw [putsL_length] at hiv
      have hKl := hiv.len
      have hkey := hiv.key
      have Hkey : Hid (∀ kk ∈ foldK (putsL sel val k), kk.pts.length ≤ k ∧ kk.sps.length ≤ k ∧ kk.pts ≠ [] ∧ ∀ p ∈ kk.pts, p.2 < kk.sps.length) := hkey
      clear hiv hkey hso
      generalize foldK (putsL sel val k) = K at ht hmk hKl Hkey
      obtain ⟨ka, kc, rfl⟩ := kv_form ht.keys
      obtain ⟨ma, mc, rfl⟩ := kv_form hmk.keys
      have gT1 : wr.cell? ⟨T, 1, none⟩ = some (.slice ka K.length kc) := (cell_of_row wr T 1 _ _ _ ht.tb).trans rfl
      go_wp2_with fail
      clear gT1
      go_loopw [13] (fun v wr => ∃ i : Nat, i ≤ K.length ∧ v = .int .i64 (i : Int) ∧ TabOk wr N T N M2 0 K S (.slice ka K.length kc) V ∧ MkOk wr N K (.slice ma K.length mc) U ∧ Below N w wr) (fun v _ => K.length - (intOf v).toNat)
      case atStart => exact ⟨0, Nat.zero_le _, rfl, ht, hmk, hbel⟩
      case round =>
        clear ht hmk hbel
        obtain ⟨i, hi, rfl, ht, hmk, hbel⟩ := hrel
        by_cases hil : i < K.length
        · obtain ⟨gk, rfl⟩ := own_some ht.keys (by omega)
          obtain ⟨gm, rfl⟩ := own_some hmk.keys (by omega)
          obtain ⟨kk, hkk⟩ : ∃ kk, K[i]? = some kk := ⟨_, List.getElem?_eq_getElem hil⟩
          obtain ⟨hb1, hb2, _, _⟩ := Hkey.out kk (List.mem_of_getElem? hkk)
          obtain ⟨q, hq⟩ : ∃ q, V[i]? = some q := ⟨_, List.getElem?_eq_getElem (by rw [ht.len]; exact hil)⟩
          obtain ⟨r, hr⟩ : ∃ r, U[i]? = some r := ⟨_, List.getElem?_eq_getElem (by rw [hmk.len]; exact hil)⟩
          obtain ⟨q1, q2⟩ := q
          obtain ⟨r1, r2⟩ := r
          obtain ⟨a1, c1, h1⟩ := kv_form (ht.sp i kk _ hkk hq)
          obtain ⟨a2, c2, h2⟩ := kv_form (ht.pt i kk _ hkk hq)
          obtain ⟨a3, c3, h3⟩ := kv_form (hmk.sp i kk _ hkk hr)
          obtain ⟨a4, c4, h4⟩ := kv_form (hmk.pt i kk _ hkk hr)
          simp only at h1 h2 h3 h4
          subst h1 h2 h3 h4
          have cells : ∀ wx : World, TabOk wx N T N M2 0 K S (.slice (some ⟨gk, 0, none⟩) K.length kc) V → MkOk wx N K (.slice (some ⟨gm, 0, none⟩) K.length mc) U → wx.cell? ⟨T, 1, none⟩ = some (.slice (some ⟨gk, 0, none⟩) K.length kc) ∧ wx.cell? ⟨gk, i * 2, none⟩ = some (.slice a1 kk.sps.length c1) ∧ wx.cell? ⟨gk, i * 2 + 1, none⟩ = some (.slice a2 kk.pts.length c2) ∧ wx.cell? ⟨gm, i * 3 + 1, none⟩ = some (.slice a3 kk.sps.length c3) ∧ wx.cell? ⟨gm, i * 3 + 2, none⟩ = some (.slice a4 kk.pts.length c4) := fun wx tx mx => by
            have hf1 := flatV_get V i _ hq
            have hf2 := flatM_get (K.map (·.canon)) U i kk.canon _ (by simp [hkk]) hr
            exact ⟨(cell_of_row wx T 1 _ _ _ tx.tb).trans rfl, own_cell tx.keys _ _ hf1.1, own_cell tx.keys _ _ hf1.2, own_cell mx.keys _ _ hf2.2.1, own_cell mx.keys _ _ hf2.2.2⟩
          have Hcells : Hid (∀ wx : World, TabOk wx N T N M2 0 K S (.slice (some ⟨gk, 0, none⟩) K.length kc) V → MkOk wx N K (.slice (some ⟨gm, 0, none⟩) K.length mc) U → wx.cell? ⟨T, 1, none⟩ = some (.slice (some ⟨gk, 0, none⟩) K.length kc) ∧ wx.cell? ⟨gk, i * 2, none⟩ = some (.slice a1 kk.sps.length c1) ∧ wx.cell? ⟨gk, i * 2 + 1, none⟩ = some (.slice a2 kk.pts.length c2) ∧ wx.cell? ⟨gm, i * 3 + 1, none⟩ = some (.slice a3 kk.sps.length c3) ∧ wx.cell? ⟨gm, i * 3 + 2, none⟩ = some (.slice a4 kk.pts.length c4)) := cells
          obtain ⟨g1, g2, g3, g4, g5⟩ := cells _ ht hmk
          clear cells
          have hilI : (i : Int) < (K.length : Int) := by omega
          have hi0 : (0 : Int) ≤ (i : Int) := by omega
          have Hkk : Hid (K[i]? = some kk) := hkk
          have Hq : Hid (V[i]? = some (.slice a1 kk.sps.length c1, .slice a2 kk.pts.length c2)) := hq
          have Hr : Hid (U[i]? = some (.slice a3 kk.sps.length c3, .slice a4 kk.pts.length c4)) := hr
          clear hkk hq hr
          go_upto_region 37 with fail
          go_quiet (fail)
          have t5 := ht.keeps ((Keeps.refl isTab wr).drewN nq)
          have m5 := hmk.keeps ((Keeps.refl (fun _ => True) wr).drewN nq) (by simp)
          have b5 : Below N w (wr.drewN nq) := hbel.trans ⟨rfl, rfl, rfl, Nat.le_refl _, fun _ _ => rfl⟩
          generalize wr.drewN nq = wd at t5 m5 b5 ⊢
          clear g1 g2 g3 g4 g5
          go_wp2_with fail
          go_loopw [15] (fun v wr => ∃ j : Nat, j ≤ kk.sps.length ∧ v = .int .i64 (j : Int) ∧ TabOk wr N T N M2 0 K S (.slice (some ⟨gk, 0, none⟩) K.length kc) V ∧ MkOk wr N K (.slice (some ⟨gm, 0, none⟩) K.length mc) U ∧ Below N w wr) (fun v _ => kk.sps.length - (intOf v).toNat)
          case atStart => exact ⟨0, Nat.zero_le _, rfl, t5, m5, b5⟩
          case round =>
            clear t5 m5 b5
            obtain ⟨j, hj, rfl, t5, m5, b5⟩ := hrel
            obtain ⟨g1, g2, g3, g4, g5⟩ := Hcells.out _ t5 m5
            by_cases hjl : j < kk.sps.length
            · have s1 := t5.sp i kk _ Hkk.out Hq.out
              have s2 := m5.sp i kk _ Hkk.out Hr.out
              obtain ⟨gs, rfl⟩ := own_some s1 (by omega)
              obtain ⟨gs', rfl⟩ := own_some s2 (by omega)
              obtain ⟨y, hy⟩ : ∃ y, kk.sps[j]? = some y := ⟨_, List.getElem?_eq_getElem hjl⟩
              have c1' := own_cell s1 j (strV y) (by simp [hy])
              have c2' := own_cell s2 j (strV y) (by simp [hy])
              have hjlI : (j : Int) < (kk.sps.length : Int) := by omega
              have hj0 : (0 : Int) ≤ (j : Int) := by omega
              clear hy
              have hns : ∀ (a : List UInt8) (w : World), (binOp .neq 9 (strV a) (strV a)).run Yba.prog w = .ok (.bool false) w := fun a w => by rw [neq_str]; simp
              go_upto_region 42 with fail
              go_quiet (fail)
              have t6 := t5.keeps ((Keeps.refl isTab _).drewN nq)
              have m6 := m5.keeps ((Keeps.refl (fun _ => True) _).drewN nq) (by simp)
              have b6 := b5.trans (⟨rfl, rfl, rfl, Nat.le_refl _, fun _ _ => rfl⟩ : Below N wr (wr.drewN nq))
              generalize wr.drewN nq = wd2 at t6 m6 b6 ⊢
              go_wp2_with fail
              go_roundw
              case rel => exact ⟨j + 1, by omega, by go_num, t6, m6, b6⟩
              case measure => simp [intOf]; omega
            · have hjl' : ¬ (j : Int) < (kk.sps.length : Int) := by omega
              go_wp2_with fail
              clear g1 g2 g3 g4 g5
              go_loopw [16] (fun v wr => ∃ j : Nat, j ≤ kk.pts.length ∧ v = .int .i64 (j : Int) ∧ TabOk wr N T N M2 0 K S (.slice (some ⟨gk, 0, none⟩) K.length kc) V ∧ MkOk wr N K (.slice (some ⟨gm, 0, none⟩) K.length mc) U ∧ Below N w wr) (fun v _ => kk.pts.length - (intOf v).toNat)
              case atStart => exact ⟨0, Nat.zero_le _, rfl, t5, m5, b5⟩
              case round =>
                clear t5 m5 b5
                obtain ⟨j2, hj2, rfl, t5, m5, b5⟩ := hrel
                obtain ⟨g1, g2, g3, g4, g5⟩ := Hcells.out _ t5 m5
                by_cases hjl2 : j2 < kk.pts.length
                · have s1 := t5.pt i kk _ Hkk.out Hq.out
                  have s2 := m5.pt i kk _ Hkk.out Hr.out
                  obtain ⟨gs, rfl⟩ := own_some s1 (by omega)
                  obtain ⟨gs', rfl⟩ := own_some s2 (by omega)
                  obtain ⟨y, hy⟩ : ∃ y, kk.pts[j2]? = some y := ⟨_, List.getElem?_eq_getElem hjl2⟩
                  obtain ⟨y1, y2⟩ := y
                  have hpg := ptsV_get kk.pts j2 _ hy
                  have d1 := own_cell s1 _ _ hpg.1
                  have d2 := own_cell s1 _ _ hpg.2
                  have d3 := own_cell s2 _ _ hpg.1
                  have d4 := own_cell s2 _ _ hpg.2
                  have hjlI : (j2 : Int) < (kk.pts.length : Int) := by omega
                  have hj0 : (0 : Int) ≤ (j2 : Int) := by omega
                  clear hy hpg
                  go_upto_region 47 with fail
                  go_quiet (fail)
                  have t6 := t5.keeps ((Keeps.refl isTab _).drewN nq)
                  have m6 := m5.keeps ((Keeps.refl (fun _ => True) _).drewN nq) (by simp)
                  have b6 := b5.trans (⟨rfl, rfl, rfl, Nat.le_refl _, fun _ _ => rfl⟩ : Below N wr (wr.drewN nq))
                  generalize wr.drewN nq = wd2 at t6 m6 b6 ⊢
                  go_wp2_with fail
                  go_roundw
                  case rel => exact ⟨j2 + 1, by omega, by go_num, t6, m6, b6⟩
                  case measure => simp [intOf]; omega
                · have hjl' : ¬ (j2 : Int) < (kk.pts.length : Int) := by omega
                  go_wp2_with fail
                  go_roundw
                  case rel => exact ⟨i + 1, by omega, by go_num, t5, m5, b5⟩
                  case measure => simp [intOf]; omega
        · have hil' : ¬ (i : Int) < (K.length : Int) := by omega
          go_wp2
          go_ret
          exact ⟨rfl, by rw [HN.out]; exact hbel⟩
end Go.Proofs.Ybulkbasw
