import Derived.Test.YbulkbasiFmtE
namespace Go.Proofs.YbulkbasiFmt
open Go.RowKit
set_option maxRecDepth 100000

theorem Sl.mid {w : World} {g o c : Nat} {ps xs ys : List Nat} (h : Sl w (some ⟨g, o, none⟩) c (ps ++ xs ++ ys)) : Sl w (if c = ps.length then some ⟨g, o, none⟩ else some ⟨g, o + ps.length, none⟩) (c - ps.length) xs := by
  have h1 := (h.drop ps.length (by simp)).take xs.length
  rw [List.append_assoc, List.drop_left, List.take_left] at h1
  exact h1

/-- 'runBytes', in numbers. -/
theorem runBytes_core (w : World) (p : Option Addr) (q lq cq j A X L : Nat) (last : Bool) (hlast : last = decide (¬ j + 1 < lq)) (hj : j < lq) (hlq : lq ≤ 90000) (_hL : L ≤ 90000) (hAX : A + X ≤ L) (hlX : last = true → L = A + X)
    (Fin : World → Option Addr → Nat → Prop)
    (h23 : Calls Ybaf.prog 23 #[.agg #[.pointer p]] (w.alloc (.cells #[.pointer p] 33)) fun e w' => ∃ g c, e = .returned (.slice (some ⟨g, 0, none⟩) L c) ∧ L ≤ c ∧ w'.cell? ⟨q, j * 3, none⟩ = some (.int .i64 (A : Int)) ∧ (last = false → w'.cell? ⟨q, (j + 1) * 3, none⟩ = some (.int .i64 ((A + X : Nat) : Int))) ∧ ∀ n, Fin (w'.drewN n) (if c = A then some ⟨g, 0, none⟩ else some ⟨g, A, none⟩) (c - A)) :
    Calls Ybaf.prog 26 #[.agg #[.pointer p], .slice (some ⟨q, 0, none⟩) lq cq, .int .i64 (j : Int)] w fun e w' => ∃ a c, e = .returned (.slice a X c) ∧ Fin w' a c := by
  have hj' : (j : Int) < (lq : Int) := by omega
  cases last with
  | true =>
    have hl : ¬ (j : Int) + 1 < (lq : Int) := by simp at hlast; omega
    have hLX : L - A = X := by have := hlX rfl; omega
    have hHX : Hid (L - A = X) := hLX
    have hAL : (A : Int) ≤ (L : Int) := by omega
    clear hlX hlast hLX
    go_enter Ybaf.func26, Ybaf.ntmps26
    go_wp2_with (go_at_call 23; refine h23.mono ?_; rintro e w1 ⟨g, c, rfl, hLc, d1, _, hF⟩)
    all_goals
      go_ret
      have hF0 : Fin w1 (if c = A then some ⟨g, 0, none⟩ else some ⟨g, A, none⟩) (c - A) := hF 0
      rw [hHX.out]
      first
        | (have hc : c = A := h; rw [if_pos hc, hc, Nat.sub_self] at hF0; exact ⟨_, _, rfl, hF0⟩)
        | (have hc : ¬ c = A := h; rw [if_neg hc] at hF0; exact ⟨_, _, rfl, hF0⟩)
  | false =>
    have hl : (j : Int) + 1 < (lq : Int) := by simp at hlast; omega
    have hXX : A + X - A = X := by omega
    have hHX : Hid (A + X - A = X) := hXX
    clear hlX hlast hXX
    go_enter Ybaf.func26, Ybaf.ntmps26
    go_wp2_with (go_at_call 23; refine h23.mono ?_; rintro e w1 ⟨g, c, rfl, hLc, d1, d2, hF⟩; have d2' := d2 rfl; clear d2)
    go_quiet (fail)
    go_wp2
    all_goals
      go_ret
      have hF0 := hF nq
      first
        | (have hc : c = A := h; rw [if_pos hc, hc, Nat.sub_self] at hF0; exact ⟨_, _, rfl, hF0⟩)
        | (have hc : ¬ c = A := h; rw [if_neg hc] at hF0; exact ⟨_, _, rfl, hF0⟩)

set_option maxHeartbeats 400000 in
theorem runBytes_nil (w : World) (q cq : Nat) (Fin : World → Option Addr → Nat → Prop)
    (h23 : Calls Ybaf.prog 23 #[.agg #[.pointer none]] (w.alloc (.cells #[.pointer none] 33)) fun e w' => e = .returned (.slice none 0 0) ∧ w'.cell? ⟨q, 0, none⟩ = some (.int .i64 0) ∧ Fin w' none 0) :
    Calls Ybaf.prog 26 #[.agg #[.pointer none], .slice (some ⟨q, 0, none⟩) 1 cq, .int .i64 0] w fun e w' => ∃ a c, e = .returned (.slice a 0 c) ∧ Fin w' a c := by
  go_enter Ybaf.func26, Ybaf.ntmps26
  go_wp2_with (go_at_call 23; refine h23.mono ?_; rintro e w1 ⟨rfl, d1, hF⟩)
  go_ret
  exact ⟨_, _, rfl, hF⟩

theorem runBytes_any (w : World) (p : Option Addr) (ks ps xs ys : List (Nat × Nat)) (rs : Option (List Run)) (rv : Value) (l : List Run) (j : Nat) (r : Run) (h : KL w p ks rs) (hl : RunsAt w rv l) (hr : l[j]? = some r) (hks : ks = ps ++ xs ++ ys) (hat : r.at' = (bytesK ps).length)
    (hnx : ∀ r', l[j + 1]? = some r' → r'.at' = (bytesK (ps ++ xs)).length) (hlast : j + 1 = l.length → ys = []) (hk0 : ks = [] → l.length = 1) (hlen : (bytesK ks).length ≤ 90000) (hll : l.length ≤ 90000) :
    Calls Ybaf.prog 26 #[.agg #[.pointer p], rv, .int .i64 (j : Int)] w fun e w' => ∃ a c, e = .returned (.slice a (bytesK xs).length c) ∧ Sl w' a c (bytesK xs) ∧ Gr w w' none := by
  have hg0 := gr_alloc w (.cells #[.pointer p] 33) none
  have hb := lbytes_any _ p ks rs (h.kept hg0.g (safe_none _))
  have hjl := (List.getElem?_eq_some_iff.1 hr).1
  have hl0 := hl.kept hg0.g (safe_none _)
  have hbk : bytesK ks = bytesK ps ++ bytesK xs ++ bytesK ys := by rw [hks, bytesK_append, bytesK_append]
  have hsum : (bytesK ks).length = (bytesK ps).length + (bytesK xs).length + (bytesK ys).length := by rw [hbk, List.length_append, List.length_append]
  obtain ⟨q, cq, arr, t, fr, rfl, hq1, hq2, hq3⟩ := hl.ex
  obtain ⟨e1, _⟩ := flatR_get l j r hr
  by_cases hk : ks = []
  · have hps : ps = [] ∧ xs = [] := by
      rw [hk] at hks
      simp at hks
      exact ⟨hks.1, hks.2.1⟩
    have hl1 := hk0 hk
    have hj0 : j = 0 := by omega
    subst hj0
    rw [hps.2, hl1]
    rw [hps.1] at hat
    have hpn : p = none := by
      rcases h.ex with ⟨_, _, e⟩ | ⟨K, g, c, rp, _, hne, _⟩
      · exact e
      · exact absurd hk hne
    subst hpn
    refine (runBytes_nil w q cq (fun w' a c => Sl w' a c [] ∧ Gr w w' none) (hb.mono ?_))
    rintro e w1 ⟨a, c, rfl, hs1, _, ha, hg1⟩
    obtain ⟨rfl, rfl⟩ := ha hk
    rw [hk] at hs1
    refine ⟨by rw [hk]; rfl, ?_, hs1, hg0.trans hg1⟩
    have hq1' := (hg1.block q (by have := lt_heap hq1; have := hg0.size; omega) (by simp)).trans ((hg0.block q (lt_heap hq1) (by simp)).trans hq1)
    rw [cell_of_row w1 q 0 _ _ _ hq1', hq3 0 _ e1, hat]
    rfl
  · refine runBytes_core w p q l.length cq j (bytesK ps).length (bytesK xs).length (bytesK ks).length (decide (¬ j + 1 < l.length)) rfl hjl hll hlen (by omega) (fun e => ?_) (fun w' a c => Sl w' a c (bytesK xs) ∧ Gr w w' none) (hb.mono ?_)
    · simp at e
      have := hlast (by omega)
      subst this
      rw [hsum]
      simp [bytesK]
    · rintro e w1 ⟨a, c, rfl, hs1, ha, _, hg1⟩
      obtain ⟨g, rfl⟩ := ha hk
      have hq1' := (hg1.block q (by have := lt_heap hq1; have := hg0.size; omega) (by simp)).trans ((hg0.block q (lt_heap hq1) (by simp)).trans hq1)
      refine ⟨g, c, rfl, hs1.le, ?_, fun hn => ?_, fun n => ⟨?_, (hg0.trans hg1).trans (gr_drewN _ _)⟩⟩
      · rw [cell_of_row w1 q _ _ _ _ hq1', hq3 _ _ e1, hat]
      · simp at hn
        obtain ⟨e2, _⟩ := flatR_get l (j + 1) _ (List.getElem?_eq_getElem hn)
        rw [cell_of_row w1 q _ _ _ _ hq1', hq3 _ _ e2, hnx _ (List.getElem?_eq_getElem hn), bytesK_append, List.length_append]
      · rw [hbk] at hs1
        have := hs1.mid.kept0 (gr_drewN w1 n)
        simpa using this

theorem field65 (b nm vl en : Value) (ve : Int) (ok : Bool) (w : World) : (Instr.field 65 (.agg #[b, .nilIface, .int .i64 0, .slice none 0 0, .slice none 0 0, .int .i64 0, .bool false, .slice none 0 0, .bool false, .string ⟨#[]⟩, .slice none 0 0, .bool false, nm, vl, en, .int .u64 ve, .bool ok]) 1).run Ybaf.prog w = .ok (.agg #[nm, vl, en, .int .u64 ve]) w := by
  kernel_rfl
theorem field63 (nm vl en : Value) (ve : Int) (w : World) : (Instr.field 63 (.agg #[nm, vl, en, .int .u64 ve]) 0).run Ybaf.prog w = .ok nm w := by
  kernel_rfl
set_option maxHeartbeats 400000 in
theorem firstName_any (w : World) (p : Option Addr) (ks ps xs ys : List (Nat × Nat)) (x ver : Nat) (rs : Option (List Run)) (rv : Value) (l : List Run) (j : Nat) (r : Run) (h : KL w p ks rs) (hl : RunsAt w rv l) (hr : l[j]? = some r) (hks : ks = ps ++ (x, ver) :: xs ++ ys) (hat : r.at' = (bytesK ps).length)
    (hnx : ∀ r', l[j + 1]? = some r' → r'.at' = (bytesK (ps ++ (x, ver) :: xs)).length) (hlast : j + 1 = l.length → ys = []) (hlen : (bytesK ks).length ≤ 90000) (hll : l.length ≤ 90000) (hv : ∀ k ∈ ks, k.2 < 16384) :
    Calls Ybaf.prog 27 #[.agg #[.pointer p], rv, .int .i64 (j : Int)] w fun e w' => ∃ a c, e = .returned (.slice a 2 c) ∧ Sl w' a c [x / 256, x % 256] ∧ Gr w w' none := by
  have hg0 := gr_alloc w (.cells #[.pointer p] 33) none
  have hb := runBytes_any _ p ks ps ((x, ver) :: xs) ys rs rv l j r (h.kept hg0.g (safe_none _)) (hl.kept hg0.g (safe_none _)) hr hks hat hnx hlast (fun e => by rw [hks] at e; simp at e) hlen hll
  have hvx : ∀ k ∈ (x, ver) :: xs, k.2 < 16384 := fun k hk => hv k (by rw [hks]; simp at hk ⊢; rcases hk with rfl | hk <;> simp [*])
  have hlx : (bytesK ((x, ver) :: xs)).length ≤ 90000 := by
    have : (bytesK ks).length = (bytesK ps).length + (bytesK ((x, ver) :: xs)).length + (bytesK ys).length := by rw [hks, bytesK_append, bytesK_append, List.length_append, List.length_append]
    omega
  have hHl : Hid (RunsAt w rv l) := hl
  obtain ⟨q, cq, arr, t, fr, hrv, hq1, hq2, hq3⟩ := hl.ex
  subst hrv
  clear h hl hks
  have f65 := @field65
  have f63 := @field63
  go_enter Ybaf.func27, Ybaf.ntmps27
  go_wp2_with (first
    | (go_at_call 26; refine hb.mono ?_; rintro e w1 ⟨a, c, rfl, hs1, hg1⟩; have hk := keysIn_any w1 a c _ hs1 hvx hlx)
    | (go_at_call 14; refine hk.mono ?_; rintro e w2 ⟨cs, rfl, hV, hg2⟩; obtain ⟨a', c', an, nn, cn, av, nv, cv, ae, ne, ce, ve, ok, hcs, _, _, hV'⟩ := hV.ex; subst hcs; obtain ⟨hnn, hsn, _⟩ := hV' x ver xs rfl; subst hnn; simp only [rC]))
  go_ret
  exact ⟨_, _, rfl, hsn, (hg0.trans hg1).trans hg2⟩
end Go.Proofs.YbulkbasiFmt
