import Derived.Test.YbulkbasiFmtB
namespace Go.Proofs.YbulkbasiFmt
open Go.RowKit
set_option maxRecDepth 100000

/-! ### The reader in memory -/
abbrev rC (b nm vl en : Value) (ve : Int) (ok : Bool) : Array Value := #[b, .nilIface, .int .i64 0, .slice none 0 0, .slice none 0 0, .int .i64 0, .bool false, .slice none 0 0, .bool false, .string ⟨#[]⟩, .slice none 0 0, .bool false, nm, vl, en, .int .u64 ve, .bool ok]

section
variable {w : World} {R : Nat} {b nm vl en : Value} {ve : Int} {ok : Bool} (h : w.heap[R]? = some (.cells (rC b nm vl en ve ok) 65 (0, 0)))
include h
theorem rd_b (v : Value) : (w.setCell ⟨R, 0, none⟩ v).heap[R]? = some (.cells (rC v nm vl en ve ok) 65 (0, 0)) := heap_setCell_same w R 0 _ _ v h
theorem rd_nm (v : Value) : (w.setCell ⟨R, 12, none⟩ v).heap[R]? = some (.cells (rC b v vl en ve ok) 65 (0, 0)) := heap_setCell_same w R 12 _ _ v h
theorem rd_vl (v : Value) : (w.setCell ⟨R, 13, none⟩ v).heap[R]? = some (.cells (rC b nm v en ve ok) 65 (0, 0)) := heap_setCell_same w R 13 _ _ v h
theorem rd_en (v : Value) : (w.setCell ⟨R, 14, none⟩ v).heap[R]? = some (.cells (rC b nm vl v ve ok) 65 (0, 0)) := heap_setCell_same w R 14 _ _ v h
theorem rd_ve (v : Int) : (w.setCell ⟨R, 15, none⟩ (.int .u64 v)).heap[R]? = some (.cells (rC b nm vl en v ok) 65 (0, 0)) := heap_setCell_same w R 15 _ _ _ h
theorem rd_ok (v : Bool) : (w.setCell ⟨R, 16, none⟩ (.bool v)).heap[R]? = some (.cells (rC b nm vl en ve v) 65 (0, 0)) := heap_setCell_same w R 16 _ _ _ h
theorem Sl.at {w' : World} {a : Option Addr} {c : Nat} {bs : List Nat} (hs : Sl w a c bs) (hg : Gr w w' (some R)) : Sl w' a c bs := hs.kept hg.g (fun R' e => by
  have : R = R' := by simpa using e
  subst this
  exact ⟨_, _, _, h, by decide⟩)
end
theorem Sl.kept0 {w w' : World} {a : Option Addr} {c : Nat} {bs : List Nat} (hs : Sl w a c bs) (hg : Gr w w' none) : Sl w' a c bs := hs.kept hg.g (fun R' e => by simp at e)
theorem gr_setCell (w : World) (a : Addr) (u : Value) : Gr w (w.setCell a u) (some a.block) :=
  ⟨⟨rfl, rfl, rfl, by simp, fun k _ hk => heap_setCell_other w a k u (fun e => hk (by rw [e]))⟩, Nat.le_refl _⟩

set_option maxHeartbeats 400000 in
theorem uint_any (w : World) (R : Nat) (nm vl en : Value) (ve : Int) (ok : Bool) (a : Option Addr) (c k : Nat) (rest : List Nat) (hR : w.heap[R]? = some (.cells (rC (.slice a (verB k ++ rest).length c) nm vl en ve ok) 65 (0, 0))) (hs : Sl w a c (verB k ++ rest)) (hk : k < 16384) :
    Calls Ybaf.prog 49 #[.pointer (some ⟨R, 0, none⟩)] w fun e w' => e = .returned (.int .u64 (k : Int)) ∧ ∃ g' o' c', w'.heap[R]? = some (.cells (rC (.slice (some ⟨g', o', none⟩) rest.length c') nm vl en ve ok) 65 (0, 0)) ∧ Sl w' (some ⟨g', o', none⟩) c' rest ∧ Gr w w' (some R) := by
  have hvl := verB_length k
  obtain ⟨g, o, rfl, hl⟩ := hs.form (by intro e; have := congrArg List.length e; rw [List.length_append] at this; simp only [List.length_nil] at this; omega)
  have hle := hs.le
  have hlen : (verB k ++ rest).length = (verB k).length + rest.length := List.length_append
  have hsu := shortUint_any w g o c k rest hk hl
  have hd := hs.drop (verB k).length (by omega)
  rw [List.drop_left] at hd
  generalize (verB k ++ rest).length = L at *
  generalize (verB k).length = m at *
  have hLr : L - m = rest.length := by omega
  have hmL : (m : Int) ≤ L := by omega
  have hm0 : (0 : Int) < m := by omega
  have c0 : w.cell? ⟨R, 0, none⟩ = some (.slice (some ⟨g, o, none⟩) L c) := (cell_of_row w R 0 _ _ _ hR).trans rfl
  have hS : Hid (Sl w (if c = m then some ⟨g, o, none⟩ else some ⟨g, o + m, none⟩) (c - m) rest) := hd
  have hH : Hid (L = m + rest.length ∧ L - m = rest.length) := ⟨hlen, hLr⟩
  have hE : Hid (1 ≤ m ∧ m ≤ 2 ∧ L ≤ c) := ⟨hvl.1, hvl.2, hle⟩
  clear hs hd hlen hLr hvl hle
  go_enter Ybaf.func49, Ybaf.ntmps49
  go_wp2_with (go_at_call 57; refine hsu.mono ?_; rintro e w1 ⟨rfl, hg1⟩; have hR1 := (hg1.block R (lt_heap hR) (by simp)).trans hR; have c1 : w1.cell? ⟨R, 0, none⟩ = some (.slice (some ⟨g, o, none⟩) L c) := (cell_of_row w1 R 0 _ _ _ hR1).trans rfl; have f1 : w1.frozen? ⟨R, 0, none⟩ = false := frozen_of_row w1 R 0 _ _ hR1)
  all_goals
    go_ret
    have hgs := (hg1.but (some R)).trans (gr_setCell w1 ⟨R, 0, none⟩ (.slice (if c = m then some ⟨g, o, none⟩ else some ⟨g, o + m, none⟩) (L - m) (c - m)))
    have hs2 := hS.out
    have hr2 := rd_b hR1 (.slice (if c = m then some ⟨g, o, none⟩ else some ⟨g, o + m, none⟩) (L - m) (c - m))
    rw [hH.out.2] at hgs hr2
    rw [hH.out.2]
    first
      | (have hcm : c = m := h; subst hcm; simp only [if_true, Nat.sub_self] at hgs hs2 hr2; exact ⟨rfl, _, _, _, hr2, Sl.at hR hs2 hgs, hgs⟩)
      | (have hcm : ¬ c = m := h; simp only [if_neg hcm] at hgs hs2 hr2; exact ⟨rfl, _, _, _, hr2, Sl.at hR hs2 hgs, hgs⟩)

set_option maxHeartbeats 400000 in
theorem bytes_any (w : World) (R : Nat) (nm vl en : Value) (ve : Int) (ok : Bool) (a : Option Addr) (c : Nat) (xs rest : List Nat) (hR : w.heap[R]? = some (.cells (rC (.slice a (verB xs.length ++ (xs ++ rest)).length c) nm vl en ve ok) 65 (0, 0))) (hs : Sl w a c (verB xs.length ++ (xs ++ rest))) (hk : xs.length < 128) (hrl : rest.length ≤ 100000) :
    Calls Ybaf.prog 48 #[.pointer (some ⟨R, 0, none⟩)] w fun e w' => ∃ g1 o1 c1, e = .returned (.slice (some ⟨g1, o1, none⟩) xs.length c1) ∧ Sl w' (some ⟨g1, o1, none⟩) c1 xs ∧ ∃ g' o' c', w'.heap[R]? = some (.cells (rC (.slice (some ⟨g', o', none⟩) rest.length c') nm vl en ve ok) 65 (0, 0)) ∧ Sl w' (some ⟨g', o', none⟩) c' rest ∧ Gr w w' (some R) := by
  have hu := uint_any w R nm vl en ve ok a c xs.length (xs ++ rest) hR hs (by omega)
  have hlen : (xs ++ rest).length = xs.length + rest.length := List.length_append
  have hHR : Hid (w.heap[R]? = some (.cells (rC (.slice a (verB xs.length ++ (xs ++ rest)).length c) nm vl en ve ok) 65 (0, 0))) := hR
  clear hR hs
  have hE : Hid ((xs ++ rest).length = xs.length + rest.length) := hlen
  clear hlen
  go_enter Ybaf.func48, Ybaf.ntmps48
  go_wp2_with (go_at_call 49; refine hu.mono ?_; rintro e w1 ⟨rfl, g, o, c1, hR1, hs1, hg1⟩; rw [hE.out] at hR1; have hle1 := hs1.le; rw [hE.out] at hle1; have c1' : w1.cell? ⟨R, 0, none⟩ = some (.slice (some ⟨g, o, none⟩) (xs.length + rest.length) c1) := (cell_of_row w1 R 0 _ _ _ hR1).trans rfl; have f1 : w1.frozen? ⟨R, 0, none⟩ = false := frozen_of_row w1 R 0 _ _ hR1)
  all_goals
    go_ret
    have hd := hs1.drop xs.length (by rw [hE.out]; omega)
    rw [List.drop_left] at hd
    have ht := hs1.take xs.length
    rw [List.take_left] at ht
    have hgs := gr_setCell w1 ⟨R, 0, none⟩ (.slice (if c1 = xs.length then some ⟨g, o, none⟩ else some ⟨g, o + xs.length, none⟩) rest.length (c1 - xs.length))
    have hr2 := rd_b hR1 (.slice (if c1 = xs.length then some ⟨g, o, none⟩ else some ⟨g, o + xs.length, none⟩) rest.length (c1 - xs.length))
    first
      | (have hcm : c1 = xs.length := h; subst hcm; simp only [if_true, Nat.sub_self] at hgs hd hr2; exact ⟨_, _, _, rfl, Sl.at hR1 ht hgs, _, _, _, hr2, Sl.at hR1 hd hgs, hg1.trans hgs⟩)
      | (have hcm : ¬ c1 = xs.length := h; simp only [if_neg hcm] at hgs hd hr2; exact ⟨_, _, _, rfl, Sl.at hR1 ht hgs, _, _, _, hr2, Sl.at hR1 hd hgs, hg1.trans hgs⟩)

theorem encK_parts (x ver : Nat) (rest : List Nat) : encK x ver ++ rest = verB [x / 256, x % 256].length ++ ([x / 256, x % 256] ++ (verB ver ++ (verB ([] : List Nat).length ++ ([] ++ rest)))) := by
  simp [encK, verB]

set_option maxHeartbeats 400000 in
theorem key_any (w : World) (R : Nat) (nm vl en : Value) (ve : Int) (ok : Bool) (a : Option Addr) (c x ver : Nat) (rest : List Nat) (hR : w.heap[R]? = some (.cells (rC (.slice a (encK x ver ++ rest).length c) nm vl en ve ok) 65 (0, 0))) (hs : Sl w a c (encK x ver ++ rest)) (hk : ver < 16384) (hrl : rest.length ≤ 90000) :
    Calls Ybaf.prog 30 #[.pointer (some ⟨R, 0, none⟩)] w fun e w' => ∃ g1 o1 c1 v2, e = .returned (.tuple #[.slice (some ⟨g1, o1, none⟩) 2 c1, .int .u64 (ver : Int), v2]) ∧ Sl w' (some ⟨g1, o1, none⟩) c1 [x / 256, x % 256] ∧ (∃ g2 o2 c2, v2 = .slice (some ⟨g2, o2, none⟩) 0 c2) ∧ ∃ g' o' c', w'.heap[R]? = some (.cells (rC (.slice (some ⟨g', o', none⟩) rest.length c') nm vl en ve ok) 65 (0, 0)) ∧ Sl w' (some ⟨g', o', none⟩) c' rest ∧ Gr w w' (some R) := by
  rw [encK_parts] at hR hs
  have hvl := verB_length ver
  have b1 := bytes_any w R nm vl en ve ok a c [x / 256, x % 256] _ hR hs (by simp) (by simp; have := verB_length 0; omega)
  have hHR : Hid (w.heap[R]? = some (.cells (rC (.slice a (verB [x / 256, x % 256].length ++ ([x / 256, x % 256] ++ (verB ver ++ (verB ([] : List Nat).length ++ ([] ++ rest))))).length c) nm vl en ve ok) 65 (0, 0))) := hR
  clear hR hs
  go_enter Ybaf.func30, Ybaf.ntmps30
  go_wp2_with (first
    | (go_at_call 48; have h2' := b3; refine b3.mono ?_; rintro e w3 ⟨g2, o2, c2, rfl, hsv, g5, o5, c5, hR3, hs3, hg3⟩)
    | (go_at_call 49; refine b2.mono ?_; rintro e w2 ⟨rfl, g4, o4, c4, hR2, hs2, hg2⟩; have b3 := bytes_any w2 R nm vl en ve ok _ c4 [] rest hR2 hs2 (by simp) (by omega))
    | (go_at_call 48; refine b1.mono ?_; rintro e w1 ⟨g1, o1, c1, rfl, hsn, g3, o3, c3, hR1, hs1, hg1⟩; have b2 := uint_any w1 R nm vl en ve ok _ c3 ver _ hR1 hs1 hk))
  go_ret3
  exact ⟨g1, o1, c1, _, rfl, Sl.at hR2 (Sl.at hR1 hsn hg2) hg3, ⟨_, _, _, rfl⟩, g5, o5, c5, hR3, hs3, (hg1.trans hg2).trans hg3⟩
end Go.Proofs.YbulkbasiFmt
