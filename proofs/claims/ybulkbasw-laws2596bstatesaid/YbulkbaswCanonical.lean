import Derived.Test.YbulkbaswCanon
import Derived.Deep.QuietTactic
import Derived.BigQuiet
import Derived.Lib.LazyBuf
namespace Go.Proofs.Ybulkbasw
open Go.RowKit

theorem run_idx (l : List UInt8) (k : Nat) (h : k < l.length) (w : World) : (Instr.index 9 (.string ⟨l.toArray⟩) (.int .i64 (k : Int))).run Yba.prog w = .ok (.int .u8 (l[k].toNat : Int)) w := by
  have := run_index ⟨l.toArray⟩ k (by simpa [ByteArray.size] using h) w
  rw [this]
  simp [oct, h]
theorem fold_b (b : UInt8) (w : World) : Calls Yba.prog 17 #[.int .u8 (b.toNat : Int)] w fun e w' => e = .returned (.int .u8 ((foB b).toNat : Int)) ∧ w' = w := by
  have h := b.toNat_lt
  rw [foB_int]
  exact fold_any _ (by omega) (by omega) w
theorem canonL_same (l : List UInt8) (h : ∀ j (hj : j < l.length), foB l[j] = l[j]) : canonL l = l := by
  unfold canonL
  apply List.ext_getElem
  · simp
  · intro i h1 h2
    simp
    exact h i h2

/-- The row at U while the loop runs: the first k octets are folded. -/
def HalfC (W : World) (U : Nat) (l : List UInt8) (k : Nat) : Prop := ∀ j (hj : j < l.length), W.cell? ⟨U, j, none⟩ = some (.int .u8 ((if j < k then foB l[j] else l[j]).toNat : Int)) ∧ W.frozen? ⟨U, j, none⟩ = false
theorem HalfC.step {W : World} {U : Nat} {l : List UInt8} {k : Nat} (h : HalfC W U l k) (hk : k < l.length) : HalfC (W.setCell ⟨U, k, none⟩ (.int .u8 ((foB l[k]).toNat : Int))) U l (k + 1) := by
  intro j hj
  refine ⟨?_, by simpa using (h j hj).2⟩
  by_cases e : j = k
  · subst e
    rw [World.cell?_setCell_same W ⟨U, j, none⟩ _ (h j hj).1, if_pos (by omega)]
  · rw [World.cell?_setCell_other W ⟨U, k, none⟩ ⟨U, j, none⟩ _ (fun e' => e (congrArg Addr.off e').symm), (h j hj).1]
    by_cases e2 : j < k
    · rw [if_pos e2, if_pos (by omega)]
    · rw [if_neg e2, if_neg (by omega)]
theorem HalfC.from {W : World} {U : Nat} {l : List UInt8} {k : Nat} (h : HalfC W U l 0) (hp : ∀ j (hj : j < l.length), j < k → foB l[j] = l[j]) : HalfC W U l k := by
  intro j hj
  refine ⟨?_, (h j hj).2⟩
  rw [(h j hj).1, if_neg (by omega)]
  by_cases e : j < k
  · rw [if_pos e, hp j hj e]
  · rw [if_neg e]
theorem convC (W : World) (U cap : Nat) (l : List UInt8) (h : HalfC W U l l.length) : (convert 27 9 (.slice (some ⟨U, 0, none⟩) l.length cap)).run Yba.prog W = .ok (.string ⟨(canonL l).toArray⟩) W := by
  have e : (canonL l).length = l.length := by simp [canonL]
  rw [← e]
  refine run_convert_bytes_back W 27 9 5 ⟨U, 0, none⟩ cap (canonL l) Yba.underlying27 Yba.underlying5 Yba.underlying9 (fun j hj => ?_)
  have e2 : (⟨U, 0, none⟩ : Addr).add j = ⟨U, j, none⟩ := by unfold Addr.add; split <;> simp_all
  rw [e2, (h j (by omega)).1, if_pos (by omega)]
  simp [canonL]

theorem heap_setCells_far (g k : Nat) : ∀ (vs : List Value) (o : Nat) (w : World), k ≠ g → (w.setCells g o vs).heap[k]? = w.heap[k]?
  | [], _, _, _ => rfl
  | v :: r, o, w, h => by
    rw [World.setCells, heap_setCells_far g k r (o + 1) _ h]
    exact heap_setCell_other w ⟨g, o, none⟩ k v h
theorem below_setCells {B : Nat} {a : World} {g : Nat} (hg : B ≤ g) : ∀ (vs : List Value) (o : Nat) (w : World), Below B a w → Below B a (w.setCells g o vs)
  | [], _, _, h => h
  | v :: r, o, w, h => below_setCells hg r (o + 1) (w.setCell ⟨g, o, none⟩ v) (h.setCell (p := ⟨g, o, none⟩) hg v)

/-- The zero of [255]byte. -/
def z255 : Array Value := Array.replicate 255 (.int .u8 0)
theorem zero77 (w : World) : (zeroValue 77).run Yba.prog w = .ok (.agg z255) w := by kernel_rfl
theorem z255_size : z255.size = 255 := by simp [z255]

set_option maxHeartbeats 1000000 in
set_option maxRecDepth 100000 in
theorem canonical_any (l : List UInt8) (hl : l.length ≤ 200) (w : World) : Calls Yba.prog 19 #[.agg #[.string ⟨l.toArray⟩]] w fun e w' => e = .returned (.agg #[.string ⟨(canonL l).toArray⟩]) ∧ Below w.heap.size w w' := by
  have hz : (ByteArray.mk l.toArray).size = l.length := by simp [ByteArray.size]
  have hzv := zero77
  go_enter Yba.func19, Yba.ntmps19
  go_wp2
  have hX : ((w.alloc (.cells #[.string ⟨l.toArray⟩] 43)).alloc (.cells #[.string ⟨#[]⟩] 43)).heap[w.heap.size]? = some (.cells #[.string ⟨l.toArray⟩] 43 (0, 0)) := (Below.heap_alloc _ _ _ (by simp)).trans (heap_alloc_new _ _)
  have hR : ((w.alloc (.cells #[.string ⟨l.toArray⟩] 43)).alloc (.cells #[.string ⟨#[]⟩] 43)).heap[w.heap.size + 1]? = some (.cells #[.string ⟨#[]⟩] 43 (0, 0)) := by
    have := heap_alloc_new (w.alloc (.cells #[.string ⟨l.toArray⟩] 43)) (.cells #[.string ⟨#[]⟩] 43)
    simpa using this
  go_loopw [3] (fun i wr => ∃ (k : Nat), k ≤ l.length ∧ i = .int .i64 k ∧ (∀ j (hj : j < l.length), j < k → foB l[j] = l[j]) ∧ wr.heap[w.heap.size]? = some (.cells #[.string ⟨l.toArray⟩] 43 (0, 0)) ∧ wr.heap[w.heap.size + 1]? = some (.cells #[.string ⟨#[]⟩] 43 (0, 0)) ∧ Below w.heap.size w wr)
    (fun i _ => l.length - (intOf i).toNat)
  case atStart => exact ⟨0, Nat.zero_le _, rfl, fun j _ h => by omega, hX, hR, ((Below.refl _ w).alloc (Nat.le_refl _) _).alloc (by simp) _⟩
  case round =>
    obtain ⟨k, hk, rfl, hpre, hX, hR, hbel⟩ := hrel
    have gX : wr.cell? ⟨w.heap.size, 0, none⟩ = some (.string ⟨l.toArray⟩) := (cell_of_row wr w.heap.size 0 _ _ _ hX).trans rfl
    have gR : wr.cell? ⟨w.heap.size + 1, 0, none⟩ = some (.string ⟨#[]⟩) := (cell_of_row wr (w.heap.size + 1) 0 _ _ _ hR).trans rfl
    have fR : wr.frozen? ⟨w.heap.size + 1, 0, none⟩ = false := frozen_of_row wr _ 0 _ _ hR
    have HX : Hid (wr.heap[w.heap.size]? = some (.cells #[.string ⟨l.toArray⟩] 43 (0, 0))) := hX
    have HR : Hid (wr.heap[w.heap.size + 1]? = some (.cells #[.string ⟨#[]⟩] 43 (0, 0))) := hR
    clear hX hR
    by_cases hlt : k < l.length
    · have hi := run_idx l k hlt
      have hr := l[k].toNat_lt
      have hz2 : (0 : Int) ≤ (l[k].toNat : Int) := by omega
      have hz3 : (l[k].toNat : Int) ≤ 255 := by omega
      by_cases hf : foB l[k] = l[k]
      · have hq : (((foB l[k]).toNat : Int) == (l[k].toNat : Int)) = true := by rw [hf]; simp
        have HF : Hid (foB l[k] = l[k]) := hf
        clear hf
        go_wp2
        go_quiet ((go_at_call 17; go_must (exact Calls.quiet_of_same (fold_b _ _))))
        go_wp2
        go_roundw
        case rel => exact ⟨k + 1, by omega, by go_num, fun j hj h => by
          by_cases e : j = k
          · subst e; exact HF.out
          · exact hpre j hj (by omega), HX.out, HR.out, hbel.trans ⟨rfl, rfl, rfl, Nat.le_refl _, fun _ _ => rfl⟩⟩
        case measure => simp [intOf]; omega
      · have hq : (((foB l[k]).toNat : Int) == (l[k].toNat : Int)) = false := by
          rw [beq_eq_false_iff_ne]
          intro e
          exact hf (UInt8.toNat_inj.1 (by omega))
        have HF : Hid (¬ foB l[k] = l[k]) := hf
        have hke : ((k : Int) == (l.length : Int)) = false := by rw [beq_eq_false_iff_ne]; omega
        clear hf
        go_wp2
        go_quiet ((go_at_call 17; go_must (exact Calls.quiet_of_same (fold_b _ _))))
        go_wp2
        have hW7 : ((wr.drewN nq).alloc (.cells z255 77)).heap[wr.heap.size]? = some (.cells z255 77 (0, 0)) := heap_alloc_new (wr.drewN nq) _
        have hb7 : Below w.heap.size w ((wr.drewN nq).alloc (.cells z255 77)) := (hbel.trans (b := wr) (c := wr.drewN nq) ⟨rfl, rfl, rfl, Nat.le_refl _, fun _ _ => rfl⟩).alloc hbel.size _
        have hX7 : ((wr.drewN nq).alloc (.cells z255 77)).heap[w.heap.size]? = some (.cells #[.string ⟨l.toArray⟩] 43 (0, 0)) := (Below.heap_alloc (wr.drewN nq) _ _ (Array.getElem?_eq_some_iff.1 HX.out).1).trans HX.out
        have hR7 : ((wr.drewN nq).alloc (.cells z255 77)).heap[w.heap.size + 1]? = some (.cells #[.string ⟨#[]⟩] 43 (0, 0)) := (Below.heap_alloc (wr.drewN nq) _ _ (Array.getElem?_eq_some_iff.1 HR.out).1).trans HR.out
        have hU : w.heap.size + 1 < wr.heap.size := (Array.getElem?_eq_some_iff.1 HR.out).1
        generalize (wr.drewN nq).alloc (.cells z255 77) = W7 at hW7 hb7 hX7 hR7 ⊢
        have hUb : w.heap.size ≤ wr.heap.size := by omega
        generalize wr.heap.size = U at hW7 hU hUb ⊢
        have g7 : W7.cell? ⟨w.heap.size, 0, none⟩ = some (.string ⟨l.toArray⟩) := (cell_of_row W7 w.heap.size 0 _ _ _ hX7).trans rfl
        have hcp := fun ty => run_copy_string (P := Yba.prog) W7.drew 27 9 ty 5 U 0 255 255 ⟨l.toArray⟩ Yba.underlying27 Yba.sizeOf5 (by rw [hz]; omega) (fun j hj => by
            show (W7.cell? ⟨U, 0 + j, none⟩).isSome = true
            rw [hz] at hj
            rw [cell_of_row W7 U (0 + j) _ _ _ hW7]
            simp [z255]
            omega) (fun j _ => frozen_of_row W7 U (0 + j) _ _ hW7)
        have hH : HalfC (W7.drew.setCells U 0 (l.map fun x => Value.int .u8 (x.toNat : Int))) U l 0 := by
          intro j hj
          have hin := World.cell?_setCells_in U (l.map fun x => Value.int .u8 (x.toNat : Int)) 0 W7.drew (fun j hj => by
            show (W7.cell? ⟨U, 0 + j, none⟩).isSome = true
            rw [List.length_map] at hj
            rw [cell_of_row W7 U (0 + j) _ _ _ hW7]
            simp [z255]
            omega) j (by simpa using hj)
          refine ⟨?_, ?_⟩
          · rw [Nat.zero_add] at hin
            rw [hin, if_neg (by omega)]
            simp
          · rw [World.frozen?_setCells]
            exact frozen_of_row W7 U j _ _ hW7
        have hR8 : (W7.drew.setCells U 0 (l.map fun x => Value.int .u8 (x.toNat : Int))).heap[w.heap.size + 1]? = some (.cells #[.string ⟨#[]⟩] 43 (0, 0)) := by
          rw [heap_setCells_far U (w.heap.size + 1) _ _ _ (by omega)]
          exact hR7
        have hb8 : Below w.heap.size w (W7.drew.setCells U 0 (l.map fun x => Value.int .u8 (x.toNat : Int))) := below_setCells hUb _ _ _ (hb7.trans ⟨rfl, rfl, rfl, Nat.le_refl _, fun _ _ => rfl⟩)
        have HW7 : Hid (W7.heap[U]? = some (.cells z255 77 (0, 0))) := hW7
        have HX7 : Hid (W7.heap[w.heap.size]? = some (.cells #[.string ⟨l.toArray⟩] 43 (0, 0))) := hX7
        have HR7 : Hid (W7.heap[w.heap.size + 1]? = some (.cells #[.string ⟨#[]⟩] 43 (0, 0))) := hR7
        clear hW7 hX7 hR7 gX gR fR hX hR
        have hl1 : (l.length : Int) ≤ 255 := by omega
        have hl2 : (0 : Int) ≤ (l.length : Int) := by omega
        go_region
        generalize W7.drew.setCells U 0 (l.map fun x => Value.int .u8 (x.toNat : Int)) = W8 at hH hR8 hb8 ⊢
        have hH8 := hH.from hpre
        clear hH hcp g7 hb7 HW7 HX7 HR7
        go_wp2_with fail
        go_loopw [6] (fun i wr => ∃ (m : Nat), m ≤ l.length ∧ i = .int .i64 m ∧ HalfC wr U l m ∧ wr.heap[w.heap.size + 1]? = some (.cells #[.string ⟨#[]⟩] 43 (0, 0)) ∧ Below w.heap.size w wr)
          (fun i _ => l.length - (intOf i).toNat)
        case atStart => exact ⟨k, by omega, rfl, hH8, hR8, hb8⟩
        case round =>
          obtain ⟨m, hm, rfl, hHm, hRm, hbm⟩ := hrel
          have HRm : Hid (wr.heap[w.heap.size + 1]? = some (.cells #[.string ⟨#[]⟩] 43 (0, 0))) := hRm
          have gR : wr.cell? ⟨w.heap.size + 1, 0, none⟩ = some (.string ⟨#[]⟩) := (cell_of_row wr (w.heap.size + 1) 0 _ _ _ hRm).trans rfl
          have fR : wr.frozen? ⟨w.heap.size + 1, 0, none⟩ = false := frozen_of_row wr _ 0 _ _ hRm
          clear hRm hR8 hb8 hH8 hq hke hz2 hz3 hr
          by_cases hmt : m < l.length
          · obtain ⟨gU, fU⟩ := hHm m hmt
            rw [if_neg (by omega)] at gU
            have hu := l[m].toNat_lt
            go_wp2_with (go_at_call 17; refine (fold_b _ _).mono ?_; rintro e w' ⟨rfl, rfl⟩)
            go_roundw
            case rel => exact ⟨m + 1, by omega, by go_num, hHm.step hmt, (heap_setCell_other _ _ _ _ (by show w.heap.size + 1 ≠ U; omega)).trans HRm.out, hbm.setCell hUb _⟩
            case measure => simp [intOf]; omega
          · have e : m = l.length := by omega
            have hcv := convC wr U 255 l (e ▸ hHm)
            clear e
            have hres := World.cell?_setCell_same wr ⟨w.heap.size + 1, 0, none⟩ (.string ⟨(canonL l).toArray⟩) gR
            go_wp2
            exact bodyPost_ret (v := .agg #[.string ⟨(canonL l).toArray⟩]) (by simp [results, Yba.results19, go_sem, hres]) rfl ⟨rfl, hbm.setCell (by simp) _⟩
    · have hlt' : decide ((k : Int) < (l.length : Int)) = false := decide_eq_false (by omega)
      have hkl : k = l.length := by omega
      have hke : ((k : Int) == (l.length : Int)) = true := by rw [beq_iff_eq]; omega
      have hsame := canonL_same l (fun j hj => hpre j hj (by omega))
      have HS : Hid (canonL l = l) := hsame
      clear hsame hkl
      go_wp2
      go_quiet (fail)
      go_wp2
      rw [HS.out]
      have hres := World.cell?_setCell_same (wr.drewN nq) ⟨w.heap.size + 1, 0, none⟩ (.string ⟨l.toArray⟩) gR
      exact bodyPost_ret (v := .agg #[.string ⟨l.toArray⟩]) (by simp [results, Yba.results19, go_sem, hres]) rfl ⟨rfl, (hbel.trans (b := wr) (c := wr.drewN nq) ⟨rfl, rfl, rfl, Nat.le_refl _, fun _ _ => rfl⟩).setCell (by simp) _⟩
end Go.Proofs.Ybulkbasw
