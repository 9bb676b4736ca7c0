import Derived.Test.YbulkbaswNames
import Derived.Lib.ConvBytes
namespace Go.Proofs.Ybulkbasw
open Go.RowKit

/-- 'fold' on octets. -/
def foB (b : UInt8) : UInt8 := if 65 ≤ b ∧ b ≤ 90 then b + 32 else b
theorem foB_int (b : UInt8) : ((foB b).toNat : Int) = fo (b.toNat : Int) := by
  unfold foB fo
  have e : (65 ≤ b ∧ b ≤ 90) ↔ (65 ≤ (b.toNat : Int) ∧ (b.toNat : Int) ≤ 90) := by
    simp [UInt8.le_iff_toNat_le]; omega
  by_cases h : 65 ≤ b ∧ b ≤ 90
  · rw [if_pos h, if_pos (e.1 h)]
    have h1 : b.toNat ≤ 90 := by simpa [UInt8.le_iff_toNat_le] using h.2
    rw [UInt8.toNat_add]
    have : (32 : UInt8).toNat = 32 := rfl
    omega
  · rw [if_neg h, if_neg (fun x => h (e.2 x))]
def canonL (l : List UInt8) : List UInt8 := l.map foB

theorem setIf_get (cur : Array Value) (k j : Nat) (v : Value) (hk : k < cur.size) : (cur.setIfInBounds k v)[j]? = if j = k then some v else cur[j]? := by
  by_cases h : j = k
  · subst h; simp [hk]
  · rw [if_neg h, Array.getElem?_setIfInBounds_ne (fun e => h e.symm)]

/-- The block while the loop runs: the first k octets are folded. -/
def Half (l : List UInt8) (k : Nat) (cur : Array Value) : Prop := l.length ≤ cur.size ∧ ∀ j (hj : j < l.length), cur[j]? = some (.int .u8 ((if j < k then foB l[j] else l[j]).toNat : Int))

theorem Half.step {l : List UInt8} {k : Nat} {cur : Array Value} (h : Half l k cur) (hk : k < l.length) (v : Value) (hv : v = .int .u8 ((foB l[k]).toNat : Int)) : Half l (k + 1) (cur.setIfInBounds k v) := by
  refine ⟨by simpa using h.1, fun j hj => ?_⟩
  rw [setIf_get cur k j v (by have := h.1; omega)]
  by_cases e : j = k
  · subst e; rw [if_pos rfl, if_pos (by omega), hv]
  · rw [if_neg e, h.2 j hj]
    by_cases e2 : j < k
    · rw [if_pos e2, if_pos (by omega)]
    · rw [if_neg e2, if_neg (by omega)]
theorem Half.same {l : List UInt8} {k : Nat} {cur : Array Value} (h : Half l k cur) (hk : k < l.length) (hf : foB l[k] = l[k]) : Half l (k + 1) cur := by
  refine ⟨h.1, fun j hj => ?_⟩
  rw [h.2 j hj]
  by_cases e : j = k
  · subst e; rw [if_neg (by omega), if_pos (by omega), hf]
  · by_cases e2 : j < k
    · rw [if_pos e2, if_pos (by omega)]
    · rw [if_neg e2, if_neg (by omega)]

theorem setCell_mark (w : World) (g i : Nat) (cs : Array Value) (t : TypeId) (f : Nat × Nat) (v : Value) (hg : w.heap[g]? = some (.cells cs t f)) :
    (w.setCell ⟨g, i, none⟩ v).heap[g]? = some (.cells (cs.setIfInBounds i v) t f) := by
  rw [setCell_eq_setRow w g i cs t f v hg]
  exact setRow_heap w g cs _ t _ hg

set_option maxHeartbeats 1000000 in
set_option maxRecDepth 100000 in
theorem canon_any (l : List UInt8) (hl : l.length ≤ 1000) (w : World) : Calls Yba.prog 15 #[.string ⟨l.toArray⟩] w fun e w' => e = .returned (.string ⟨(canonL l).toArray⟩) ∧ Below w.heap.size w w' := by
  have hcv := fun w s => Lib.run_convert_string_bytes (P := Yba.prog) w 9 27 5 s Yba.underlying9 Yba.underlying27 Yba.underlying5
  have hz : (ByteArray.mk l.toArray).size = l.length := by simp [ByteArray.size]
  go_enter Yba.func15, Yba.ntmps15
  go_wp2
  have hb0 : Below w.heap.size w (Lib.bytesWorld w 5 ⟨l.toArray⟩) := by
    refine ⟨rfl, rfl, rfl, ?_, fun k hk => Lib.bytesWorld_at_old w 5 ⟨l.toArray⟩ k hk⟩
    have := Lib.bytesWorld_size w 5 ⟨l.toArray⟩
    omega
  have hc0 := Lib.bytesWorld_at_new w 5 ⟨l.toArray⟩
  have hh0 : Half l 0 (Lib.bytesCells w 5 ⟨l.toArray⟩) := by
    refine ⟨by simp [Lib.bytesCells], fun j hj => ?_⟩
    simp [Lib.bytesCells, Array.getElem?_append, hj]
  have hs0 : (Lib.bytesCells w 5 ⟨l.toArray⟩).size = (Lib.bytesCells w 5 ⟨l.toArray⟩).size := rfl
  go_loopw [4] (fun i wr => ∃ (k : Nat) (cur : Array Value), k ≤ l.length ∧ i = .int .i64 k ∧ wr.heap[w.heap.size]? = some (.cells cur 5 ((Lib.bytesCells w 5 ⟨l.toArray⟩).size, (Lib.bytesCells w 5 ⟨l.toArray⟩).size + 1)) ∧ Half l k cur ∧ l.length ≤ (Lib.bytesCells w 5 ⟨l.toArray⟩).size ∧ Below w.heap.size w wr)
    (fun i _ => l.length - (intOf i).toNat)
  case atStart => exact ⟨0, _, Nat.zero_le _, rfl, hc0, hh0, hh0.1, hb0⟩
  case round =>
    obtain ⟨k, cur, hk, rfl, hB, hH, hM, hbel⟩ := hrel
    by_cases hlt : k < l.length
    · have hcell : wr.cell? ⟨w.heap.size, k, none⟩ = some (.int .u8 (l[k].toNat : Int)) := by
        rw [cell_of_row wr w.heap.size k cur 5 _ hB, hH.2 k hlt, if_neg (by omega)]
      have hfz : wr.frozen? ⟨w.heap.size, k, none⟩ = false := by
        simp only [World.frozen?, hB]
        simp
        omega
      have hr : (l[k].toNat : Int) < 256 := by have := l[k].toNat_lt; omega
      have hfo := foB_int l[k]
      by_cases h65 : 65 ≤ (l[k].toNat : Int)
      · by_cases h90 : (l[k].toNat : Int) ≤ 90
        · have HF : Hid (((foB l[k]).toNat : Int) = (l[k].toNat : Int) + 32) := by unfold fo at hfo; rw [if_pos ⟨h65, h90⟩] at hfo; exact hfo
          have HB : Hid (wr.heap[w.heap.size]? = some (.cells cur 5 ((Lib.bytesCells w 5 ⟨l.toArray⟩).size, (Lib.bytesCells w 5 ⟨l.toArray⟩).size + 1))) := hB
          clear hfo hB
          go_wp2
          go_roundw
          case rel => exact ⟨k + 1, _, by omega, by go_num, setCell_mark _ _ _ _ _ _ _ HB.out, hH.step hlt _ (by rw [HF.out]), hM, hbel.setCell (Nat.le_refl _) _⟩
          case measure => simp [intOf]; omega
        · have HF : Hid (foB l[k] = l[k]) := by
            unfold fo at hfo
            rw [if_neg (by omega)] at hfo
            exact UInt8.toNat_inj.1 (by omega)
          have h90' : decide ((l[k].toNat : Int) ≤ 90) = false := decide_eq_false h90
          have HB : Hid (wr.heap[w.heap.size]? = some (.cells cur 5 ((Lib.bytesCells w 5 ⟨l.toArray⟩).size, (Lib.bytesCells w 5 ⟨l.toArray⟩).size + 1))) := hB
          clear hfo hB
          go_wp2
          go_roundw
          case rel => exact ⟨k + 1, _, by omega, by go_num, HB.out, hH.same hlt HF.out, hM, hbel⟩
          case measure => simp [intOf]; omega
      · have HF : Hid (foB l[k] = l[k]) := by
          unfold fo at hfo
          rw [if_neg (by omega)] at hfo
          exact UInt8.toNat_inj.1 (by omega)
        have h65' : decide (65 ≤ (l[k].toNat : Int)) = false := decide_eq_false h65
        have HB : Hid (wr.heap[w.heap.size]? = some (.cells cur 5 ((Lib.bytesCells w 5 ⟨l.toArray⟩).size, (Lib.bytesCells w 5 ⟨l.toArray⟩).size + 1))) := hB
        clear hfo hB
        go_wp2
        go_roundw
        case rel => exact ⟨k + 1, _, by omega, by go_num, HB.out, hH.same hlt HF.out, hM, hbel⟩
        case measure => simp [intOf]; omega
    · have hkl : k = l.length := by omega
      have hfin := conv wr w.heap.size (grownCap w l.length 0 5) cur _ (canonL l) hB (by
        intro j hj
        have hj' : j < l.length := by simpa [canonL] using hj
        rw [hH.2 j hj', if_pos (by omega)]
        simp [canonL])
      have e : (canonL l).length = l.length := by simp [canonL]
      rw [e] at hfin
      clear hB hH
      go_wp2
      go_ret
      exact ⟨rfl, hbel⟩
end Go.Proofs.Ybulkbasw
