import Derived.Test.YbulkbaswRows
import Derived.WalkKit
import Derived.ProofKit
import Derived.OpenShut
import Derived.ShutString
import Derived.ChangeOld
import Derived.Below
import Derived.Deep.SlicePairs
namespace Go.Proofs.Ybulkbasw
open Go.ChangeShapes Go.WideShapes Go.ChangeAt Go.RowKit

theorem addr_add (b off j : Nat) : (⟨b, off, none⟩ : Addr).add j = ⟨b, off + j, none⟩ := by
  unfold Addr.add
  split <;> simp_all

/-- What the walk is told of the puts that came in: nil, or a row of pairs. -/
def IsPuts (w : World) (a : Option Addr) (len : Nat) (sel val : Nat → Int) : Prop :=
  (len ≤ maxLen) ∧ (len = 0 ∨
  ∃ b off, a = some ⟨b, off, none⟩ ∧ b < w.heap.size ∧ (∀ j, j < len → w.cell? ⟨b, off + j * 2, none⟩ = some (.int .u16 (sel j))) ∧ (∀ j, j < len → w.cell? ⟨b, off + j * 2 + 1, none⟩ = some (.int .i64 (val j))) ∧ ∀ j, j < len → 0 ≤ sel j ∧ sel j ≤ 65535)

theorem own : ownKnob Yba.prog.godebug = none := by kernel_rfl
theorem laidOut : laidOutB Yba.prog = true := by kernel_rfl

set_option maxRecDepth 100000 in
theorem open_puts {H : Type} {enc : TypeId × Value → H} {W : World} {a1 : Option Addr} {len1 cap1 : Nat} {d1 : DataW H} {p1 : List MemPlace} (h1 : DataW.Trod enc Yba.prog W 0 (fun _ => true) true 32 (.slice a1 len1 cap1) d1 p1) : ∃ sel val, IsPuts W a1 len1 sel val := by
  obtain ⟨fuel, hf⟩ := h1
  rcases Deep.open_slice_pairs Yba.underlying32 Yba.underlying39 (by kernel_rfl) rfl rfl (by kernel_rfl) (by kernel_rfl) hf with ⟨hcs, _⟩ | ⟨x, l, c, m, n, V0, V1, D0, D1, P0, P1, hcs, _, hl, hm, hmm, _, hcell⟩
  · simp [Value.cells] at hcs
    obtain ⟨rfl, rfl, rfl⟩ := hcs
    exact ⟨fun _ => 0, fun _ => 0, by simp [maxLen], .inl rfl⟩
  · simp [Value.cells] at hcs
    obtain ⟨rfl, rfl, rfl⟩ := hcs
    simp only [if_true] at hmm
    subst hmm
    by_cases hz : len1 = 0
    · exact ⟨fun _ => 0, fun _ => 0, by omega, .inl hz⟩
    have hspot : x.spot = none := by simpa [Addr.add] using World.cell?_spot (hcell 0 (by omega)).1
    obtain ⟨b, off, spot⟩ := x
    simp only at hspot
    subst hspot
    have hv : ∀ j, j < len1 → ∃ q : Int × Int, V0 j = .int .u16 q.1 ∧ V1 j = .int .i64 q.2 ∧ (Lit.int .u16 q.1).wf = true := by
      intro j hj
      obtain ⟨_, _, t0, t1⟩ := hcell j (by omega)
      obtain ⟨x0, e0, _, wf0⟩ := DataW.trod_int Yba.underlying37 t0
      obtain ⟨x1, e1, _, wf1⟩ := DataW.trod_int Yba.underlying3 t1
      exact ⟨(x0, x1), by simpa using e0, by simpa using e1, wf0⟩
    obtain ⟨q, hq⟩ := Deep.choose_lt hv
    refine ⟨fun j => (q j).1, fun j => (q j).2, by omega, .inr ⟨b, off, rfl, World.block_lt_of_cell? W _ (hcell 0 (by omega)).1, ?_, ?_, ?_⟩⟩
    · intro j hj
      have := (hcell j (by omega)).1
      rw [(hq j hj).1] at this
      rwa [addr_add] at this
    · intro j hj
      have := (hcell j (by omega)).2.1
      rw [(hq j hj).2.1] at this
      rwa [addr_add, ← Nat.add_assoc] at this
    · intro j hj
      have := bounds_u16 (hq j hj).2.2
      omega
end Go.Proofs.Ybulkbasw
