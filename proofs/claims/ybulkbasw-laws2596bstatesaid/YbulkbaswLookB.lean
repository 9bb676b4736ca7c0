import Derived.Test.YbulkbaswLook
import Derived.Deep.RegionWith
import Derived.Deep.Onto
namespace Go.Proofs.Ybulkbasw
open Go.RowKit

set_option maxHeartbeats 2000000 in
set_option maxRecDepth 100000 in
theorem lookup_any (N T M1 M2 : Nat) (K : List Key) (S : List (List UInt8 × Nat × Nat)) (kv : Value) (V : List (Value × Value)) (l : List UInt8) (w : World) (h : TabOk w N T M1 M2 0 K S kv V) (hl : l.length ≤ 200) (hK2 : ∀ k ∈ K, k.pts.length ≤ 2000 ∧ k.pts ≠ [] ∧ ∀ p ∈ k.pts, p.2 < k.sps.length) :
    Calls Yba.prog 16 #[.pointer (some ⟨T, 0, none⟩), .agg #[strV l]] w fun e w' => Below w.heap.size w w' ∧ ((K.findIdx? (fun k => k.canon == canonL l) = none ∧ e = .returned (.slice none 0 0)) ∨
      ∃ i k g xs, K.findIdx? (fun k => k.canon == canonL l) = some i ∧ K[i]? = some k ∧ e = .returned (.slice (some ⟨g, 0, none⟩) k.pts.length k.pts.length) ∧ w'.ownsRow w.heap.size 66 2 (.slice (some ⟨g, 0, none⟩) k.pts.length k.pts.length) k.pts.length xs ∧ Filled k k.pts.length xs) := by
  have hfd : ∀ (v : ByteArray) (w : World), (Instr.field 43 (.agg #[.string v]) 0).run Yba.prog w = .ok (.string v) w := fun _ _ => by kernel_rfl
  go_enter Yba.func16, Yba.ntmps16
  refine wp_seqS fun K1 hK1 => ?_
  go_wp2_with fail
  have kA : Keeps (fun _ => True) w (w.alloc (.cells #[strV l] 43)) := (Keeps.refl _ w).alloc _
  have bA : Below w.heap.size w (w.alloc (.cells #[strV l] 43)) := (Below.refl _ w).alloc (Nat.le_refl _) _
  have xA : (w.alloc (.cells #[strV l] 43)).heap[w.heap.size]? = some (.cells #[strV l] 43 (0, 0)) := heap_alloc_new _ _
  have h1 := h.keeps (kA.mono (by simp))
  unfold wpS
  generalize w.alloc (.cells #[strV l] 43) = w1 at kA bA xA h1 ⊢
  generalize hX : w.heap.size = X at xA bA ⊢
  have HX : Hid (w.heap.size = X) := hX
  clear hX
  have gX : w1.cell? ⟨X, 0, none⟩ = some (strV l) := (cell_of_row w1 X 0 _ _ _ xA).trans rfl
  have gT2 : w1.cell? ⟨T, 2, none⟩ = some (.map (some M1)) := (cell_of_row w1 T 2 _ _ _ h1.tb).trans rfl
  have hTl : T < w1.heap.size := lt_heap h1.tb
  have hMl : M1 < w1.heap.size := lt_heap h1.m1
  refine wp_seqS fun K2 hK2' => ?_
  cases hf : K.findIdx? fun k => k.canon == canonL l with
  | none =>
    have hlk0 : ∀ w : World, w.heap[M1]? = some (.map (mapA (keyL K)) (keyL K).length) → (Instr.lookup 51 (.map (some M1)) (strV (canonL l)) true).run Yba.prog w = .ok (.tuple #[.int .i64 0, .bool false]) w := fun w hw => run_lookup_none Yba.underlying51 Yba.zeroValue3 hw (by rw [look_keyL, hf]; rfl)
    have Hf : Hid (K.findIdx? (fun k => k.canon == canonL l) = none) := hf
    clear hf
    go_upto_region 1 with fail
    go_region_with (go_at_call 19; refine (canonical_s l hl _).mono ?_; rintro e w2 ⟨rfl, hb2⟩; have gT2' : w2.cell? ⟨T, 2, none⟩ = some (.map (some M1)) := (hb2.cell hTl).trans gT2; have hlk := hlk0 w2 ((hb2.block M1 hMl).trans h1.m1))
    all_goals
      have b2 : Below X w w2 := by have := HX.out; subst this; exact bA.drew.trans (hb2.mono bA.size)
      go_wp2_with fail
      unfold wpS
      refine wp_seqS fun K3 hK3 => ?_
      go_wp2
      go_ret
      exact ⟨b2, .inl ⟨Hf.out, rfl⟩⟩
  | some i =>
    have hlk0 : ∀ w : World, w.heap[M1]? = some (.map (mapA (keyL K)) (keyL K).length) → (Instr.lookup 51 (.map (some M1)) (strV (canonL l)) true).run Yba.prog w = .ok (.tuple #[.int .i64 (i : Int), .bool true]) w := fun w hw => run_lookup_some Yba.underlying51 hw (by rw [look_keyL, hf]; rfl)
    obtain ⟨hi, _, _⟩ := List.findIdx?_eq_some_iff_getElem.1 hf
    have Hf : Hid (K.findIdx? (fun k => k.canon == canonL l) = some i) := hf
    clear hf
    go_upto_region 1 with fail
    go_region_with (go_at_call 19; refine (canonical_s l hl _).mono ?_; rintro e w2 ⟨rfl, hb2⟩; have gT2' : w2.cell? ⟨T, 2, none⟩ = some (.map (some M1)) := (hb2.cell hTl).trans gT2; have hlk := hlk0 w2 ((hb2.block M1 hMl).trans h1.m1))
    all_goals
      have b2 : Below X w w2 := by have := HX.out; subst this; exact bA.drew.trans (hb2.mono bA.size)
      have h2 : TabOk w2 N T M1 M2 0 K S kv V := h1.keeps (fun x o ho _ => (hb2.block x (lt_heap ho)).trans ho)
      go_wp2_with fail
      unfold wpS
      refine wp_seqS fun K3 hK3 => ?_
      go_wp2_with fail
      unfold wpS
      obtain ⟨ka, kc, rfl⟩ := kv_form h2.keys
      obtain ⟨gk, rfl⟩ : ∃ gk, ka = some ⟨gk, 0, none⟩ := by
        rcases h2.keys.2 with ⟨_, e⟩ | ⟨g, cap, cur, e, _⟩
        · omega
        · simp at e; exact ⟨g, e.1⟩
      obtain ⟨q1, q2, q3⟩ := hK2 K[i] (List.getElem_mem hi)
      refine lookup_tail N T M1 M2 gk kc i K S V K[i] w2 _ h2 (by simp [hi]) q1 q2 q3 ?_ _ _ _ _ _ _ _ _ _ _ _ _ _ _ _ _ _ _ _ _ _ _ _ _ _ _ _ _ _ _ _ _ _ _ _ _ _ _ _ _ _ _ _ _ _ _ _ _ _ _ _ _ _ _ _ _ _ _ _ _ _ _ _ _ _ _ _ _ _ _ _ _ _ _ _ _ _ _ _ _ _ _ _ _ _
      intro g xs w' ho hfl hb
      have hX := HX.out
      subst hX
      refine ⟨b2.trans (hb.mono b2.size), .inr ⟨i, K[i], g, xs, Hf.out, by simp [hi], rfl, ?_, hfl⟩⟩
      exact ho.mono b2.size
end Go.Proofs.Ybulkbasw
