import Derived.Test.YbulkbaswFold
import Derived.Test.YbulkbaswWord
namespace Go.Proofs.Ybulkbasw
open Go.RowKit

/-- The letter at k in "aAbB". -/
def alB (k : Int) : UInt8 := if k = 0 then 97 else if k = 1 then 65 else if k = 2 then 98 else 66
/-- The wire form that 'zzs2596bname' makes. -/
def nameL (sel : Int) : List UInt8 :=
  if sel % 3 = 0 then [1, alB (sel / 4 % 4)] else if sel % 3 = 1 then [2, alB (sel / 4 % 4), alB (sel / 16 % 4)] else [3, alB (sel / 4 % 4), alB (sel / 16 % 4), alB (sel / 64 % 4)]

theorem and3 (x : Int) (h0 : 0 ≤ x) (h1 : x < 65536) : bits BinOp.and IntKind.u16 x 3 = x % 4 := by
  obtain ⟨n, rfl⟩ := Int.eq_ofNat_of_zero_le h0
  have := (bits_nat .u16 16 (by decide) wraps_u16 n 3 (by omega) (by omega)).1
  have e : n &&& 3 = n % 4 := Nat.and_two_pow_sub_one_eq_mod n 2
  rw [e] at this
  exact_mod_cast this

theorem idx (k : Int) (h0 : 0 ≤ k) (h1 : k < 4) (w : World) : (Instr.index 9 (.string ⟨#[97, 65, 98, 66]⟩) (.int .u16 k)).run Yba.prog w = .ok (.int .u8 (alB k).toNat) w := by
  rw [run_index_string (P := Yba.prog) w 9 _ .u16 k Yba.underlying9, dif_pos ⟨h0, h1⟩]
  have : k = 0 ∨ k = 1 ∨ k = 2 ∨ k = 3 := by omega
  rcases this with rfl | rfl | rfl | rfl <;> rfl

theorem conv (W : World) (B cap : Nat) (cs : Array Value) (fr : Nat × Nat) (l : List UInt8) (hB : W.heap[B]? = some (.cells cs 5 fr)) (hl : ∀ j (hj : j < l.length), cs[j]? = some (.int .u8 (l[j].toNat : Int))) :
    (convert 27 9 (.slice (some ⟨B, 0, none⟩) l.length cap)).run Yba.prog W = .ok (.string ⟨l.toArray⟩) W := by
  refine run_convert_bytes_back W 27 9 5 ⟨B, 0, none⟩ cap l Yba.underlying27 Yba.underlying5 Yba.underlying9 (fun j hj => ?_)
  have e : (⟨B, 0, none⟩ : Addr).add j = ⟨B, j, none⟩ := by unfold Addr.add; split <;> simp_all
  rw [e, cell_of_row W B j cs 5 fr hB]
  exact hl j hj

set_option maxHeartbeats 1000000 in
set_option maxRecDepth 100000 in
theorem name_any (sel : Int) (h0 : 0 ≤ sel) (h1 : sel ≤ 65535) (w : World) : Calls Yba.prog 13 #[.int .u16 sel] w fun e w' => e = .returned (.string ⟨(nameL sel).toArray⟩) ∧ Below w.heap.size w w' := by
  have hmk : ∀ w, (Instr.makeSlice 27 (.int .i64 0) (.int .i64 4)).run Yba.prog w = .ok (.slice (some ⟨w.heap.size, 0, none⟩) 0 4) (w.alloc (.cells #[.int .u8 0, .int .u8 0, .int .u8 0, .int .u8 0] 5)) := fun _ => by kernel_rfl
  have a1 := and3 (sel / 4) (by omega) (by omega)
  have a2 := and3 (sel / 16) (by omega) (by omega)
  have a3 := and3 (sel / 64) (by omega) (by omega)
  have i1 := idx (sel / 4 % 4) (by omega) (by omega)
  have i2 := idx (sel / 16 % 4) (by omega) (by omega)
  have i3 := idx (sel / 64 % 4) (by omega) (by omega)
  unfold nameL
  generalize alB (sel / 4 % 4) = b1 at *
  generalize alB (sel / 16 % 4) = b2 at *
  generalize alB (sel / 64 % 4) = b3 at *
  have h3 : sel % 3 = 0 ∨ sel % 3 = 1 ∨ sel % 3 = 2 := by omega
  rcases h3 with h3 | h3 | h3
  · rw [if_pos h3]
    have hcv := conv (((w.alloc (.cells #[.int .u8 1, .int .u8 (b1.toNat : Int), .int .u8 0, .int .u8 0] 5)).alloc (.cells #[.int .u8 1] 5)).alloc (.cells #[.int .u8 (b1.toNat : Int)] 5)) w.heap.size 4 #[.int .u8 1, .int .u8 (b1.toNat : Int), .int .u8 0, .int .u8 0] (0, 0) [(1 : UInt8), b1] ((Below.heap_alloc _ _ _ (by simp; omega)).trans ((Below.heap_alloc _ _ _ (by simp)).trans (heap_alloc_new w _))) (by
      intro j hj
      match j, hj with
      | 0, _ => rfl
      | 1, _ => rfl)
    simp only [List.length_cons, List.length_nil, Nat.zero_add, Nat.reduceAdd] at hcv
    go_enter Yba.func13, Yba.ntmps13
    go_wp2
    refine wp_loop_rounds 2 ?_
    rw [rounds_succ]
    go_wp2
    rw [rounds_succ]
    go_wp2
    go_ret
    exact ⟨rfl, (((Below.refl _ w).alloc (Nat.le_refl _) _).alloc (by simp) _).alloc (by simp; omega) _⟩
  · rw [if_neg (by omega), if_pos h3]
    have hcv := conv ((((w.alloc (.cells #[.int .u8 2, .int .u8 (b1.toNat : Int), .int .u8 (b2.toNat : Int), .int .u8 0] 5)).alloc (.cells #[.int .u8 2] 5)).alloc (.cells #[.int .u8 (b1.toNat : Int)] 5)).alloc (.cells #[.int .u8 (b2.toNat : Int)] 5)) w.heap.size 4 #[.int .u8 2, .int .u8 (b1.toNat : Int), .int .u8 (b2.toNat : Int), .int .u8 0] (0, 0) [(2 : UInt8), b1, b2] ((Below.heap_alloc _ _ _ (by simp; omega)).trans ((Below.heap_alloc _ _ _ (by simp; omega)).trans ((Below.heap_alloc _ _ _ (by simp)).trans (heap_alloc_new w _)))) (by
      intro j hj
      match j, hj with
      | 0, _ => rfl
      | 1, _ => rfl
      | 2, _ => rfl)
    simp only [List.length_cons, List.length_nil, Nat.zero_add, Nat.reduceAdd] at hcv
    go_enter Yba.func13, Yba.ntmps13
    go_wp2
    refine wp_loop_rounds 3 ?_
    rw [rounds_succ]
    go_wp2
    rw [rounds_succ]
    go_wp2
    rw [rounds_succ]
    go_wp2
    go_ret
    exact ⟨rfl, ((((Below.refl _ w).alloc (Nat.le_refl _) _).alloc (by simp) _).alloc (by simp; omega) _).alloc (by simp; omega) _⟩
  · rw [if_neg (by omega), if_neg (by omega)]
    have hcv := conv (((((w.alloc (.cells #[.int .u8 3, .int .u8 (b1.toNat : Int), .int .u8 (b2.toNat : Int), .int .u8 (b3.toNat : Int)] 5)).alloc (.cells #[.int .u8 3] 5)).alloc (.cells #[.int .u8 (b1.toNat : Int)] 5)).alloc (.cells #[.int .u8 (b2.toNat : Int)] 5)).alloc (.cells #[.int .u8 (b3.toNat : Int)] 5)) w.heap.size 4 #[.int .u8 3, .int .u8 (b1.toNat : Int), .int .u8 (b2.toNat : Int), .int .u8 (b3.toNat : Int)] (0, 0) [(3 : UInt8), b1, b2, b3] ((Below.heap_alloc _ _ _ (by simp; omega)).trans ((Below.heap_alloc _ _ _ (by simp; omega)).trans ((Below.heap_alloc _ _ _ (by simp; omega)).trans ((Below.heap_alloc _ _ _ (by simp)).trans (heap_alloc_new w _))))) (by
      intro j hj
      match j, hj with
      | 0, _ => rfl
      | 1, _ => rfl
      | 2, _ => rfl
      | 3, _ => rfl)
    simp only [List.length_cons, List.length_nil, Nat.zero_add, Nat.reduceAdd] at hcv
    go_enter Yba.func13, Yba.ntmps13
    go_wp2
    refine wp_loop_rounds 4 ?_
    rw [rounds_succ]
    go_wp2
    rw [rounds_succ]
    go_wp2
    rw [rounds_succ]
    go_wp2
    rw [rounds_succ]
    go_wp2
    go_ret
    exact ⟨rfl, (((((Below.refl _ w).alloc (Nat.le_refl _) _).alloc (by simp) _).alloc (by simp; omega) _).alloc (by simp; omega) _).alloc (by simp; omega) _⟩
end Go.Proofs.Ybulkbasw
