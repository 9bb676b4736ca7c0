import Derived.Test.YbulkbasiFmtEE
namespace Go.Proofs.YbulkbasiFmt
open Go.RowKit
set_option maxRecDepth 100000

set_option maxHeartbeats 4000000 in
/-- The law, whatever its input. -/
theorem law_any (w : World) (m : Nat) (cut : Bool) (sel : List Nat) (aS : Option Addr) (cS : Nat) (hm : m < 65536) (hsel : ∀ i (h : i < sel.length), ∃ b o, aS = some ⟨b, o, none⟩ ∧ w.cell? ⟨b, o + i, none⟩ = some (.int .u16 (sel[i] : Int))) (hs1 : ∀ s ∈ sel, s < 65536) :
    Calls Ybaf.prog 3 #[.int .u16 (m : Int), .bool cut, .slice aS sel.length cS] w fun e w' => e = .returned (.bool true) ∧ w.grownBy w' none := by
  have HS : Hid (∀ i (h : i < sel.length), ∃ b o, aS = some ⟨b, o, none⟩ ∧ w.cell? ⟨b, o + i, none⟩ = some (.int .u16 (sel[i] : Int))) := hsel
  have HS1 : Hid (∀ s ∈ sel, s < 65536) := hs1
  clear hsel hs1
  go_enter Ybaf.func3, Ybaf.ntmps3
  refine wp_seqS fun K1 hK1 => ?_
  go_wp2
  unfold wpS
  refine wp_seqS fun K2 hK2 => ?_
  by_cases hl : 1024 < sel.length
  · have hlI : (1024 : Int) < (sel.length : Int) := by omega
    go_wp2
    go_ret
    exact ⟨rfl, World.grownBy.refl _ _⟩
  have hlI : ¬ (1024 : Int) < (sel.length : Int) := by omega
  have HL : Hid (sel.length ≤ 1024) := by show sel.length ≤ 1024; omega
  go_wp2
  unfold wpS
  refine wp_seqS fun K3 hK3 => ?_
  go_wp2
  unfold wpS
  have hr : (w.alloc (.cells #[.int .i64 ((m : Int) % 128)] 3)).heap[w.heap.size]? = some (.cells #[.int .i64 ((m : Int) % 128)] 3 (0, 0)) := heap_alloc_new w _
  have hg : w.grownBy (w.alloc (.cells #[.int .i64 ((m : Int) % 128)] 3)) none := World.grownBy_alloc w _ none
  have hf : (w.alloc (.cells #[.int .i64 ((m : Int) % 128)] 3)).frozen? ⟨w.heap.size, 0, none⟩ = false := frozen_of_row _ _ 0 _ _ hr
  have dN : (w.alloc (.cells #[.int .i64 ((m : Int) % 128)] 3)).cell? ⟨w.heap.size, 0, none⟩ = some (.int .i64 ((m : Int) % 128)) := (cell_of_row _ _ 0 _ _ _ hr).trans rfl
  have hst : ∀ v, w.grownBy ((w.alloc (.cells #[.int .i64 ((m : Int) % 128)] 3)).setCell ⟨w.heap.size, 0, none⟩ v) none ∧ ((w.alloc (.cells #[.int .i64 ((m : Int) % 128)] 3)).setCell ⟨w.heap.size, 0, none⟩ v).heap[w.heap.size]? = some (.cells #[v] 3 (0, 0)) := fun v =>
    ⟨hg.andThen (gr_setCell _ ⟨w.heap.size, 0, none⟩ v).g (fun j hj => .inl (by have : w.heap.size = j := (by simpa using hj); omega)), heap_setCell_same _ _ 0 _ _ _ hr⟩
  generalize w.alloc (.cells #[.int .i64 ((m : Int) % 128)] 3) = W1 at *
  generalize w.heap.size = N at *
  have HST : Hid (∀ v, w.grownBy (W1.setCell ⟨N, 0, none⟩ v) none ∧ (W1.setCell ⟨N, 0, none⟩ v).heap[N]? = some (.cells #[v] 3 (0, 0))) := hst
  have HG : Hid (w.grownBy W1 none ∧ W1.heap[N]? = some (.cells #[.int .i64 ((m : Int) % 128)] 3 (0, 0))) := ⟨hg, hr⟩
  have HSK : Hid (∀ W, w.grownBy W none → ∀ i (h : i < sel.length), ∃ b o, aS = some ⟨b, o, none⟩ ∧ W.cell? ⟨b, o + i, none⟩ = some (.int .u16 (sel[i] : Int))) := fun W hW i h => by
    obtain ⟨b, o, e, hc⟩ := HS.out i h
    exact ⟨b, o, e, (hW.cell_far ⟨b, o + i, none⟩ (World.block_lt_of_cell? _ _ hc) (by simp)).trans hc⟩
  clear hst hg hr hl hlI
  have hm0 : (0 : Int) ≤ (m : Int) := by omega
  have hm1 : (m : Int) < 65536 := by omega
  refine wp_seqS fun K4 hK4 => ?_
  cases cut
  · go_wp2
    unfold wpS
    refine main_all W1 (m % 128) sel aS cS N (by omega) ?_ (HSK.out _ HG.out.1) HS1.out HL.out _ (fun w' h => ⟨rfl, HG.out.1.trans h⟩) _ _ _ _ _ _ _ _ _ _ _ _ _ _ _ _ _ _ _ _ _ _ _ _ _ _ _ _ _ _ _ _ _ _ _ _ _ _ _ _ _ _ _ _ _ _ _ _ _ _ _ _ _ _ _ _ _ _ _ _ _ _ _ _ _ _ _ _ _ _ _ _ _ _ _ _ _ _ _ _ _ _ _ _ _ _ _ _ _ _ _ _ _ _ _ _ _ _ _ _ _ _ _ _ _ _ _ _ _ _ _ _ _ _ _ _ _ _ _ _ _ _ _ _ _ _ _ _ _ _ _ _ _ _ _ _ _ _ _ _ _ _ _ _ _ _ _ _ _ _ _ _ _ _ _
    rw [HG.out.2]
    rfl
  · go_wp2
    unfold wpS
    refine main_all _ (128 + m % 272) sel aS cS N (by omega) ?_ (HSK.out _ (HST.out _).1) HS1.out HL.out _ (fun w' h => ⟨rfl, (HST.out _).1.trans h⟩) _ _ _ _ _ _ _ _ _ _ _ _ _ _ _ _ _ _ _ _ _ _ _ _ _ _ _ _ _ _ _ _ _ _ _ _ _ _ _ _ _ _ _ _ _ _ _ _ _ _ _ _ _ _ _ _ _ _ _ _ _ _ _ _ _ _ _ _ _ _ _ _ _ _ _ _ _ _ _ _ _ _ _ _ _ _ _ _ _ _ _ _ _ _ _ _ _ _ _ _ _ _ _ _ _ _ _ _ _ _ _ _ _ _ _ _ _ _ _ _ _ _ _ _ _ _ _ _ _ _ _ _ _ _ _ _ _ _ _ _ _ _ _ _ _ _ _ _ _ _ _ _ _ _ _
    rw [(HST.out _).2]
    have e : ((128 + m % 272 : Nat) : Int) = 128 + (m : Int) % 272 := by omega
    rw [e]
end Go.Proofs.YbulkbasiFmt
