import Derived.Test.YbulkbaswRows
import Derived.WalkKit
import Derived.WalkSpells
namespace Go.Proofs.Ybulkbasw
open Go.RowKit

/-- What holds of every number from 0 to 255 (looked at one by one by the kernel) holds of a byte. -/
theorem all_u8 (p : Int → Bool) (h : ∀ n : Fin 256, p (n.val : Int) = true) (a : Int) (h0 : 0 ≤ a) (h1 : a ≤ 255) : p a = true := by
  have := h ⟨a.toNat, by omega⟩
  simpa [Int.toNat_of_nonneg h0] using this

/-- 'fold', in plain words. -/
def fo (c : Int) : Int := if 65 ≤ c ∧ c ≤ 90 then c + 32 else c

theorem fo_bd (c : Int) (h0 : 0 ≤ c) (h1 : c ≤ 255) : 0 ≤ fo c ∧ fo c ≤ 255 := by unfold fo; split <;> omega
theorem fo_fo (c : Int) : fo (fo c) = fo c := by unfold fo; by_cases h : 65 ≤ c ∧ c ≤ 90 <;> simp [h] <;> omega

set_option maxHeartbeats 400000 in
theorem fold_any (c : Int) (h0 : 0 ≤ c) (h1 : c ≤ 255) (w : World) : Calls Yba.prog 17 #[.int .u8 c] w fun e w' => e = .returned (.int .u8 (fo c)) ∧ w' = w := by
  unfold fo
  by_cases h2 : 65 ≤ c
  · by_cases h3 : c ≤ 90
    · rw [if_pos ⟨h2, h3⟩]
      go_enter Yba.func17, Yba.ntmps17
      go_wp2
      go_ret
      exact ⟨rfl, rfl⟩
    · rw [if_neg (by omega)]
      have h4 : decide (c ≤ 90) = false := decide_eq_false h3
      go_enter Yba.func17, Yba.ntmps17
      go_wp2
      go_ret
      exact ⟨rfl, rfl⟩
  · rw [if_neg (by omega)]
    have h4 : decide (65 ≤ c) = false := decide_eq_false h2
    go_enter Yba.func17, Yba.ntmps17
    go_wp2
    go_ret
    exact ⟨rfl, rfl⟩
end Go.Proofs.Ybulkbasw
