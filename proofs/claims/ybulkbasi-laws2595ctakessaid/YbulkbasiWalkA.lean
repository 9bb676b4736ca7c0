import Derived.Test.YbulkbasiRows
import Derived.Test.YbulkbasiLocks
import Derived.Conc.MuLone
import Derived.WalkKit
import Derived.WalkSpells
import Derived.Deep.QuietTactic
import Derived.BigQuiet
import Derived.RegionTactic
namespace Go.Proofs.Ybulkbasi
open Go.RowKit
open Go.MuLone

set_option maxHeartbeats 400000 in
theorem newBudget_any (n : Int) (w : World) :
    Calls Yba.prog 5 #[.int .i64 n] w fun e w' => e = .returned (.pointer (some ⟨w.heap.size, 0, none⟩)) ∧
      w' = w.alloc (.cells #[.int .i32 0, .int .u32 0, .int .i64 n, .slice none 0 0, .slice none 0 0, .slice none 0 0] 38) := by
  go_enter Yba.func5, Yba.ntmps5
  go_wp2
  go_ret
  exact ⟨rfl, rfl⟩

set_option maxHeartbeats 400000 in
theorem background_any (w : World) :
    Calls Yba.prog 14 #[] w fun e w' => e = .returned (.iface 73 (.agg #[])) ∧ w' = w := by
  go_enter Yba.func14, Yba.ntmps14
  go_wp2
  go_ret
  exact ⟨rfl, rfl⟩

set_option maxHeartbeats 400000 in
theorem new_any (s : ByteArray) (w : World) :
    Calls Yba.prog 15 #[.string s] w fun e w' => e = .returned (.iface 74 (.pointer (some ⟨w.heap.size, 0, none⟩))) ∧ w' = w.alloc (.cells #[.string s] 76) := by
  go_enter Yba.func15, Yba.ntmps15
  go_wp2
  go_ret
  exact ⟨rfl, rfl⟩

set_option maxHeartbeats 400000 in
theorem done_any (C : Nat) (x : Int) (ch : Value) (w : World) (h1 : w.cell? ⟨C, 1, none⟩ = some ch) (h3 : w.cell? ⟨C, 3, none⟩ = some (.int .i64 x)) (f3 : w.frozen? ⟨C, 3, none⟩ = false) :
    Calls Yba.prog 80 #[.pointer (some ⟨C, 0, none⟩)] w fun e w' => e = .returned ch ∧ w' = w.setCell ⟨C, 3, none⟩ (.int .i64 (wrap64 (x + 1))) := by
  go_enter Yba.func80, Yba.ntmps80
  go_wp2
  go_ret
  exact ⟨rfl, rfl⟩

set_option maxHeartbeats 400000 in
theorem err_any (C : Nat) (x : Int) (er : Value) (w : World) (h2 : w.cell? ⟨C, 2, none⟩ = some er) (h4 : w.cell? ⟨C, 4, none⟩ = some (.int .i64 x)) (f4 : w.frozen? ⟨C, 4, none⟩ = false) :
    Calls Yba.prog 81 #[.pointer (some ⟨C, 0, none⟩)] w fun e w' => e = .returned er ∧ w' = w.setCell ⟨C, 4, none⟩ (.int .i64 (wrap64 (x + 1))) := by
  go_enter Yba.func81, Yba.ntmps81
  go_wp2
  go_ret
  exact ⟨rfl, rfl⟩

end Go.Proofs.Ybulkbasi
