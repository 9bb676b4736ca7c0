import Derived.Test.YbulkbasiFmtF
import Derived.Laws.Externs
namespace Go.Proofs.YbulkbasiFmt
open Go.RowKit
set_option maxRecDepth 100000

def two (x : Nat) : ByteArray := ⟨#[(x / 256).toUInt8, (x % 256).toUInt8]⟩
theorem u8_ne {a b : Nat} (ha : a < 256) (hb : b < 256) : (a.toUInt8 != b.toUInt8) = decide (a ≠ b) := by
  have : (a.toUInt8 = b.toUInt8) ↔ a = b := by
    constructor
    · intro e
      have := congrArg UInt8.toNat e
      simp at this
      omega
    · rintro rfl; rfl
  by_cases h : a = b
  · simp [h]
  · have h' : a.toUInt8 ≠ b.toUInt8 := fun e => h (this.1 e)
    simp [h, h']
theorem u8_lt {a b : Nat} (ha : a < 256) (hb : b < 256) : (a.toUInt8 < b.toUInt8) ↔ a < b := by
  rw [UInt8.lt_iff_toNat_lt]
  simp
  omega
def cmpN (x y : Nat) : Int := if x < y then -1 else if y < x then 1 else 0
theorem cmp2 (x y : Nat) (hx : x < 65536) (hy : y < 65536) : Extern.BytealgCompare.cmp (two x) (two y) = cmpN x y := by
  have g0 : ∀ z, (two z)[0]! = (z / 256).toUInt8 := fun z => rfl
  have g1 : ∀ z, (two z)[1]! = (z % 256).toUInt8 := fun z => rfl
  have hr : List.range (min (two x).size (two y).size) = [0, 1] := rfl
  unfold Extern.BytealgCompare.cmp
  rw [hr]
  simp only [List.find?_cons, g0, g1, u8_ne (show x / 256 < 256 by omega) (show y / 256 < 256 by omega), u8_ne (show x % 256 < 256 by omega) (show y % 256 < 256 by omega), List.find?_nil]
  by_cases h1 : x / 256 = y / 256
  · simp only [h1, ne_eq, not_true_eq_false, decide_false]
    by_cases h2 : x % 256 = y % 256
    · have e : x = y := by omega
      subst e
      simp [cmpN]
    · simp only [h2, not_false_eq_true, decide_true]
      rw [g1, g1]
      unfold cmpN
      by_cases h3 : x % 256 < y % 256
      · rw [if_pos ((u8_lt (by omega) (by omega)).2 h3), if_pos (by omega)]
      · rw [if_neg (fun e => h3 ((u8_lt (by omega) (by omega)).1 e)), if_neg (by omega), if_pos (by omega)]
  · simp only [h1, ne_eq, not_false_eq_true, decide_true]
    rw [g0, g0]
    unfold cmpN
    by_cases h3 : x / 256 < y / 256
    · rw [if_pos ((u8_lt (by omega) (by omega)).2 h3), if_pos (by omega)]
    · rw [if_neg (fun e => h3 ((u8_lt (by omega) (by omega)).1 e)), if_neg (by omega), if_pos (by omega)]

theorem run_bytesOf2 {w : World} {a : Option Addr} {c x : Nat} (h : Sl w a c [x / 256, x % 256]) : (Extern.Bytes.bytesOf (.slice a 2 c)).run Ybaf.prog w = .ok (two x) w := by
  obtain ⟨g, o, rfl, hl⟩ := h.form (by simp)
  have c0 : w.cell? ⟨g, o, none⟩ = some (bV (x / 256)) := hl.cell 0 (by simp)
  have c1 : w.cell? ⟨g, o + 1, none⟩ = some (bV (x % 256)) := hl.cell 1 (by simp)
  simp [Extern.Bytes.bytesOf, Extern.Bytes.loadBytes, go_sem, c0, c1]
  rfl
theorem call46 (args : Array Value) (w : World) : (callFunc 46 args).run Ybaf.prog w = ((Extern.BytealgCompare.compare args).run Ybaf.prog w).andThen fun v w' => .ok (.value v) w' :=
  run_callFunc_extern Ybaf.func46 (by kernel_rfl) (by kernel_rfl) (by kernel_rfl) (by kernel_rfl) args w

set_option maxHeartbeats 400000 in
theorem compare_any (w : World) (a b : Option Addr) (c d x y : Nat) (ha : Sl w a c [x / 256, x % 256]) (hb : Sl w b d [y / 256, y % 256]) (hx : x < 65536) (hy : y < 65536) :
    Calls Ybaf.prog 28 #[.slice a 2 c, .slice b 2 d] w fun e w' => e = .returned (.int .i64 (cmpN x y)) ∧ w' = w := by
  have hc : (callFunc 46 #[.slice a 2 c, .slice b 2 d]).run Ybaf.prog w = .ok (.value (.int .i64 (cmpN x y))) w := by
    rw [call46, ← cmp2 x y hx hy]
    have e : (Extern.BytealgCompare.compare #[.slice a 2 c, .slice b 2 d]).run Ybaf.prog w = (do pure (goInt (Extern.BytealgCompare.cmp (← Extern.Bytes.bytesOf (.slice a 2 c)) (← Extern.Bytes.bytesOf (.slice b 2 d)))) : Sem Value).run Ybaf.prog w := rfl
    rw [e]
    simp only [Sem.run_bind, run_bytesOf2 ha, run_bytesOf2 hb, Result.andThen_ok, Sem.run_pure, goInt]
  clear ha hb
  go_enter Ybaf.func28, Ybaf.ntmps28
  go_wp2
  go_ret
  exact ⟨rfl, rfl⟩
end Go.Proofs.YbulkbasiFmt
