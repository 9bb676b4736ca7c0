import Derived.Test.YbulkbaswRows
import Derived.WalkKit
import Derived.WalkSpells
import Derived.Deep.QuietTactic
import Derived.BigQuiet
import Derived.Lib.Endian
import Derived.Lib.EndianBits
namespace Go.Proofs.Ybulkbasw
open Go.RowKit

theorem grown_drewN (w : World) (n : Nat) : Grown w (w.drewN n) := by
  have h := Grown.refl w
  exact h

/-- Octet i of s. -/
def oct (s : ByteArray) (i : Nat) : Int := ((s.data.toList[i]?.getD 0).toNat : Int)
theorem oct_bd (s : ByteArray) (i : Nat) : 0 ≤ oct s i ∧ oct s i < 256 := by
  unfold oct
  have := (s.data.toList[i]?.getD 0).toNat_lt
  omega
theorem run_index (s : ByteArray) (i : Nat) (h : i < s.size) (w : World) : (Instr.index 9 (.string s) (.int .i64 (i : Int))).run Yba.prog w = .ok (.int .u8 (oct s i)) w := by
  rw [run_index_string (P := Yba.prog) w 9 s .i64 i Yba.underlying9, dif_pos ⟨by omega, by omega⟩]
  have hl : i < s.data.toList.length := by simpa using h
  have e : ((s[(i : Int).toNat]'(by omega)).toNat : Int) = oct s i := by
    unfold oct
    rw [List.getElem?_eq_getElem hl]
    simp only [Int.toNat_natCast]
    rfl
  rw [e]

/-- The first eight octets, the first lowest. -/
def le8 (s : ByteArray) : Int := oct s 0 + oct s 1 * 256 + oct s 2 * 65536 + oct s 3 * 16777216 + oct s 4 * 4294967296 + oct s 5 * 1099511627776 + oct s 6 * 281474976710656 + oct s 7 * 72057594037927936

theorem or8 (c0 c1 c2 c3 c4 c5 c6 c7 : Int) (b0 : 0 ≤ c0 ∧ c0 < 256) (b1 : 0 ≤ c1 ∧ c1 < 256) (b2 : 0 ≤ c2 ∧ c2 < 256) (b3 : 0 ≤ c3 ∧ c3 < 256) (b4 : 0 ≤ c4 ∧ c4 < 256) (b5 : 0 ≤ c5 ∧ c5 < 256) (b6 : 0 ≤ c6 ∧ c6 < 256) (b7 : 0 ≤ c7 ∧ c7 < 256) :
    bits BinOp.or IntKind.u64 (bits BinOp.or IntKind.u64 (bits BinOp.or IntKind.u64 (bits BinOp.or IntKind.u64 (bits BinOp.or IntKind.u64 (bits BinOp.or IntKind.u64 (bits BinOp.or IntKind.u64 c0 (c1 * 256)) (c2 * 65536)) (c3 * 16777216)) (c4 * 4294967296)) (c5 * 1099511627776)) (c6 * 281474976710656)) (c7 * 72057594037927936) =
      c0 + c1 * 256 + c2 * 65536 + c3 * 16777216 + c4 * 4294967296 + c5 * 1099511627776 + c6 * 281474976710656 + c7 * 72057594037927936 := by
  simp (disch := omega) only [u64_or8, u64_or16, u64_or24, u64_or32, u64_or40, u64_or48, u64_or56]

set_option maxHeartbeats 2000000 in
set_option maxRecDepth 100000 in
theorem word_any (s : ByteArray) (h8 : 8 ≤ s.size) (w : World) :
    Calls Yba.prog 10 #[.string s] w fun e w' => e = .returned (.int .u64 (le8 s)) ∧ ∃ n, w' = w.drewN n := by
  have i0 := run_index s 0 (by omega)
  have i1 := run_index s 1 (by omega)
  have i2 := run_index s 2 (by omega)
  have i3 := run_index s 3 (by omega)
  have i4 := run_index s 4 (by omega)
  have i5 := run_index s 5 (by omega)
  have i6 := run_index s 6 (by omega)
  have i7 := run_index s 7 (by omega)
  have b0 := oct_bd s 0
  have b1 := oct_bd s 1
  have b2 := oct_bd s 2
  have b3 := oct_bd s 3
  have b4 := oct_bd s 4
  have b5 := oct_bd s 5
  have b6 := oct_bd s 6
  have b7 := oct_bd s 7
  unfold le8
  generalize oct s 0 = c0 at *
  generalize oct s 1 = c1 at *
  generalize oct s 2 = c2 at *
  generalize oct s 3 = c3 at *
  generalize oct s 4 = c4 at *
  generalize oct s 5 = c5 at *
  generalize oct s 6 = c6 at *
  generalize oct s 7 = c7 at *
  simp only [Int.cast_ofNat_Int] at i0 i1 i2 i3 i4 i5 i6 i7
  go_enter Yba.func10, Yba.ntmps10
  go_wp2
  go_quiet (fail)
  go_wp2
  go_ret
  exact ⟨congrArg (fun x => Ending.returned (Value.int IntKind.u64 x)) (or8 c0 c1 c2 c3 c4 c5 c6 c7 b0 b1 b2 b3 b4 b5 b6 b7), nq, rfl⟩

/-- 'zzs2596apad', in plain words. -/
def padB (s : ByteArray) : ByteArray := if 8 ≤ s.size then s else s ++ (ByteArray.mk #[113, 0, 255, 90, 128, 97, 127, 57]).extract 0 (8 - s.size)
theorem padB_size (s : ByteArray) : 8 ≤ (padB s).size := by
  unfold padB
  split
  · assumption
  · rw [ByteArray.size_append, ByteArray.size_extract]
    have : (ByteArray.mk #[113, 0, 255, 90, 128, 97, 127, 57]).size = 8 := rfl
    omega

set_option maxHeartbeats 400000 in
theorem pad_any (s : ByteArray) (w : World) : Calls Yba.prog 9 #[.string s] w fun e w' => e = .returned (.string (padB s)) ∧ w' = w := by
  unfold padB
  by_cases h : 8 ≤ s.size
  · rw [if_pos h]
    have h' : (8 : Int) ≤ (s.size : Int) := by omega
    go_enter Yba.func9, Yba.ntmps9
    go_wp2
    go_ret
    exact ⟨rfl, rfl⟩
  · rw [if_neg h]
    have h' : ¬ (8 : Int) ≤ (s.size : Int) := by omega
    have h1 : (0 : Int) ≤ 8 - (s.size : Int) := by omega
    have h2 : 8 - (s.size : Int) ≤ 8 := by omega
    go_enter Yba.func9, Yba.ntmps9
    go_wp2
    go_ret
    exact ⟨rfl, rfl⟩
end Go.Proofs.Ybulkbasw
