import Derived.Test.YbulkbasiWalkH
import Derived.WideLaws
namespace Go.Proofs.Ybulkbasi
open Go.RowKit
open Go.MuLone

theorem neq_same (a : Addr) (w : World) : (binOp .neq 42 (.iface 74 (.pointer (some a))) (.iface 74 (.pointer (some a)))).run Yba.prog w = .ok (.bool false) w := by
  obtain ⟨i, hi, hc⟩ : ∃ i, Yba.prog.info? 74 = some i ∧ i.comparable = true := by
    have h : (Yba.prog.info? 74).map (·.comparable) = some true := by kernel_rfl
    obtain ⟨i, hi, hb⟩ := Option.map_eq_some_iff.1 h
    exact ⟨i, hi, hb⟩
  obtain ⟨j, hj⟩ : ∃ j, Yba.prog.info? 76 = some j := Option.isSome_iff_exists.1 (by kernel_rfl)
  simp only [binOp]
  simp [Op.equal, Op.maxDepth, run_equalIn_iface_ptr_same w 9998 a Yba.underlying42 Yba.underlying74 hi hc hj]

set_option maxHeartbeats 2000000 in
set_option maxRecDepth 100000 in
theorem law_long (free : Int) (a : Option Addr) (len cap : Nat) (hl : 1024 < len) (hm : len ≤ maxLen) (w : World) :
    Calls Yba.prog 3 #[.int .i64 free, .slice a len cap] w fun e w' => e = .returned (.bool true) ∧ Below w.heap.size w w' := by
  unfold maxLen at hm
  go_enter Yba.func3, Yba.ntmps3
  go_wp2
  go_ret
  exact ⟨rfl, Below.refl _ _⟩

set_option maxHeartbeats 2000000 in
set_option maxRecDepth 100000 in
theorem law_short (free : Int) (b off len cap : Nat) (op ns : Nat → Int) (hl : len ≤ 1024) (w : World) (hb : len ≠ 0 → b < w.heap.size)
    (hop : ∀ j, j < len → w.cell? ⟨b, off + j * 2, none⟩ = some (.int .u8 (op j))) (hns : ∀ j, j < len → w.cell? ⟨b, off + j * 2 + 1, none⟩ = some (.int .i64 (ns j))) (hop0 : ∀ j, j < len → 0 ≤ op j ∧ op j ≤ 255) :
    Calls Yba.prog 3 #[.int .i64 free, .slice (some ⟨b, off, none⟩) len cap] w fun e w' => e = .returned (.bool true) ∧ Below w.heap.size w w' := by
  have hl' : ¬ (1024 : Int) < (len : Int) := by omega
  have hq := neq_same
  go_enter Yba.func3, Yba.ntmps3
  go_wp2_with (go_at_call 5; refine (newBudget_any free w).mono ?_; rintro e w' ⟨rfl, rfl⟩)
  go_loopw [6, 19] (fun m i wr => ∃ (k : Nat) (mo : Int) (a : Option Addr) (c : Nat), k ≤ len ∧ i = .int .i64 k ∧ m = .int .i64 mo ∧ Bq wr w.heap.size 0 mo (.slice a 0 c) ∧ wr.ownsRow w.heap.size 44 1 (.slice a 0 c) 0 [] ∧ Below w.heap.size w wr)
    (fun _ i _ => len - (intOf i).toNat)
  case atStart => exact ⟨0, free, none, 0, Nat.zero_le _, rfl, rfl, heap_alloc_new _ _, World.ownsRow_nil _ _ _ _, (Below.refl _ _).alloc (Nat.le_refl _) _⟩
  case round =>
    obtain ⟨k, mo, a, c, hk, rfl, rfl, hB, hown, hbel⟩ := hrel
    by_cases hlt : k < len
    · have e0 : wr.cell? ⟨b, off + k * 2, none⟩ = some (.int .u8 (op k)) := (hbel.cell (hb (by omega))).trans (hop k hlt)
      have e1 : wr.cell? ⟨b, off + k * 2 + 1, none⟩ = some (.int .i64 (ns k)) := (hbel.cell (hb (by omega))).trans (hns k hlt)
      obtain ⟨p0, p1⟩ := hop0 k hlt
      have kS : Kp [] wr (wr.alloc (.cells #[.int .u8 (op k), .int .i64 (ns k)] 26)) := (Kp.refl _ _).alloc _
      have sS : (wr.alloc (.cells #[.int .u8 (op k), .int .i64 (ns k)] 26)).heap[wr.heap.size]? = some (.cells #[.int .u8 (op k), .int .i64 (ns k)] 26 (0, 0)) := heap_alloc_new _ _
      have bS := hB.kp kS (by simp)
      have oS := own_kp hown kS (by simp)
      have hSB : wr.heap.size ≠ w.heap.size := by have := hB.lt; omega
      have hN : w.heap.size ≤ wr.heap.size := hbel.size
      by_cases hodd : (op k % 2 == 1) = true
      · -- a give
        go_wp2_with fail
        refine (give_any w.heap.size mo (ns k) a c _ bS).mono ?_
        rintro e w2 ⟨rfl, b2, k2⟩
        have s2 := k2.heap sS (by simpa using hSB)
        have q1 : w2.cell? ⟨wr.heap.size, 1, none⟩ = some (.int .i64 (ns k)) := (cell_of_row w2 wr.heap.size 1 _ _ _ s2).trans rfl
        have q2 := b2.c2
        have q4 := b2.c4
        have o2 := own_kp oS k2 (by simpa using own_ne oS bS (by decide))
        have hb2 : Below w.heap.size w w2 := (hbel.alloc hN _).trans (k2.below (by simp; omega) (by simp))
        clear e0 e1 kS sS bS oS s2
        go_wp2_with fail
        go_roundw
        case rel => exact ⟨k + 1, _, a, c, by omega, by go_num, rfl, b2, o2, hb2⟩
        case measure => simp [intOf]; omega
      · -- a take under an ended context
        have hev : (op k % 2 == 1) = false := by simpa using hodd
        go_wp2_with fail
        refine (ended_any _).mono ?_
        rintro e w2 ⟨rfl, hw2⟩
        have hw1 : (wr.alloc (.cells #[.int .u8 (op k), .int .i64 (ns k)] 26)).heap.size = wr.heap.size + 1 := by simp
        generalize hgS : wr.alloc (.cells #[.int .u8 (op k), .int .i64 (ns k)] 26) = wS at kS sS bS oS hw1 hw2 ⊢
        have k2 : Kp [] wS w2 := by rw [hw2]; exact (((Kp.refl _ _).alloc _).alloc _).alloc _
        have c2 : Cx w2 (wS.heap.size + 2) wS.heap.size (.iface 73 (.agg #[])) (.iface 74 (.pointer (some ⟨wS.heap.size + 1, 0, none⟩))) 0 0 := by
          rw [hw2]
          have := heap_alloc_new ((wS.alloc (.chan 0 #[] true 0 0 false)).alloc (.cells #[.string ⟨#[122, 122, 32, 101, 110, 100, 101, 100]⟩] 76)) (.cells #[.iface 73 (.agg #[]), .chan (some wS.heap.size), .iface 74 (.pointer (some ⟨wS.heap.size + 1, 0, none⟩)), .int .i64 0, .int .i64 0] 52)
          simpa [Cx] using this
        have d2 : w2.heap[wS.heap.size]? = some (.chan 0 #[] true 0 0 false) := by
          rw [hw2]
          have h1 := heap_alloc_new wS (.chan 0 #[] true 0 0 false)
          exact (((Kp.refl [] (wS.alloc (.chan 0 #[] true 0 0 false))).alloc _).alloc _).heap h1 (by simp)
        clear hw2
        have hCN : w.heap.size ≤ wS.heap.size + 2 := by omega
        generalize wS.heap.size + 2 = C at c2 hCN ⊢
        generalize wS.heap.size + 1 = E at c2 ⊢
        generalize wS.heap.size = D at c2 d2 hw1 ⊢
        have s2 := k2.heap sS (by simp)
        have b2 := bS.kp k2 (by simp)
        have o2 := own_kp oS k2 (by simp)
        have hb2 : Below w.heap.size w w2 := (hbel.trans (kS.below (by omega) (by simp))).trans (k2.below (Nat.le_trans hN kS.size) (by simp))
        clear kS k2 sS bS oS hgS
        have q0 : w2.cell? ⟨wr.heap.size, 0, none⟩ = some (.int .u8 (op k)) := (cell_of_row w2 wr.heap.size 0 _ _ _ s2).trans rfl
        have q1 : w2.cell? ⟨wr.heap.size, 1, none⟩ = some (.int .i64 (ns k)) := (cell_of_row w2 wr.heap.size 1 _ _ _ s2).trans rfl
        clear e0 e1
        go_wp2_with fail
        generalize (bits BinOp.and IntKind.u8 (op k) 2 != 0) = y
        have kW : Kp [] w2 (w2.alloc (.cells #[.int .i64 (ns k), .bool y, .pointer none, .chan none] 48)) := (Kp.refl _ _).alloc _
        have tW : Wt (w2.alloc (.cells #[.int .i64 (ns k), .bool y, .pointer none, .chan none] 48)) w2.heap.size (ns k) y (.chan none) := heap_alloc_new _ _
        have hWN : w.heap.size ≤ w2.heap.size := hb2.size
        have hSlt : wr.heap.size < w2.heap.size := lt_of_heap s2
        generalize w2.alloc (.cells #[.int .i64 (ns k), .bool y, .pointer none, .chan none] 48) = wW at kW tW ⊢
        have bW := b2.kp kW (by simp)
        have cW := c2.kp kW (by simp)
        have dW := kW.heap d2 (by simp)
        have sW := kW.heap s2 (by simp)
        have oW := own_kp o2 kW (by simp)
        have hbW : Below w.heap.size w wW := hb2.trans (kW.below hWN (by simp))
        have hWB := blk_ne tW bW (cells_ne (by decide))
        have hWC := blk_ne tW cW (cells_ne (by decide))
        have hCB := blk_ne cW bW (cells_ne (by decide))
        have hSW := blk_ne sW tW (cells_ne (by decide))
        have hSC := blk_ne sW cW (cells_ne (by decide))
        have hWsz : w2.heap.size < wW.heap.size := tW.lt
        clear q0 q1
        by_cases hle : ns k ≤ mo
        · refine (await_yes w.heap.size w2.heap.size (.iface 39 (.pointer (some ⟨C, 0, none⟩))) mo (ns k) y a c wW bW tW hWB hle).mono ?_
          rintro e w3 ⟨rfl, b3, k3⟩
          have s3 := k3.heap sW (by simpa using hSB)
          have c3 := cW.kp k3 (by simpa using hCB)
          have o3 := own_kp oW k3 (by simpa using own_ne oW bW (by decide))
          have hb3 : Below w.heap.size w w3 := hbW.trans (k3.below hbW.size (by simp))
          have q1 : w3.cell? ⟨wr.heap.size, 1, none⟩ = some (.int .i64 (ns k)) := (cell_of_row w3 wr.heap.size 1 _ _ _ s3).trans rfl
          have q2 := b3.c2
          have q4 := b3.c4
          have r3 := c3.c3
          have r4 := c3.c4
          clear s2 d2 sW dW hw1 k3 s3
          go_wp2_with fail
          go_roundw
          case rel => exact ⟨k + 1, _, a, c, by omega, by go_num, rfl, b3, o3, hb3⟩
          case measure => simp [intOf]; omega
        · have hgt : mo < ns k := by omega
          refine (await_no w.heap.size w2.heap.size C D w.heap.size mo (ns k) y a c _ _ wW bW tW cW dW oW (by omega) hWB hWC hCB hgt).mono ?_
          rintro e w3 ⟨g, c', rfl, b3, c3, o3, k3⟩
          have s3 := k3.heap sW (by
            simp only [List.mem_cons, not_or]
            exact ⟨hSB, hSW, hSC, by simpa using own_ne oW sW (by decide)⟩)
          have hb3 : Below w.heap.size w w3 := hbW.trans (k3.below hbW.size (by
            intro x hx
            simp only [List.mem_cons] at hx
            rcases hx with rfl | rfl | rfl | hx
            · exact Nat.le_refl _
            · exact hWN
            · omega
            · exact (oW.lt x (by simpa using hx)).1))
          have q1 : w3.cell? ⟨wr.heap.size, 1, none⟩ = some (.int .i64 (ns k)) := (cell_of_row w3 wr.heap.size 1 _ _ _ s3).trans rfl
          have q2 := b3.c2
          have q4 := b3.c4
          have r2 := c3.c2
          have r3 := c3.c3
          have r4 := c3.c4
          clear s2 d2 sW dW hw1 k3 s3
          go_wp2_with fail
          go_roundw
          case rel => exact ⟨k + 1, _, _, _, by omega, by go_num, rfl, b3, o3, hb3⟩
          case measure => simp [intOf]; omega
    · go_wp2
      go_ret
      exact ⟨rfl, hbel⟩
end Go.Proofs.Ybulkbasi
