import Derived.Test.YbulkbasiFmtRows
import Derived.WalkKit
import Derived.WalkSpells
import Derived.Deep.QuietTactic
import Derived.BigQuiet
import Derived.Deep.AppendLies
import Derived.Deep.RegionHeldLaw
import Derived.Deep.RegionLaw
import Derived.Lib.AppendStr
import Derived.RegionTactic
namespace Go.Proofs.YbulkbasiFmt
open Go.RowKit
set_option maxRecDepth 100000

/-! ### The bytes of a key -/
abbrev bV (x : Nat) : Value := .int .u8 (x : Int)
def verB (n : Nat) : List Nat := if n < 128 then [n] else [n % 128 + 128, n / 128]
def encK (v ver : Nat) : List Nat := [2, v / 256, v % 256] ++ verB ver ++ [0]
def nameS (v : Nat) : ByteArray := ⟨#[UInt8.ofNat (v / 256), UInt8.ofNat (v % 256)]⟩
def sB (s : ByteArray) : List Nat := s.data.toList.map (·.toNat)
theorem sB_name (v : Nat) (hv : v < 65536) : sB (nameS v) = [v / 256, v % 256] := by
  have h1 : (UInt8.ofNat (v / 256)).toNat = v / 256 := by rw [UInt8.toNat_ofNat']; omega
  have h2 : (UInt8.ofNat (v % 256)).toNat = v % 256 := by rw [UInt8.toNat_ofNat']; omega
  show [(UInt8.ofNat (v / 256)).toNat, (UInt8.ofNat (v % 256)).toNat] = _
  rw [h1, h2]
theorem strCells_eq (s : ByteArray) : Lib.strCells s = (sB s).map bV := by
  unfold Lib.strCells sB
  rw [List.map_map]
  rfl
theorem sB_length (s : ByteArray) : (sB s).length = s.size := by
  unfold sB
  rw [List.length_map]
  rfl

theorem info5 : ∃ i, Ybaf.prog.info? 5 = some i ∧ i.zero = some (.int .u8 0) ∧ i.size = 1 ∧ i.bytes = 1 := by
  have h1 : (Ybaf.prog.info? 5).map (·.size) = some 1 := by kernel_rfl
  have h2 : (Ybaf.prog.info? 5).map (·.bytes) = some 1 := by kernel_rfl
  have h3 : (Ybaf.prog.info? 5).bind (·.zero) = some (.int .u8 0) := by kernel_rfl
  obtain ⟨i, hi, hb⟩ := Option.map_eq_some_iff.1 h1
  rw [hi] at h2 h3
  exact ⟨i, hi, h3, hb, by simpa using h2⟩

theorem lt_heap {w : World} {k : Nat} {o : Obj} (h : w.heap[k]? = some o) : k < w.heap.size := by
  rcases Nat.lt_or_ge k w.heap.size with g | g
  · exact g
  · simp [g] at h
theorem grown_refl (w : World) (o : Option Nat) : w.grownBy w o := ⟨rfl, rfl, rfl, Nat.le_refl _, fun _ _ _ => rfl⟩

/-! ### A row of bytes that is appended to -/
def Buf (w : World) (N : Nat) (v : Value) (bs : List Nat) : Prop := w.ownsRow N 5 1 v bs.length (bs.map bV)
structure App (w : World) (N : Nat) (v : Value) (bs : List Nat) (v' : Value) (w' : World) : Prop where
  own : Buf w' N v' bs
  gr : w.grownBy w' v.ownBlock
  pl : ∃ g' cap', v' = .slice (some ⟨g', 0, none⟩) bs.length cap' ∧ (v.ownBlock = some g' ∨ w.heap.size ≤ g')
theorem App.trans {w w1 w2 : World} {N : Nat} {v v1 v2 : Value} {b1 b2 : List Nat} (h : App w N v b1 v1 w1) (k : App w1 N v1 b2 v2 w2) : App w N v b2 v2 w2 := by
  obtain ⟨g1, c1, rfl, h1⟩ := h.pl
  obtain ⟨g2, c2, rfl, h2⟩ := k.pl
  refine ⟨k.own, h.gr.andThen k.gr (fun j hj => ?_), g2, c2, rfl, ?_⟩
  · have : g1 = j := by simpa [Value.ownBlock] using hj
    subst this
    exact h1.symm
  · rcases h2 with e | e
    · have : g1 = g2 := by simpa [Value.ownBlock] using e
      subst this
      exact h1
    · exact .inr (Nat.le_trans h.gr.size e)
theorem App.ahead {w w0 : World} {N : Nat} {v v1 : Value} {b1 : List Nat} {w1 : World} (hg : w0.grownBy w none) (h : App w N v b1 v1 w1) : App w0 N v b1 v1 w1 := by
  obtain ⟨g1, c1, rfl, h1⟩ := h.pl
  refine ⟨h.own, (hg.but _).trans h.gr, g1, c1, rfl, ?_⟩
  rcases h1 with e | e
  · exact .inl e
  · exact .inr (Nat.le_trans hg.size e)
theorem Buf.kept {w w' : World} {N : Nat} {v : Value} {bs : List Nat} {row : Option Nat} (h : Buf w N v bs) (hg : w.grownBy w' row) (hne : v.ownBlock = none ∨ v.ownBlock ≠ row) : Buf w' N v bs := World.ownsRow.kept h hg hne
theorem Buf.kept0 {w w' : World} {N : Nat} {v : Value} {bs : List Nat} (h : Buf w N v bs) (hg : w.grownBy w' none) : Buf w' N v bs := h.kept hg (by cases v.ownBlock <;> simp)
theorem Buf.form {w : World} {N : Nat} {v : Value} {bs : List Nat} (h : Buf w N v bs) : ∃ a c, v = .slice a bs.length c := by
  rcases h.2 with ⟨rfl, h0⟩ | ⟨g, cap, cur, rfl, _⟩
  · exact ⟨none, 0, by rw [h0]⟩
  · exact ⟨_, _, rfl⟩

theorem App.of_lies {w w2 : World} {o : Obj} {N g2 cap2 m : Nat} {v : Value} {bs ns : List Nat} (hm : ns.length = m) (hown : w2.ownsRow N 5 1 (.slice (some ⟨g2, 0, none⟩) (bs.length + m) cap2) (bs.length + m) (bs.map bV ++ ns.map bV))
    (hg : (w.alloc o).grownBy w2 v.ownBlock) (hat : v.ownBlock = some g2 ∨ g2 = (w.alloc o).heap.size) : App w N v (bs ++ ns) (.slice (some ⟨g2, 0, none⟩) (bs.length + m) cap2) w2 := by
  subst hm
  refine ⟨?_, (World.grownBy_alloc w o _).trans hg, g2, cap2, by simp, ?_⟩
  · unfold Buf
    rw [List.length_append, List.map_append]
    exact hown
  · rcases hat with e | e
    · exact .inl e
    · exact .inr (by rw [e]; simp)

theorem conv (W : World) (B cap : Nat) (cs : Array Value) (fr : Nat × Nat) (l : List UInt8) (hB : W.heap[B]? = some (.cells cs 5 fr)) (hl : ∀ j (hj : j < l.length), cs[j]? = some (.int .u8 (l[j].toNat : Int))) :
    (convert 24 9 (.slice (some ⟨B, 0, none⟩) l.length cap)).run Ybaf.prog W = .ok (.string ⟨l.toArray⟩) W := by
  refine run_convert_bytes_back W 24 9 5 ⟨B, 0, none⟩ cap l Ybaf.underlying24 Ybaf.underlying5 Ybaf.underlying9 (fun j hj => ?_)
  have e : (⟨B, 0, none⟩ : Addr).add j = ⟨B, j, none⟩ := by unfold Addr.add; split <;> simp_all
  rw [e, cell_of_row W B j cs 5 fr hB]
  exact hl j hj

set_option maxHeartbeats 400000 in
theorem name_any (v : Nat) (hv : v < 65536) (w : World) :
    Calls Ybaf.prog 5 #[.int .i64 (v : Int)] w fun e w' => e = .returned (.string (nameS v)) ∧ w.grownBy w' none := by
  have hcv := conv (w.alloc (.cells #[.int .u8 ((v : Int) / 256), .int .u8 ((v : Int) % 256)] 5)) w.heap.size 2 _ (0, 0) [UInt8.ofNat (v / 256), UInt8.ofNat (v % 256)] (heap_alloc_new w _) (by
    intro j hj
    match j, hj with
    | 0, _ => simp; omega
    | 1, _ => simp)
  simp only [List.length_cons, List.length_nil, Nat.zero_add, Nat.reduceAdd] at hcv
  go_enter Ybaf.func5, Ybaf.ntmps5
  go_wp2
  go_ret
  exact ⟨rfl, World.grownBy_alloc _ _ _⟩

theorem or128 (n : Nat) : bits BinOp.or IntKind.u8 ((n : Int) % 256) 128 = ((n % 128 + 128 : Nat) : Int) := by
  have := (bits_nat .u8 8 (by decide) wraps_u8 (n % 256) 128 (by omega) (by omega)).2
  have e : (n % 256) ||| 128 = n % 128 + 128 := by
    have h1 : n % 256 < 256 := by omega
    have h2 : n % 128 = (n % 256) % 128 := by omega
    rw [h2]
    generalize n % 256 = m at h1
    revert m
    decide
  rw [e] at this
  exact_mod_cast this

set_option maxHeartbeats 400000 in
theorem appendLongUint_any (N n : Nat) (v : Value) (bs : List Nat) (w : World) (h : Buf w N v bs) (hn : n < 16384) (hn1 : 128 ≤ n) (hl : bs.length ≤ 100000) (hN : N ≤ w.heap.size) :
    Calls Ybaf.prog 29 #[v, .int .u64 (n : Int)] w fun e w' => ∃ v', e = .returned v' ∧ App w N v (bs ++ verB n) v' w' := by
  obtain ⟨i5, hi, hz, hs, hy⟩ := info5
  obtain ⟨va, vc, rfl⟩ := h.form
  have ho := or128 n
  have hn' : (n : Int) < 16384 := by omega
  have hH : Hid (Buf w N (.slice va bs.length vc) bs) := h
  clear h
  go_enter Ybaf.func29, Ybaf.ntmps29
  go_wp2_with (at_builtin; refine wpList_append_lies _ rfl _ _ _ rfl N 5 i5 (.int .u8 0) 1 1 Ybaf.underlying24 hi hz hs hy rfl (by omega) (.slice va bs.length vc) bs.length (bs.map bV) rfl (hH.out.alloc _) ⟨w.heap.size, 0, none⟩ 2 2 [bV (n % 128 + 128), bV (n / 128)] rfl rfl (World.news_of_block (heap_alloc_new _ _)) (by simp [Value.oneCell']) (by omega) (by simp [maxLen]; omega) (by omega) (by simp; omega) _ rfl ?_; intro g2 cap2 w2 hown2 hgrow2 hat2 hlt2)
  go_ret
  refine ⟨_, rfl, ?_⟩
  rw [show verB n = [n % 128 + 128, n / 128] from by unfold verB; rw [if_neg (by omega)]]
  exact App.of_lies rfl hown2 hgrow2 hat2

set_option maxHeartbeats 400000 in
theorem appendUint_any (N n : Nat) (v : Value) (bs : List Nat) (w : World) (h : Buf w N v bs) (hn : n < 16384) (hl : bs.length ≤ 100000) (hN : N ≤ w.heap.size) :
    Calls Ybaf.prog 13 #[v, .int .u64 (n : Int)] w fun e w' => ∃ v', e = .returned v' ∧ App w N v (bs ++ verB n) v' w' := by
  obtain ⟨i5, hi, hz, hs, hy⟩ := info5
  obtain ⟨va, vc, rfl⟩ := h.form
  have hH : Hid (Buf w N (.slice va bs.length vc) bs) := h
  clear h
  go_enter Ybaf.func13, Ybaf.ntmps13
  by_cases hc : n < 128
  · have hc' : (n : Int) < 128 := by omega
    go_wp2_with (at_builtin; refine wpList_append_lies _ rfl _ _ _ rfl N 5 i5 (.int .u8 0) 1 1 Ybaf.underlying24 hi hz hs hy rfl (by omega) (.slice va bs.length vc) bs.length (bs.map bV) rfl (hH.out.alloc _) ⟨w.heap.size, 0, none⟩ 1 1 [bV n] rfl rfl (World.news_of_block (heap_alloc_new _ _)) (by simp [Value.oneCell']) (by omega) (by simp [maxLen]; omega) (by omega) (by simp; omega) _ rfl ?_; intro g2 cap2 w2 hown2 hgrow2 hat2 hlt2)
    go_ret
    refine ⟨_, rfl, ?_⟩
    rw [show verB n = [n] from by unfold verB; rw [if_pos hc]]
    exact App.of_lies rfl hown2 hgrow2 hat2
  · have hc' : ¬ (n : Int) < 128 := by omega
    go_wp2_with (go_at_call 29; refine (appendLongUint_any N n _ bs _ hH.out hn (by omega) hl hN).mono ?_; rintro e w' ⟨v', rfl, ha⟩)
    go_ret
    exact ⟨_, rfl, ha⟩

theorem run_append_str {w : World} {base g n cap : Nat} {xs : List Value} (ty : TypeId) (hown : w.ownsRow base 5 1 (.slice (some ⟨g, 0, none⟩) n cap) n xs) (s : ByteArray) (hb : n + s.size ≤ 1000000) (hbase : base ≤ w.heap.size) :
    ∃ g' cap' w', (Builtin.append_ #[24, 9] ty #[.slice (some ⟨g, 0, none⟩) n cap, .string s]).run Ybaf.prog w = .ok (.slice (some ⟨g', 0, none⟩) (n + s.size) cap') w' ∧ w'.ownsRow base 5 1 (.slice (some ⟨g', 0, none⟩) (n + s.size) cap') (n + s.size) (xs ++ Lib.strCells s) ∧ w.grownBy w' (some g) ∧ (g' = g ∨ g' = w.heap.size) := by
  obtain ⟨i5, hi, hz, hs, hy⟩ := info5
  obtain ⟨v', w', hr, h2, h3, h4⟩ := Lib.run_append_own_string (P := Ybaf.prog) w base 24 9 ty 5 i5 Ybaf.underlying24 Ybaf.underlying9 hi hz hs hy _ n xs hown s (by simp [maxLen]; omega) (by omega) hbase
  have hcells := hown.cells (g := g) rfl
  have hlen := hown.1
  rcases hown.2 with ⟨h0, _⟩ | ⟨g0, cap0, cur, he, hbg, hg, hnc, hcm, hcs, htake⟩
  · simp at h0
  simp at he
  obtain ⟨rfl, rfl⟩ := he
  by_cases hroom : n + s.size ≤ cap
  · have := Lib.run_append_room_string (P := Ybaf.prog) w 24 9 ty 5 i5 Ybaf.underlying24 Ybaf.underlying9 hi hs g n cap cur hg s hroom (by omega)
    rw [this] at hr
    simp only [Result.ok.injEq] at hr
    obtain ⟨rfl, rfl⟩ := hr
    exact ⟨g, cap, _, this, h2, h3, .inl rfl⟩
  · have := Lib.run_append_grow_string (P := Ybaf.prog) w 24 9 ty 5 i5 _ Ybaf.underlying24 Ybaf.underlying9 hi hz ⟨g, 0, none⟩ n cap xs (by rw [hs]; exact hlen) hcells s (by omega) (by omega) (by rw [hy]; exact growslice_fits (by omega) (by omega))
    rw [this] at hr
    simp only [Result.ok.injEq] at hr
    obtain ⟨rfl, rfl⟩ := hr
    exact ⟨_, _, _, this, h2, h3, .inr rfl⟩

theorem wpList_append_str {w : World} {ops : Array Oper} {rest : List Oper} {o : Oper} {a : Act} {Q : Exit → Act → World → Prop} (hgd : o.guard = none) (sl x : Operand)
    (ho : o.op = .call { callee := .builtin .append, args := #[sl, x], argTypes := #[24, 9] })
    {base g n cap : Nat} {xs : List Value} (hs : a.eval sl = .slice (some ⟨g, 0, none⟩) n cap) (hown : w.ownsRow base 5 1 (.slice (some ⟨g, 0, none⟩) n cap) n xs) (s : ByteArray) (hx : a.eval x = .string s)
    (hb : n + s.size ≤ 1000000) (hbase : base ≤ w.heap.size)
    (h : ∀ g' cap' w', w'.ownsRow base 5 1 (.slice (some ⟨g', 0, none⟩) (n + s.size) cap') (n + s.size) (xs ++ Lib.strCells s) → w.grownBy w' (some g) → (g' = g ∨ g' = w.heap.size) → wpList Ybaf.prog ops Q rest (a.put o.dst (.slice (some ⟨g', 0, none⟩) (n + s.size) cap')) w') : wpList Ybaf.prog ops Q (o :: rest) a w := by
  refine wpList_plain hgd fun K hK => ?_
  obtain ⟨g', cap', w', hr, h2, h3, h4⟩ := run_append_str o.type hown s hb hbase
  unfold Oper.wp execOp
  simp only [ho, resolve, invoke, builtin, Sem.run_bind, Sem.run_pure, Result.andThen_ok, List.map_toArray, List.map_cons, List.map_nil, hs, hx, hr]
  exact hK _ _ (h g' cap' w' h2 h3 h4)

set_option maxHeartbeats 400000 in
theorem appendString_any (N : Nat) (s : ByteArray) (v : Value) (bs : List Nat) (w : World) (h : Buf w N v bs) (hn : s.size < 128) (hl : bs.length ≤ 10000) (hN : N ≤ w.heap.size) :
    Calls Ybaf.prog 12 #[v, .string s] w fun e w' => ∃ v', e = .returned v' ∧ App w N v (bs ++ s.size :: sB s) v' w' := by
  have hH : Hid (Buf w N v bs) := h
  clear h
  have hvb : verB s.size = [s.size] := by unfold verB; rw [if_pos hn]
  go_enter Ybaf.func12, Ybaf.ntmps12
  go_wp2_with (first
    | (go_at_call 13; refine (appendUint_any N s.size _ bs _ hH.out (by omega) (by omega) hN).mono ?_; rw [hvb]; rintro e w1 ⟨v', rfl, ha⟩; obtain ⟨g1, c1, hv1, hp1⟩ := ha.pl; subst hv1; have ho1 := ha.own; unfold Buf at ho1; rw [List.length_append, List.length_singleton] at ho1; have hN1 : N ≤ w1.heap.size := Nat.le_trans hN ha.gr.size)
    | (at_builtin; refine wpList_append_str rfl _ _ rfl rfl ho1 s rfl (by omega) hN1 ?_; intro g2 c2 w2 ho2 hg2 ha2))
  go_ret
  refine ⟨_, rfl, ha.trans ?_⟩
  rw [strCells_eq, ← List.map_append] at ho2
  have hlen : (bs ++ s.size :: sB s).length = bs.length + 1 + s.size := by rw [List.length_append, List.length_cons, sB_length]; omega
  refine ⟨?_, hg2, g2, c2, by rw [hlen]; rfl, ?_⟩
  · unfold Buf
    rw [hlen, show bs ++ s.size :: sB s = bs ++ [s.size] ++ sB s from by simp]
    exact ho2
  · rcases ha2 with e | e
    · exact .inl (by rw [e]; rfl)
    · exact .inr (by rw [e]; exact Nat.le_refl _)

theorem verB_length (n : Nat) : 1 ≤ (verB n).length ∧ (verB n).length ≤ 2 := by
  unfold verB
  split <;> simp
theorem encK_length (v ver : Nat) : 5 ≤ (encK v ver).length ∧ (encK v ver).length ≤ 6 := by
  have := verB_length ver
  unfold encK
  simp
  omega

set_option maxHeartbeats 400000 in
theorem appendKey_any (N x ver : Nat) (v : Value) (bs : List Nat) (w : World) (h : Buf w N v bs) (hx : x < 65536) (hver : ver < 16384) (hl : bs.length ≤ 9000) (hN : N ≤ w.heap.size) :
    Calls Ybaf.prog 4 #[v, .string (nameS x), .agg #[.string ⟨#[]⟩, .int .u64 (ver : Int)]] w fun e w' => ∃ v', e = .returned v' ∧ App w N v (bs ++ encK x ver) v' w' := by
  have hH : Hid (Buf w N v bs) := h
  clear h
  have hvl := verB_length ver
  have hnb : (nameS x).size = 2 := rfl
  have hg0 : w.grownBy (w.alloc (.cells #[.string ⟨#[]⟩, .int .u64 (ver : Int)] 30)) none := World.grownBy_alloc _ _ _
  have hb0 := heap_alloc_new w (.cells #[.string ⟨#[]⟩, .int .u64 (ver : Int)] 30)
  have hB0 := hH.out.kept0 hg0
  have hN0 : N ≤ (w.alloc (.cells #[.string ⟨#[]⟩, .int .u64 (ver : Int)] 30)).heap.size := Nat.le_trans hN hg0.size
  have hne : v.ownBlock ≠ some w.heap.size := fun e => by
    have := hH.out.lt _ e
    omega
  go_enter Ybaf.func4, Ybaf.ntmps4
  go_wp2_with (first
    | (go_at_call 13; refine (appendUint_any N ver _ (bs ++ 2 :: sB (nameS x)) _ ha1.own hver (by rw [List.length_append, List.length_cons, sB_length, hnb]; omega) hN1).mono ?_; rintro e w2 ⟨v2, rfl, ha2⟩; have hA2 := ha1.trans ha2; have hN2 : N ≤ w2.heap.size := Nat.le_trans hN0 hA2.gr.size; have hc2 : w2.cell? ⟨w.heap.size, 0, none⟩ = some (.string ⟨#[]⟩) := (hA2.gr.cell_far ⟨w.heap.size, 0, none⟩ (lt_heap hb0) (fun e => hne e.symm)).trans ((cell_of_row _ _ 0 _ _ _ hb0).trans rfl))
    | (go_at_call 12; have hA2' := hA2; refine (appendString_any N ⟨#[]⟩ _ (bs ++ 2 :: sB (nameS x) ++ verB ver) _ hA2.own (by decide) (by rw [List.length_append, List.length_append, List.length_cons, sB_length, hnb]; omega) hN2).mono ?_; rintro e w3 ⟨v3, rfl, ha3⟩)
    | (go_at_call 12; refine (appendString_any N (nameS x) _ bs _ hB0 (by rw [hnb]; omega) (by omega) hN0).mono ?_; rintro e w1 ⟨v1, rfl, ha1⟩; have hN1 : N ≤ w1.heap.size := Nat.le_trans hN0 ha1.gr.size; have hc1 : w1.cell? ⟨w.heap.size, 1, none⟩ = some (.int .u64 (ver : Int)) := (ha1.gr.cell_far ⟨w.heap.size, 1, none⟩ (lt_heap hb0) (fun e => hne e.symm)).trans ((cell_of_row _ _ 1 _ _ _ hb0).trans rfl)))
  go_ret
  refine ⟨_, rfl, (hA2.trans ha3).ahead hg0 |> fun h => ?_⟩
  have e1 : bs ++ 2 :: sB (nameS x) ++ verB ver ++ (⟨#[]⟩ : ByteArray).size :: sB ⟨#[]⟩ = bs ++ encK x ver := by
    rw [sB_name x hx]
    simp [encK, sB]
    rfl
  rw [e1] at h
  exact h
end Go.Proofs.YbulkbasiFmt
