import Derived.Test.YbulkbasiFmtFF
import Derived.Test.YbulkbasiFmtCards
import Derived.Test.YbulkbasiFmtTie
import Derived.ProofKit
import Derived.OpenShut
import Derived.Stop.JoinedAt
import Derived.Stop.JoinedTold
import Derived.SevenTiedAt
namespace Go.Proofs.YbulkbasiFmt
open Go.ChangeShapes Go.WideShapes Go.ChangeAt Go.RowKit
open Go.Extern.Stop Go.Stop Go.Extern
set_option maxRecDepth 1000000

theorem own : ownKnob Ybaf.prog.godebug = none := by kernel_rfl
theorem laidOut : laidOutB Ybaf.prog = true := by kernel_rfl

/-- One start that fits: the table holds what its text lays. -/
def tabCells : Array Value := (([0, 1, 56, 2, 57, 49, 28, 3, 61, 58, 42, 50, 38, 29, 17, 4, 62, 47, 59, 36, 45, 43, 51, 22, 53, 39, 33, 30, 24, 18, 12, 5, 63, 55, 48, 27, 60, 41, 37, 16, 46, 35, 44, 21, 52, 32, 23, 11, 54, 26, 40, 15, 34, 20, 31, 10, 25, 14, 19, 9, 13, 8, 7, 6] : List Int).map (Value.int .u8)).toArray
noncomputable def laidWorld (os : Os) : World :=
  { World.holding Ybaf.prog os ⟨#[], #[], []⟩ with heap := (World.holding Ybaf.prog os ⟨#[], #[], []⟩).heap.modify 2 fun
      | .cells _ t frozen => .cells tabCells t frozen
      | o => o }
theorem laid_met (os : Os) (args : Array Value) : laidMet Ybaf.prog Rows.lawS2595BPartsRow.laid ((laidWorld os).forCall (fun _ _ => 0) ⟨#[], args, []⟩).memory :=
  laidMet_of_run (ps := (List.range 64).map fun i => .cell 2 i) 8 (by kernel_rfl) (by kernel_rfl) (by kernel_rfl)

theorem addr_add (b off j : Nat) : (⟨b, off, none⟩ : Addr).add j = ⟨b, off + j, none⟩ := by
  unfold Addr.add
  split <;> simp_all
/-- What came in: nil, or a row of 16-bit numbers. -/
theorem open_sel {H : Type} {enc : TypeId × Value → H} {W : World} {a : Option Addr} {len cap : Nat} {d : DataW H} {p : List MemPlace} (h : DataW.Trod enc Ybaf.prog W 0 (fun _ => true) true 23 (.slice a len cap) d p) :
    ∃ sel : List Nat, sel.length = len ∧ (∀ s ∈ sel, s < 65536) ∧ ∀ i (h : i < sel.length), ∃ b o, a = some ⟨b, o, none⟩ ∧ W.cell? ⟨b, o + i, none⟩ = some (.int .u16 (sel[i] : Int)) := by
  obtain ⟨fuel, hf⟩ := h
  rcases open_ints Ybaf.underlying23 Ybaf.underlying22 (by kernel_rfl) hf with ⟨hcs, _⟩ | ⟨x, l, c, zs, hcs, _, hl, _, hz, _, hcell, hwf⟩
  · simp [Value.cells] at hcs
    obtain ⟨rfl, rfl, rfl⟩ := hcs
    exact ⟨[], rfl, fun s hs => by simp at hs, fun i h => absurd h (by simp)⟩
  · simp [Value.cells] at hcs
    obtain ⟨rfl, rfl, rfl⟩ := hcs
    simp only [if_true] at hz
    have hlen : ((zs.take len).map Int.toNat).length = len := by simp; omega
    refine ⟨(zs.take len).map Int.toNat, hlen, fun s hs => ?_, fun i hi => ?_⟩
    · obtain ⟨z, hm, rfl⟩ := List.mem_map.1 hs
      have := bounds_u16 (hwf z (List.mem_of_mem_take hm))
      omega
    · rw [hlen] at hi
      have hc := hcell i (by omega)
      have hspot : x.spot = none := by simpa [Addr.add] using World.cell?_spot (hcell 0 (by omega))
      obtain ⟨b, off, spot⟩ := x
      simp only at hspot
      subst hspot
      refine ⟨b, off, rfl, ?_⟩
      rw [addr_add] at hc
      rw [hc]
      have hiz : i < zs.length := by omega
      have hg : zs.getD i 0 = zs[i] := by simp [hiz]
      have hb := bounds_u16 (hwf zs[i] (List.getElem_mem hiz))
      rw [hg, List.getElem_map, List.getElem_take, Int.toNat_of_nonneg hb.1]

theorem lifted (os : Os) (started : os.Started) (H : Type) (enc : TypeId × Value → H) :
    ReturnsInTold none {} Ybaf.checked os 3 .any Input.okWide ((OpenSpec.ofChange Rows.lawS2595BPartsSpec).preRow enc Ybaf.prog Ybaf.f3 [] false Rows.lawS2595BPartsRow.laid) (fun F => ((OpenSpec.ofChange Rows.lawS2595BPartsSpec).at F).post enc Ybaf.prog Ybaf.f3 false true false false) (aloneAtReturn Ybaf.prog) nothingAlways := by
  refine returnsInTold_of_row (C := Ybaf.checked) (s := OpenSpec.ofChange Rows.lawS2595BPartsSpec) (by kernel_rfl) own started (by kernel_rfl) Ybaf.func3
    (OpenSpec.witness_stopped_at (enc := enc) (C := Ybaf.checked) false (laidWorld os) #[.int .u16 0, .bool false, .slice none 0 0] rfl (by kernel_rfl) (by kernel_rfl) (by kernel_rfl)
      (OpenSpec.preRow_of_B rfl 8 (by kernel_rfl) (by kernel_rfl) (laid_met os _))) ?_
  intro F W base args ds gs before _ hF hval0 hW _ _ _ hL _
  have hval : ∀ (j : Nat) t v, Ybaf.f3.params[j]? = some t → args[j]? = some v → Value.okWide Ybaf.prog W .any base t v := hval0
  have hW' := hW
  obtain ⟨p, q, hA0, hV, rfl, hfz, hnd⟩ := hW
  have hA : DataW.TrodAll enc Ybaf.prog W 0 (fun _ => true) true Ybaf.f3.params.toList args.toList ds p := hA0
  rw [Ybaf.params3] at hA hval
  obtain ⟨v0, vs0, d0, ds0, p0, q0, hargs, rfl, rfl, h0, r0⟩ := trodAll_cons hA
  obtain ⟨v1, vs1, d1, ds1, p1, q1, hargs1, rfl, rfl, h1, r1⟩ := trodAll_cons r0
  obtain ⟨v2, vs2, d2, ds2, p2, q2, hargs2, rfl, rfl, h2, r2⟩ := trodAll_cons r1
  obtain ⟨rfl, rfl, rfl⟩ := trodAll_nil r2
  obtain rfl : args = #[v0, v1, v2] := by cases args; simp_all
  obtain ⟨rfl, rfl⟩ := trodVars_none hV
  obtain ⟨m, rfl, rfl, rfl, wm⟩ := open_int Ybaf.underlying22 (hval 0 22 v0 rfl rfl) h0
  obtain ⟨c, rfl, rfl, rfl⟩ := open_bool Ybaf.underlying4 (hval 1 4 v1 rfl rfl) h1
  obtain ⟨a2, len2, cap2, rfl⟩ := okWide_slice Ybaf.underlying23 (hval 2 23 v2 rfl rfl)
  have k2 := h2
  have lt2 : ∀ x ∈ p2, x.block < W.heap.size := by obtain ⟨n, hn⟩ := k2; exact DataW.trod_lt n _ _ _ hn
  obtain ⟨sel, rfl, hs1, hsel⟩ := open_sel h2
  have hb := bounds_u16 wm
  obtain ⟨mN, rfl⟩ : ∃ k : Nat, m = (k : Int) := ⟨m.toNat, by omega⟩
  clear hA0 hval0
  refine (law_any W mN c sel a2 cap2 (by omega) hsel hs1).mono fun e W' ⟨he, hg⟩ => ?_
  subst he
  have bel : Below W.heap.size W W' := (Below.refl _ _).grown hg (Nat.le_refl _) (fun k hk => by simp at hk)
  exact ⟨_, rfl, _, _, _, [], _, [], hW', trodAll_mk1 (shut_bool Ybaf.underlying4 _), (trodAll_cons_mk (shut_int Ybaf.underlying22 wm) (trodAll_cons_mk (shut_bool Ybaf.underlying4 _) (trodAll_cons_mk (Below.trod laidOut (by kernel_rfl) (of_decide_eq_true (by kernel_rfl)) k2 bel lt2) trodAll_mk0))), rfl, bel.frame _, fun h => by cases h⟩

theorem stops : Ybaf.pinned.checked.prog.stops = ["fmt.errorf, its operands' methods called"] := by kernel_rfl
theorem stopKnobs : Ybaf.pinned.checked.prog.stopKnobs = [] := by kernel_rfl
theorem quiet (os : Os) : Stop.quiet Ybaf.pinned.checked.prog os := by
  intro k hk
  rw [stopKnobs] at hk
  cases hk

/-- The statement. -/
theorem parts_proved : Rows.LawS2595BPartsToldSaid :=
  Claim7.holds_of_told_tied_any_at .later 3 Ybaf.f3 "fmt.errorf, its operands' methods called" [] [] _ _ _ _ _ (by kernel_rfl) rfl rfl rfl laidOut (by kernel_rfl) rfl ⟨rfl, rfl, rfl, rfl, rfl, rfl, rfl⟩ rfl rfl (by kernel_rfl) (by kernel_rfl) Ybaf.func3 (by kernel_rfl)
    (of_decide_eq_true (by kernel_rfl)) (of_decide_eq_true (by kernel_rfl)) stops.symm rfl stopKnobs.symm (by kernel_rfl)
    (by kernel_rfl) (by kernel_rfl) (by kernel_rfl) (by kernel_rfl) (by kernel_rfl) (by kernel_rfl) (by kernel_rfl) (by kernel_rfl) (by kernel_rfl) rfl (by kernel_rfl) rfl rfl
    rfl rfl
    rfl (by kernel_rfl) (by kernel_rfl) (by kernel_rfl) (by decide) (by kernel_rfl) lawS2595BParts_row_tie
    (OpenClaim.moreEntering_of (by kernel_rfl) (by kernel_rfl) (by kernel_rfl) (by kernel_rfl) (by kernel_rfl) (by kernel_rfl) (by kernel_rfl) (by kernel_rfl) (by kernel_rfl) (by kernel_rfl))
    ⟨_, WideRow.started_initial, quiet _⟩
    (fun os started _ H enc _ => lifted os started H enc)
end Go.Proofs.YbulkbasiFmt
