import Derived.Test.YbulkbasiProg
import Derived.Conc.LoneCalls
import Derived.Conc.LoneSelectN
import Derived.Defers
import Derived.Tactics
namespace Go.Proofs.Ybulkbasi
open Go.Conc

/-- 'Code.wp' over the frames of ordinary and deferred calls alone (a communication is refused in a frame that runs early). -/
def wpN (P : Program) (c : Code) (Q : Exit → Act → World → Prop) (a : Act) (w : World) : Prop :=
  ∀ (b : Frame) (k : List Item) (cs : List Frame), b.kind ≠ .early →
    ∃ e a' w', Q e a' w' ∧ Arrives P (lone (b.at a (.code c :: k)) cs w) b k cs e a' w'

section
variable {P : Program} {Q : Exit → Act → World → Prop} {a : Act} {w : World}

theorem wpN_of_wp {c : Code} (h : c.wp P Q a w) : wpN P c Q a w := fun b k cs _ => h b k cs

theorem wpN_seq0 {x y : Code} (h : wpN P x (Exit.then (wpN P y Q) Q) a w) : wpN P (Code.seq x y) Q a w := by
  intro b k cs hk
  obtain ⟨e, a₁, w₁, hq, harr⟩ := h b (.code y :: k) cs hk
  cases e with
  | normal =>
    obtain ⟨e₂, a₂, w₂, hq₂, harr₂⟩ := hq b k cs hk
    exact ⟨e₂, a₂, w₂, hq₂, .of_steps (.head step_seq harr) harr₂⟩
  | exit id => exact ⟨_, a₁, w₁, hq, .of_steps (.one step_seq) (.pass (x := .code y) rfl (fun _ _ => .inl (by simp)) harr)⟩
  | goto l => exact ⟨_, a₁, w₁, hq, .of_steps (.one step_seq) (.pass (x := .code y) rfl (fun _ _ => .inl (by simp)) harr)⟩
  | ret => exact ⟨_, a₁, w₁, hq, .of_steps (.one step_seq) (.pass (x := .code y) rfl (fun _ _ => .inl (by simp)) harr)⟩
  | panic ch => exact ⟨_, a₁, w₁, hq, .of_steps (.one step_seq) (.pass (x := .code y) rfl (fun _ _ => .inl (by simp)) harr)⟩
  | outgrown => exact ⟨_, a₁, w₁, hq, .of_steps (.one step_seq) (.pass (x := .code y) rfl (fun _ _ => .inl (by simp)) harr)⟩

/-- The rest behind a letter, so that the walk of x does not drag it. -/
theorem wpN_seq {x y : Code} (h : ∀ K : Act → World → Prop, (∀ a w, wpN P y Q a w → K a w) → wpN P x (Exit.then K Q) a w) : wpN P (Code.seq x y) Q a w :=
  wpN_seq0 (h _ fun _ _ h => h)

/-- As 'wpN_seq', where x always comes to its own end. -/
theorem wpN_seqF {x y : Code} (h : ∀ K : Act → World → Prop, (∀ a w, wpN P y Q a w → K a w) → x.wp P (Exit.then K fun _ _ _ => False) a w) : wpN P (Code.seq x y) Q a w :=
  wpN_seq fun K hK => wpN_of_wp (wp_mono (h K hK) fun e _ _ q => by cases e <;> first | exact q | exact q.elim)

theorem calls_of_wpN_defers {f : FuncId} {fn : Func} {c : Code} {args : Array Value} {R : Ending → World → Prop}
    (hf : P.funcs[f]? = some fn) (hb : fn.body = some c)
    (h : wpN P c (bodyPostD P fn R) { tmps := args ++ Array.replicate (fn.ntmps - args.size) undef, defers := [] } w) : Calls P f args w R := by
  intro cs
  let b : Frame := { (default : Frame) with fn := f, kind := .normal }
  have henter : Frame.enter P f args .normal =
      b.at { tmps := args ++ Array.replicate (fn.ntmps - args.size) undef, defers := [] } [.code c] := by
    simp [Frame.enter, Frame.at, hf, hb, b]
  obtain ⟨e, a', w', hq, harr⟩ := h b [] cs (by simp [b])
  rw [← henter] at harr
  cases e with
  | normal =>
    obtain ⟨e', w'', fr', hR, hs, hfn, hl⟩ := leaves_steps a'.defers .returning w' { b.at a' [] with mode := .returning } cs rfl rfl rfl hf rfl hq
    exact ⟨e', w'', fr', hR, Comes.of_steps (Steps.trans harr (.one step_end)) hs, hfn, hl⟩
  | ret =>
    obtain ⟨todo, hs₀⟩ := harr
    obtain ⟨e', w'', fr', hR, hs, hfn, hl⟩ := leaves_steps a'.defers .returning w' { b.at a' todo with mode := .returning } cs rfl rfl rfl hf rfl hq
    exact ⟨e', w'', fr', hR, Comes.of_steps hs₀ hs, hfn, hl⟩
  | panic chain =>
    obtain ⟨todo, hs₀⟩ := harr
    obtain ⟨e', w'', fr', hR, hs, hfn, hl⟩ := leaves_steps a'.defers (.panicking chain) w' { b.at a' todo with mode := .panicking chain } cs rfl rfl rfl hf rfl hq
    exact ⟨e', w'', fr', hR, Comes.of_steps hs₀ hs, hfn, hl⟩
  | exit id => exact hq.elim
  | goto l => exact hq.elim
  | outgrown => exact ⟨.outgrown, w', b, hq, harr.resolve_left (by simp [b]), rfl, trivial⟩

/-- A region whose first operation is one step of the machine's. -/
theorem wpN_region_step {id : Nat} {l : List Oper} {o : Oper} {v : Value} {w' : World}
    (hstep : ∀ (b : Frame) (k : List Item) (cs : List Frame) (rest : List Nat), b.kind ≠ .early →
      step P (solo (G (b.at a (.inRegion (o :: l).toArray (0 :: rest) :: k)) cs) w) = .next (solo (G ((b.at a (.inRegion (o :: l).toArray (0 :: rest) :: k)).finish v) cs) w'))
    (h : wpList P (o :: l).toArray Q l (a.put o.dst v) w') : wpN P (.region id (o :: l).toArray false) Q a w := by
  intro b k cs hk
  have hr : List.range (o :: l).toArray.size = 0 :: List.range' 1 l.length := by
    simp [List.range_eq_range', List.range'_succ]
  have h' : wpOps P (o :: l).toArray Q (List.range' 1 l.length) (a.put o.dst v) w' := by
    rw [wpOps_eq_wpList l 1 (fun j => by simp [Nat.add_comm 1 j])]
    exact h
  obtain ⟨e, a', w'', hq, harr⟩ := wp_ops _ _ _ h' b k cs
  refine ⟨e, a', w'', hq, .of_steps ((Steps.one step_region).trans ?_) harr⟩
  rw [hr]
  refine .one ?_
  have := hstep b k cs (List.range' 1 l.length) hk
  rw [Frame.finish_at] at this
  exact this

theorem res_rr1 (a b : Nat) (z z' v : Value) (ok : Bool) : commResult #[rcase a z, rcase b z'] .select ((1 : Nat) : Int) v ok = .tuple #[goInt 1, .bool ok, z, v] := by
  simp [commResult, rcase, List.zipIdx_cons]

/-- 'select' of two receives, no default: the first channel is open and empty, the second closed and empty: THE SECOND. -/
theorem wpN_select_shut {id : Nat} {l : List Oper} {o : Oper} {c0 c cap0 s0 r0 cap s r : Nat} {tm0 tm : Bool} {z0 z : Value} (hgd : o.guard = none)
    (hr : (execOp a.eval o).run P w = .ok (.comm #[rcase c0 z0, rcase c z] true .select) w)
    (h0 : w.heap[c0]? = some (.chan cap0 #[] false s0 r0 tm0)) (h1 : w.heap[c]? = some (.chan cap #[] true s r tm))
    (h : wpList P (o :: l).toArray Q l (a.put o.dst (.tuple #[goInt 1, .bool false, z0, z])) w) : wpN P (.region id (o :: l).toArray false) Q a w := by
  refine wpN_region_step (fun b k cs rest hk => ?_) h
  have hs := step_lone_sel_recv_shut (k := 1) (c := c) (z := z) (cap := cap) (s := s) (r := r) (tm := tm)
    (stepG_comm (P := P) (b := b) (a := a) (k := k) (cs := cs) (w := w) (main := true) (ops := (o :: l).toArray) (i := 0) (rest := rest) (cases := #[rcase c0 z0, rcase c z]) (blocking := true) (shape := .select) (w' := w) (o := o) rfl (by simp [Region.wanted, hgd]) hk hr)
    rfl (fun m c' hm hc' => by
      rcases m with _ | _ | m
      · simp only [List.getElem?_toArray, List.getElem?_cons_zero, Option.some.injEq] at hc'
        subst hc'
        exact noWay_recv h0
      · exact absurd rfl hm
      · simp at hc') h1
  rw [res_rr1] at hs
  exact hs

/-- 'select' of one receive with a default: the channel is open and empty: THE DEFAULT. -/
theorem wpN_select_default {id : Nat} {l : List Oper} {o : Oper} {c cap s r : Nat} {tm : Bool} {z : Value} (hgd : o.guard = none)
    (hr : (execOp a.eval o).run P w = .ok (.comm #[rcase c z] false .select) w) (h0 : w.heap[c]? = some (.chan cap #[] false s r tm))
    (h : wpList P (o :: l).toArray Q l (a.put o.dst (.tuple #[goInt (-1), .bool false, z])) w) : wpN P (.region id (o :: l).toArray false) Q a w := by
  refine wpN_region_step (fun b k cs rest hk => ?_) h
  exact step_lone_select_default (c := c) (z := z) (cap := cap) (s := s) (r := r) (tm := tm)
    (stepG_comm (P := P) (b := b) (a := a) (k := k) (cs := cs) (w := w) (main := true) (ops := (o :: l).toArray) (i := 0) (rest := rest) (cases := #[rcase c z]) (blocking := false) (shape := .select) (w' := w) (o := o) rfl (by simp [Region.wanted, hgd]) hk hr) h0
end
end Go.Proofs.Ybulkbasi
