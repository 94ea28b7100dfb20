/-
  COMMUNICATION IN ONE GOROUTINE UNDER THE PLAIN WALK: 'wpN': Code.wp for the frames of plain calls alone; a region that holds a send or a receive.
-/
import Derived.Test.YbulkgrwRegion
import Derived.Conc.LoneCalls
namespace Go.Proofs.Ybulkgrw
open Go.RowKit Go.Conc

section
variable {P : Program} {ops : Array Oper} {Q : Exit → Act → World → Prop} {a : Act} {w w' : World}

def wpN (P : Program) (c : Code) (Q : Exit → Act → World → Prop) (a : Act) (w : World) : Prop :=
  ∀ (b : Frame) (k : List Item) (cs : List Frame), b.kind = .normal → ∃ e a' w', Q e a' w' ∧ Arrives P (lone (b.at a (.code c :: k)) cs w) b k cs e a' w'
theorem wpN_of_wp {c : Code} (h : c.wp P Q a w) : wpN P c Q a w := fun b k cs _ => h b k cs
theorem wpN_seq {x y : Code} (h : wpN P x (Exit.then (wpN P y Q) Q) a w) : wpN P (Code.seq x y) Q a w := by
  intro b k cs hn
  obtain ⟨e, a₁, w₁, hq, harr⟩ := h b (.code y :: k) cs hn
  cases e with
  | normal =>
    obtain ⟨e₂, a₂, w₂, hq₂, harr₂⟩ := hq b k cs hn
    exact ⟨e₂, a₂, w₂, hq₂, .of_steps (.head step_seq harr) harr₂⟩
  | exit id => exact ⟨_, a₁, w₁, hq, .of_steps (.one step_seq) (.pass (x := .code y) rfl (fun _ _ => .inl (by simp)) harr)⟩
  | goto l => exact ⟨_, a₁, w₁, hq, .of_steps (.one step_seq) (.pass (x := .code y) rfl (fun _ _ => .inl (by simp)) harr)⟩
  | ret => exact ⟨_, a₁, w₁, hq, .of_steps (.one step_seq) (.pass (x := .code y) rfl (fun _ _ => .inl (by simp)) harr)⟩
  | panic ch => exact ⟨_, a₁, w₁, hq, .of_steps (.one step_seq) (.pass (x := .code y) rfl (fun _ _ => .inl (by simp)) harr)⟩
  | outgrown => exact ⟨_, a₁, w₁, hq, .of_steps (.one step_seq) (.pass (x := .code y) rfl (fun _ _ => .inl (by simp)) harr)⟩
theorem wpN_cond {c : Operand} {x y : Code} {t : Bool} (hc : a.eval c = .bool t) (h : wpN P (if t then x else y) Q a w) : wpN P (Code.cond c x y) Q a w :=
  fun b k cs hn => let ⟨e, a', w', q, r⟩ := h b k cs hn; ⟨e, a', w', q, .of_steps (.one (step_cond hc)) r⟩
theorem wpN_mono {c : Code} {Q' : Exit → Act → World → Prop} (h : wpN P c Q a w) (hQ : ∀ e a w, Q e a w → Q' e a w) : wpN P c Q' a w :=
  fun b k cs hn => let ⟨e, a', w', q, r⟩ := h b k cs hn; ⟨e, a', w', hQ _ _ _ q, r⟩

/-- One statement by the plain walk; what follows behind a variable. -/
theorem wpN_seq_k {x y : Code} (h : ∀ K : Act → World → Prop, (∀ a w, wpN P y Q a w → K a w) → x.wp P (Exit.then K Q) a w) : wpN P (Code.seq x y) Q a w :=
  wpN_seq (wpN_of_wp (h _ fun _ _ h => h))

/-- What is left of a region arrives. -/
def Rest (P : Program) (ops : Array Oper) (Q : Exit → Act → World → Prop) (l : List Nat) (a : Act) (w : World) : Prop :=
  ∀ (b : Frame) (k : List Item) (cs : List Frame), b.kind = .normal → ∃ e a' w', Q e a' w' ∧ Arrives P (lone (b.at a (.inRegion ops l :: k)) cs w) b k cs e a' w'
theorem wpN_of_rest {id : Nat} (h : Rest P ops Q (List.range ops.size) a w) : wpN P (Code.region id ops false) Q a w :=
  fun b k cs hn => let ⟨e, a', w', q, r⟩ := h b k cs hn; ⟨e, a', w', q, .of_steps (.one step_region) r⟩
theorem rest_nil (h : Q .normal a w) : Rest P ops Q [] a w := fun _ _ _ _ => ⟨.normal, a, w, h, .one step_region_end⟩
theorem rest_value {i : Nat} {rest : List Nat} {o : Oper} (v : Value) (w' : World) (ho : ops[i]? = some o) (hg : o.guard = none) (hr : (execOp a.eval o).run P w = .ok (.value v) w') (h : Rest P ops Q rest (a.put o.dst v) w') : Rest P ops Q (i :: rest) a w := by
  intro b k cs hn
  have hw : Region.wanted o (yielded ops a.tmps) = true := by unfold Region.wanted; rw [hg]
  have hst := stepG_op (P := P) (b := b) (k := k) (cs := cs) (w := w) (rest := rest) ho hw
  have hfin : ∀ v, (b.at a (.inRegion ops (i :: rest) :: k)).finish v = b.at (a.put o.dst v) (.inRegion ops rest :: k) := by
    intro v; rw [Frame.finish_at, ho]; rfl
  obtain ⟨e, a', w'', hq, harr⟩ := h b k cs hn
  refine ⟨e, a', w'', hq, .of_steps (.one (step_lone_go ?_)) harr⟩
  rw [hst, ← hfin]; simp [stepG.apply, hr]
theorem rest_recv {i : Nat} {rest : List Nat} {o : Oper} {c cap s r : Nat} {buf : Array Value} {closed tm : Bool} {z : Value} (ho : ops[i]? = some o) (hg : o.guard = none)
    (hr : (execOp a.eval o).run P w = .ok (.comm #[rcase c z] true (.recv false)) w) (hc : w.heap[c]? = some (.chan cap buf closed s r tm)) (hsome : 0 < buf.size)
    (h : Rest P ops Q rest (a.put o.dst (buf.getD 0 undef)) (w.setChan c cap (buf.extract 1 buf.size) closed s (r + 1) tm)) : Rest P ops Q (i :: rest) a w := by
  intro b k cs hn
  have hw : Region.wanted o (yielded ops a.tmps) = true := by unfold Region.wanted; rw [hg]
  have hfin : ∀ v, (b.at a (.inRegion ops (i :: rest) :: k)).finish v = b.at (a.put o.dst v) (.inRegion ops rest :: k) := by
    intro v; rw [Frame.finish_at, ho]; rfl
  obtain ⟨e, a', w'', hq, harr⟩ := h b k cs hn
  refine ⟨e, a', w'', hq, .of_steps (.one ?_) harr⟩
  have := step_lone_recv_buf false (stepG_comm (P := P) (b := b) (k := k) (cs := cs) (rest := rest) ho hw (by rw [hn]; decide) hr) hc hsome
  rw [hfin] at this
  exact this
theorem rest_send {i : Nat} {rest : List Nat} {o : Oper} {c cap s r : Nat} {buf : Array Value} {tm : Bool} {v z : Value} (ho : ops[i]? = some o) (hg : o.guard = none)
    (hr : (execOp a.eval o).run P w = .ok (.comm #[scase c v z] true .send) w) (hc : w.heap[c]? = some (.chan cap buf false s r tm)) (hroom : buf.size < cap)
    (h : Rest P ops Q rest (a.put o.dst undef) (w.setChan c cap (buf.push v) false (s + 1) r tm)) : Rest P ops Q (i :: rest) a w := by
  intro b k cs hn
  have hw : Region.wanted o (yielded ops a.tmps) = true := by unfold Region.wanted; rw [hg]
  have hfin : ∀ v, (b.at a (.inRegion ops (i :: rest) :: k)).finish v = b.at (a.put o.dst v) (.inRegion ops rest :: k) := by
    intro v; rw [Frame.finish_at, ho]; rfl
  obtain ⟨e, a', w'', hq, harr⟩ := h b k cs hn
  refine ⟨e, a', w'', hq, .of_steps (.one ?_) harr⟩
  have := step_lone_send_room (stepG_comm (P := P) (b := b) (k := k) (cs := cs) (rest := rest) ho hw (by rw [hn]; decide) hr) hc hroom
  rw [hfin] at this
  exact this

theorem calls_of_wpN {f : FuncId} {fn : Func} {c : Code} {args : Array Value} {R : Ending → World → Prop} (hf : P.funcs[f]? = some fn) (hb : fn.body = some c)
    (h : wpN P c (bodyPost P fn R) { tmps := args ++ Array.replicate (fn.ntmps - args.size) undef, defers := [] } w) : Calls P f args w R := by
  intro cs
  let b : Frame := { (default : Frame) with fn := f, kind := .normal }
  have henter : Frame.enter P f args .normal = b.at { tmps := args ++ Array.replicate (fn.ntmps - args.size) undef, defers := [] } [.code c] := by
    simp [Frame.enter, Frame.at, hf, hb, b]
  obtain ⟨e, a', w', hq, harr⟩ := h b [] cs rfl
  rw [← henter] at harr
  cases e with
  | normal =>
    obtain ⟨hd, v, hr, hR⟩ := hq
    exact ⟨.returned v, w', _, hR, Steps.trans harr (.one step_end), rfl, rfl, hd, rfl, fn, hf, hr⟩
  | ret =>
    obtain ⟨hd, v, hr, hR⟩ := hq
    obtain ⟨todo, hs⟩ := harr
    exact ⟨.returned v, w', _, hR, hs, rfl, rfl, hd, rfl, fn, hf, hr⟩
  | panic chain =>
    obtain ⟨hd, hR⟩ := hq
    obtain ⟨todo, hs⟩ := harr
    exact ⟨.panicked chain, w', _, hR, hs, rfl, rfl, hd, fn, hf⟩
  | exit id => exact hq.elim
  | goto l => exact hq.elim
  | outgrown => exact ⟨.outgrown, w', b, hq, harr.resolve_left (by simp [b]), rfl, trivial⟩
end
end Go.Proofs.Ybulkgrw
