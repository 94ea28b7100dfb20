/-
  THE ROW OF LawS0372AStart.
-/
import Derived.Test.YbulkgriRows
import Derived.Test.YbulkgriAStart
import Derived.ProofKit
import Derived.OpenShut
import Derived.ShutString
import Derived.ChangeOld
import Derived.Below
import Derived.SizedLaws
import Derived.Deep.SlicePairs
namespace Go.Proofs.Ybulkgri.lawS0372AStart
open Go.ChangeShapes Go.WideShapes Go.ChangeAt Go.RowKit Go.Deep

theorem own : ownKnob Yba.prog.godebug = none := by kernel_rfl
theorem laidOut : laidOutB Yba.prog = true := by kernel_rfl
theorem cells25 : Yba.prog.cellsOf 25 = 2 := by kernel_rfl
theorem cells5 : Yba.prog.cellsOf 5 = 1 := by kernel_rfl
theorem cells23 : Yba.prog.cellsOf 23 = 1 := by kernel_rfl
theorem bytes5 : Yba.prog.bytesOf 5 = 1 := by kernel_rfl

theorem mem_all {H : Type} {P : Program} {e : TypeId} {n : Nat} : ∀ {l : List (DataW H)} {d : DataW H}, d ∈ l → n ∈ d.weights P e → n ∈ DataW.weightsAll P e l
  | [], _, h, _ => by cases h
  | x :: r, d, h, hn => by
    simp only [DataW.weightsAll, List.mem_append]
    rcases List.mem_cons.1 h with rfl | h
    · exact .inl hn
    · exact .inr (mem_all h hn)

theorem walk (a0 : Option Addr) (len0 cap0 : Nat) (sk : Nat → Int) (hv : Nat → Value) (bs : Nat → List Int) (w : World) (hin : InPs w a0 len0 sk hv bs) :
    Calls Yba.prog 3 #[.slice a0 len0 cap0] w fun e w' => e = .returned (.bool true) ∧ Below w.heap.size w w' := by
  by_cases hl : len0 ≤ 1024
  · exact astart_near a0 len0 cap0 sk hv bs w hin hl
  · exact astart_far a0 len0 cap0 w (by omega)

set_option maxRecDepth 100000 in
theorem lifted (os : Os) (started : os.Started) (H : Type) (enc : TypeId × Value → H) :
    ReturnsInHanded {} Yba.checked os 3 .any (Rows.lawS0372AStartSpec.pre6 enc Yba.prog Yba.f3 Rows.lawS0372AStartRow.domain false) (Rows.lawS0372AStartSpec.post enc Yba.prog Yba.f3 false true false false) := by
  refine returnsInHanded_of_change_sized (C := Yba.checked) own started (by kernel_rfl) Yba.func3
    (ChangeSpec.witness6 (enc := enc) (C := Yba.checked) false ⟨#[], #[.slice none 0 0], []⟩ 8 (by kernel_rfl) (by kernel_rfl) (by kernel_rfl) (by kernel_rfl)) ?_
  intro W base args ds gs before hval0 hW hcnd hsz _
  have hval : ∀ (j : Nat) t v, Yba.f3.params[j]? = some t → args[j]? = some v → Value.okWide Yba.prog W .any base t v := hval0
  have hW' := hW
  obtain ⟨p, q, hA0, hV, rfl, hfz, hnd⟩ := hW
  have hA : DataW.TrodAll enc Yba.prog W 0 (fun _ => true) true Yba.f3.params.toList args.toList ds p := hA0
  rw [Yba.params3] at hA hval
  obtain ⟨v0, vs0, d0, ds0, p0, q0, hargs, rfl, rfl, h0, r0⟩ := trodAll_cons hA
  obtain ⟨rfl, rfl, rfl⟩ := trodAll_nil r0
  obtain rfl : args = #[v0] := by cases args; simp_all
  obtain ⟨rfl, rfl⟩ := trodVars_none hV
  obtain ⟨a0, len0, cap0, rfl⟩ := okWide_slice Yba.underlying22 (hval 0 22 v0 rfl rfl)
  have k0 := h0
  have lt0 : ∀ x ∈ p0, x.block < W.heap.size := by obtain ⟨m, hm⟩ := k0; exact DataW.trod_lt m _ _ _ hm
  obtain ⟨sk, hv, bs, w0⟩ : ∃ sk hv bs, InPs W a0 len0 sk hv bs := by
    obtain ⟨fuel, hf⟩ := h0
    rcases open_slice_pairs Yba.underlying22 Yba.underlying25 cells25 rfl rfl cells5 cells23 hf with ⟨hcs, hx⟩ | ⟨x, len, cap, m, n, V0, V1, D0, D1, P0, P1, hcs, hb, hlc, hcm, hmm, hx, hcell⟩
    · simp [Value.cells] at hcs
      obtain ⟨rfl, rfl, rfl⟩ := hcs
      exact ⟨fun _ => 0, fun _ => .slice none 0 0, fun _ => [], fun i hi => absurd hi (by omega)⟩
    · simp [Value.cells] at hcs
      obtain ⟨rfl, rfl, rfl⟩ := hcs
      simp only [if_true] at hmm
      subst hmm
      obtain ⟨hd, _⟩ := Prod.mk.inj hx
      subst hd
      have each : ∀ i, i < len0 → ∃ q : Int × List Int, V0 i = .int .u8 q.1 ∧ (Lit.int .u8 q.1).wf = true ∧ RB W (V1 i) q.2 ∧ q.2.length ≤ 140737488355328 := by
        intro i hi
        obtain ⟨c0, c1, t0, t1⟩ := hcell i (by omega)
        obtain ⟨z, e0, _, wz⟩ := DataW.trod_int Yba.underlying5 t0
        simp at e0
        rcases open_ints Yba.underlying23 Yba.underlying5 cells5 t1 with ⟨e1, _⟩ | ⟨y, l, c, zs, e1, _, hl1, hm1, hz1, hx1, hc1, hw1⟩
        · simp at e1
          exact ⟨(z, []), e0, wz, by rw [e1]; exact ⟨none, 0, rfl, fun h => absurd h (by simp)⟩, by simp⟩
        · simp at e1
          simp only [if_true] at hz1
          have hD : D1 i = .slice (lits .u8 (zs.take l)) (lits .u8 (zs.drop l)) := (Prod.mk.inj hx1).1
          have hlen : (zs.take l).length = l := by simp; omega
          refine ⟨(z, zs.take l), e0, wz, ?_, ?_⟩
          · rw [e1]
            refine ⟨some y, c, by rw [hlen], fun hp => ?_⟩
            have hp' : 0 < l := by rw [← hlen]; exact hp
            obtain ⟨b, o, rfl, hcc⟩ := ints_at hc1 (by omega)
            refine ⟨b, o, rfl, fun j hj => ?_⟩
            have hjl : j < l := by rw [hlen] at hj; exact hj
            rw [hcc j (by omega)]
            congr 2
            simp [List.getD, hjl]
          · have hmem : (l + (zs.drop l).length) * Yba.prog.bytesOf 5 ∈ DataW.weightsEach Yba.checked.prog (Yba.f3.params.toList ++ Rows.lawS0372AStartSpec.plain.varTypes Yba.checked.prog) ([DataW.slice ((List.range len0).map fun i => .agg [D0 i, D1 i]) ((List.range (m - len0)).map fun j => .agg [D0 (len0 + j), D1 (len0 + j)])] ++ []) := by
              refine DataW.weights_mem_each (j := 0) (t := 22) rfl rfl _ ?_
              have hu : Yba.checked.prog.underlying 22 = some (.slice 25) := Yba.underlying22
              simp only [DataW.weights, hu, List.mem_cons, List.mem_append]
              refine .inr (.inl (mem_all (d := .agg [D0 i, D1 i]) (List.mem_map.2 ⟨i, List.mem_range.2 hi, rfl⟩) ?_))
              have hu2 : ∃ f0 f1, Yba.checked.prog.underlying 25 = some (.struct #[f0, f1]) ∧ f0.type = 5 ∧ f1.type = 23 := ⟨_, _, Yba.underlying25, rfl, rfl⟩
              obtain ⟨f0, f1, hu2, ht0, ht1⟩ := hu2
              simp only [DataW.weights, hu2, List.map_cons, List.map_nil, DataW.weightsEach, ht0, ht1, List.mem_append]
              refine .inr (.inl ?_)
              have hu3 : Yba.checked.prog.underlying 23 = some (.slice 5) := Yba.underlying23
              rw [hD]
              simp only [DataW.weights, hu3, List.mem_cons]
              left
              simp only [lits, List.length_map]
              rw [hlen]
              rfl
            have h2 := List.all_eq_true.1 hsz _ hmem
            have h3 := reachBytes_lt
            simp only [decide_eq_true_eq] at h2
            rw [bytes5, Nat.mul_one] at h2
            rw [hlen]
            omega
      obtain ⟨f, hf'⟩ := choose_lt each
      refine ⟨fun i => (f i).1, V1, fun i => (f i).2, fun i hi => ?_⟩
      obtain ⟨e0, wz, hrb, hle⟩ := hf' i hi
      obtain ⟨c0, c1, _, _⟩ := hcell i (by omega)
      have hsp : x.spot = none := by
        have := World.cell?_spot (hcell 0 (by omega)).1
        obtain ⟨xb, xo, xs⟩ := x
        simpa [Addr.add] using this
      obtain ⟨xb, xo, xs⟩ := x
      simp only at hsp
      subst hsp
      rw [add_plain] at c0 c1
      have hbd := bounds_u8 wz
      exact ⟨⟨xb, xo, rfl, cell_lt c0, by rw [c0, e0], by rw [← Nat.add_assoc] at c1; exact c1⟩, hrb, hbd.1, hbd.2, hle⟩
  clear hA0 hval0
  refine (walk a0 len0 cap0 sk hv bs W w0).mono fun e W' ⟨he, bel⟩ => ?_
  subst he
  exact ⟨_, rfl, _, _, _, [], _, [], hW', trodAll_mk1 (shut_bool Yba.underlying4 _), (trodAll_cons_mk (Below.trod laidOut (by kernel_rfl) (of_decide_eq_true (by kernel_rfl)) k0 bel lt0) trodAll_mk0), rfl, bel.frame _, fun h => by cases h⟩

theorem over : Rows.lawS0372AStartRow.holds Yba.pinned (OpenSpec.ofChange Rows.lawS0372AStartSpec) :=
  OpenClaim.holds_of_wide 3 Yba.f3 rfl rfl rfl rfl rfl rfl rfl ⟨rfl, rfl, rfl, rfl, rfl⟩ rfl rfl rfl rfl rfl (by kernel_rfl) Yba.func3 (by kernel_rfl)
    (of_decide_eq_true (by kernel_rfl)) (by unfold Func.isWrapper; first | (rw [if_pos (by decide +kernel)]; kernel_rfl) | (rw [if_neg (by decide +kernel)]; exact ⟨rfl, rfl⟩))
    (fun os started H enc _ => lifted os started H enc)

theorem proved : Rows.LawS0372AStartSaid := over
#print axioms proved
end Go.Proofs.Ybulkgri.lawS0372AStart
