/-
  THE ROW OF LawS0373AExact.
-/
import Derived.Test.YbulkgrwRows
import Derived.Test.YbulkgrwAExact
import Derived.ProofKit
import Derived.OpenShut
import Derived.ChangeOld
import Derived.Below
import Derived.Deep.Slices
import Derived.ChangeSame
namespace Go.Proofs.Ybulkgrw.lawS0373AExact
open Go.ChangeShapes Go.WideShapes Go.ChangeAt Go.RowKit Go.Deep

theorem own : ownKnob Yba.prog.godebug = none := by kernel_rfl
theorem laidOut : laidOutB Yba.prog = true := by kernel_rfl
theorem cells36 : Yba.prog.cellsOf 36 = 7 := by kernel_rfl
theorem cells25 : Yba.prog.cellsOf 25 = 8 := by kernel_rfl
theorem cells34 : Yba.prog.cellsOf 34 = 1 := by kernel_rfl
theorem cells23 : Yba.prog.cellsOf 23 = 1 := by kernel_rfl
theorem cells21 : Yba.prog.cellsOf 21 = 1 := by kernel_rfl
theorem cells4 : Yba.prog.cellsOf 4 = 1 := by kernel_rfl
theorem cells2 : Yba.prog.cellsOf 2 = 1 := by kernel_rfl
theorem cells5 : Yba.prog.cellsOf 5 = 1 := by kernel_rfl

theorem walk (a0 : Option Addr) (len cap : Nat) (q : Nat → PQ) (c : CQ) (w : World) (hin : InQ w a0 len q) (h7 : c.id ≤ 255) (hsp : -2147483648 ≤ c.sp ∧ c.sp ≤ 2147483647) (hth : -2147483648 ≤ c.th ∧ c.th ≤ 2147483647) :
    Calls Yba.prog 3 #[.slice a0 len cap, .agg #[.int .u64 c.ho, .int .u64 c.pa, .int .u64 c.pk, .int .u64 c.re, .int .i32 c.sp, .int .i32 c.th, .int .i64 c.sh, .int .u8 c.id]] w fun e w' => e = .returned (.bool true) ∧ Below w.heap.size w w' := by
  by_cases hl : len ≤ 1024
  · exact aexact_near a0 len cap q c w hin hl h7 hsp hth
  · exact aexact_far a0 len cap _ _ _ _ _ _ _ _ w (by omega)

section
variable {H : Type} {enc : TypeId × Value → H} {W : World} {base : Nat} {spare : Nat → Bool} {held : Bool}
set_option maxRecDepth 100000 in
/-- One record, opened. -/
theorem open_rec {n : Nat} {cs : List Value} {x : DataW H × List MemPlace} (h : DataW.trod enc Yba.prog W base spare held n 36 cs = some x) :
    ∃ q : PQ, cs = [.int .u32 q.head, .int .u32 q.tail, .int .u64 q.hold, .int .u64 q.resumed, .int .u64 q.steals, .int .u64 q.stolen, .bool q.next] := by
  obtain ⟨xs, k, _, _, hl, hxl, hf⟩ := DataW.trod_struct Yba.underlying36 h
  rw [cells36] at hl
  match cs, hl with
  | [v0, v1, v2, v3, v4, v5, v6], _ =>
    have g0 := hf 0 _ rfl
    have g1 := hf 1 _ rfl
    have g2 := hf 2 _ rfl
    have g3 := hf 3 _ rfl
    have g4 := hf 4 _ rfl
    have g5 := hf 5 _ rfl
    have g6 := hf 6 _ rfl
    simp [cells34, cells23, cells4] at g0 g1 g2 g3 g4 g5 g6
    match xs, hxl with
    | [y0, y1, y2, y3, y4, y5, y6], _ =>
      simp at g0 g1 g2 g3 g4 g5 g6
      obtain ⟨z0, e0, _⟩ := DataW.trod_int Yba.underlying34 g0
      obtain ⟨z1, e1, _⟩ := DataW.trod_int Yba.underlying34 g1
      obtain ⟨z2, e2, _⟩ := DataW.trod_int Yba.underlying23 g2
      obtain ⟨z3, e3, _⟩ := DataW.trod_int Yba.underlying23 g3
      obtain ⟨z4, e4, _⟩ := DataW.trod_int Yba.underlying23 g4
      obtain ⟨z5, e5, _⟩ := DataW.trod_int Yba.underlying23 g5
      obtain ⟨z6, e6, _⟩ := DataW.trod_bool Yba.underlying4 g6
      simp at e0 e1 e2 e3 e4 e5 e6
      exact ⟨⟨z0, z1, z2, z3, z4, z5, z6⟩, by rw [e0, e1, e2, e3, e4, e5, e6]⟩
set_option maxRecDepth 100000 in
theorem open_cnt {n : Nat} {cs : List Value} {x : DataW H × List MemPlace} (h : DataW.trod enc Yba.prog W base spare held n 25 cs = some x) :
    ∃ c : CQ, cs = [.int .u64 c.ho, .int .u64 c.pa, .int .u64 c.pk, .int .u64 c.re, .int .i32 c.sp, .int .i32 c.th, .int .i64 c.sh, .int .u8 c.id] ∧ c.id ≤ 255 ∧ (-2147483648 ≤ c.sp ∧ c.sp ≤ 2147483647) ∧ (-2147483648 ≤ c.th ∧ c.th ≤ 2147483647) := by
  obtain ⟨xs, k, _, _, hl, hxl, hf⟩ := DataW.trod_struct Yba.underlying25 h
  rw [cells25] at hl
  match cs, hl with
  | [v0, v1, v2, v3, v4, v5, v6, v7], _ =>
    have g0 := hf 0 _ rfl
    have g1 := hf 1 _ rfl
    have g2 := hf 2 _ rfl
    have g3 := hf 3 _ rfl
    have g4 := hf 4 _ rfl
    have g5 := hf 5 _ rfl
    have g6 := hf 6 _ rfl
    have g7 := hf 7 _ rfl
    simp [cells21, cells23, cells2, cells5] at g0 g1 g2 g3 g4 g5 g6 g7
    match xs, hxl with
    | [y0, y1, y2, y3, y4, y5, y6, y7], _ =>
      simp at g0 g1 g2 g3 g4 g5 g6 g7
      obtain ⟨z0, e0, _⟩ := DataW.trod_int Yba.underlying23 g0
      obtain ⟨z1, e1, _⟩ := DataW.trod_int Yba.underlying23 g1
      obtain ⟨z2, e2, _⟩ := DataW.trod_int Yba.underlying23 g2
      obtain ⟨z3, e3, _⟩ := DataW.trod_int Yba.underlying23 g3
      obtain ⟨z4, e4, _, w4⟩ := DataW.trod_int Yba.underlying21 g4
      obtain ⟨z5, e5, _, w5⟩ := DataW.trod_int Yba.underlying21 g5
      obtain ⟨z6, e6, _⟩ := DataW.trod_int Yba.underlying2 g6
      obtain ⟨z7, e7, _, w7⟩ := DataW.trod_int Yba.underlying5 g7
      simp at e0 e1 e2 e3 e4 e5 e6 e7
      have b7 : 0 ≤ z7 ∧ z7 ≤ 255 := bounds_u8 w7
      have b4 : -2147483648 ≤ z4 ∧ z4 ≤ 2147483647 := bounds_i32 w4
      have b5 : -2147483648 ≤ z5 ∧ z5 ≤ 2147483647 := bounds_i32 w5
      refine ⟨⟨z0, z1, z2, z3, z4, z5, z6, z7.toNat⟩, ?_, ?_, b4, b5⟩
      · rw [e0, e1, e2, e3, e4, e5, e6, e7]
        have : ((z7.toNat : Nat) : Int) = z7 := Int.toNat_of_nonneg b7.1
        simp [this]
      · show z7.toNat ≤ 255
        omega
end

set_option maxRecDepth 100000 in
theorem lifted (os : Os) (started : os.Started) (H : Type) (enc : TypeId × Value → H) :
    ReturnsInHanded {} Yba.checked os 3 .any (Rows.lawS0373AExactSpec.pre6 enc Yba.prog Yba.f3 Rows.lawS0373AExactRow.domain false) (Rows.lawS0373AExactSpec.post enc Yba.prog Yba.f3 false true false false) := by
  refine returnsInHanded_of_change (C := Yba.checked) own started (by kernel_rfl) Yba.func3
    (ChangeSpec.witness6 (enc := enc) (C := Yba.checked) false ⟨#[], #[.slice none 0 0, .agg #[.int .u64 0, .int .u64 0, .int .u64 0, .int .u64 0, .int .i32 0, .int .i32 0, .int .i64 0, .int .u8 0]], []⟩ 8 (by kernel_rfl) (by kernel_rfl) (by kernel_rfl) (by kernel_rfl)) ?_
  intro W base args ds gs before hval0 hW hcnd _
  have hval : ∀ (j : Nat) t v, Yba.f3.params[j]? = some t → args[j]? = some v → Value.okWide Yba.prog W .any base t v := hval0
  have hW' := hW
  obtain ⟨p, q, hA0, hV, rfl, hfz, hnd⟩ := hW
  have hA : DataW.TrodAll enc Yba.prog W 0 (fun _ => true) true Yba.f3.params.toList args.toList ds p := hA0
  rw [Yba.params3] at hA hval
  obtain ⟨v0, vs0, d0, ds0, p0, q0, hargs, rfl, rfl, h0, r0⟩ := trodAll_cons hA
  obtain ⟨v1, vs1, d1, ds1, p1, q1, rfl, rfl, rfl, h1, r1⟩ := trodAll_cons r0
  obtain ⟨rfl, rfl, rfl⟩ := trodAll_nil r1
  obtain rfl : args = #[v0, v1] := by cases args; simp_all
  obtain ⟨rfl, rfl⟩ := trodVars_none hV
  obtain ⟨a0, len0, cap0, rfl⟩ := okWide_slice Yba.underlying22 (hval 0 22 v0 rfl rfl)
  obtain ⟨cs1, rfl, _⟩ := okWide_struct Yba.underlying25 (hval 1 25 v1 rfl rfl)
  have k0 := h0
  have k1 := h1
  have lt0 : ∀ x ∈ p0, x.block < W.heap.size := by obtain ⟨m, hm⟩ := k0; exact DataW.trod_lt m _ _ _ hm
  have lt1 : ∀ x ∈ p1, x.block < W.heap.size := by obtain ⟨m, hm⟩ := k1; exact DataW.trod_lt m _ _ _ hm
  obtain ⟨c, hcs, b7, bs, bt⟩ : ∃ c : CQ, cs1 = #[.int .u64 c.ho, .int .u64 c.pa, .int .u64 c.pk, .int .u64 c.re, .int .i32 c.sp, .int .i32 c.th, .int .i64 c.sh, .int .u8 c.id] ∧ c.id ≤ 255 ∧ (-2147483648 ≤ c.sp ∧ c.sp ≤ 2147483647) ∧ (-2147483648 ≤ c.th ∧ c.th ≤ 2147483647) := by
    obtain ⟨fuel, hf⟩ := h1
    obtain ⟨c, e, r⟩ := open_cnt hf
    refine ⟨c, ?_, r⟩
    have : cs1.toList = _ := e
    exact Array.toList_inj.1 this
  subst hcs
  obtain ⟨q, hq⟩ : ∃ q, InQ W a0 len0 q := by
    obtain ⟨fuel, hf⟩ := h0
    rcases open_slice Yba.underlying22 hf with ⟨hcs, _⟩ | ⟨a, len, cap, m, n, D, Pl, hcs, hb, hlc, hcm, hmm, _, hx⟩
    · simp [Value.cells] at hcs
      obtain ⟨rfl, rfl, rfl⟩ := hcs
      exact ⟨fun _ => default, fun i hi => absurd hi (by omega)⟩
    · simp [Value.cells] at hcs
      obtain ⟨rfl, rfl, rfl⟩ := hcs
      simp only [if_true] at hmm
      subst hmm
      have each : ∀ i, i < len0 → ∃ q : PQ, ∃ b o, a = ⟨b, o, none⟩ ∧ b < W.heap.size ∧ W.cell? ⟨b, o + i * 7, none⟩ = some (.int .u32 q.head) ∧ W.cell? ⟨b, o + i * 7 + 1, none⟩ = some (.int .u32 q.tail) ∧ W.cell? ⟨b, o + i * 7 + 2, none⟩ = some (.int .u64 q.hold) ∧
          W.cell? ⟨b, o + i * 7 + 3, none⟩ = some (.int .u64 q.resumed) ∧ W.cell? ⟨b, o + i * 7 + 4, none⟩ = some (.int .u64 q.steals) ∧ W.cell? ⟨b, o + i * 7 + 5, none⟩ = some (.int .u64 q.stolen) ∧ W.cell? ⟨b, o + i * 7 + 6, none⟩ = some (.bool q.next) := by
        intro i hi
        obtain ⟨cs', h1, h2⟩ := hx i (by omega)
        rw [cells36] at h1
        obtain ⟨q, rfl⟩ := open_rec h2
        obtain ⟨_, _, hcell⟩ := World.cells?_some h1
        have e0 := hcell 0 (by omega)
        have e1 := hcell 1 (by omega)
        have e2 := hcell 2 (by omega)
        have e3 := hcell 3 (by omega)
        have e4 := hcell 4 (by omega)
        have e5 := hcell 5 (by omega)
        have e6 := hcell 6 (by omega)
        obtain ⟨xb, xo, xs⟩ := a
        have hsp : xs = none := by
          obtain ⟨cs0, u1, u2⟩ := hx 0 (by omega)
          rw [cells36] at u1
          obtain ⟨q', rfl⟩ := open_rec u2
          obtain ⟨_, _, ucell⟩ := World.cells?_some u1
          have u0 := ucell 0 (by omega)
          have := World.cell?_spot (by simpa using u0 : W.cell? _ = some _)
          simpa [Addr.add] using this
        subst hsp
        rw [add_plain, add_plain] at e0 e1 e2 e3 e4 e5 e6
        simp at e0 e1 e2 e3 e4 e5 e6
        exact ⟨q, xb, xo, rfl, block_lt_of_cell e0, e0, e1, e2, e3, e4, e5, e6⟩
      obtain ⟨f, hf'⟩ := choose_lt each
      refine ⟨f, fun i hi => ?_⟩
      obtain ⟨b, o, rfl, r⟩ := hf' i hi
      exact ⟨b, o, rfl, r⟩
  clear hA0 hval0
  refine (walk a0 len0 cap0 q c W hq b7 bs bt).mono fun e W' ⟨he, bel⟩ => ?_
  subst he
  exact ⟨_, rfl, _, _, _, [], _, [], hW', trodAll_mk1 (shut_bool Yba.underlying4 _), (trodAll_cons_mk (Below.trod laidOut (by kernel_rfl) (of_decide_eq_true (by kernel_rfl)) k0 bel lt0) (trodAll_cons_mk (Below.trod laidOut (by kernel_rfl) (of_decide_eq_true (by kernel_rfl)) k1 bel lt1) trodAll_mk0)), rfl, bel.frame _, fun h => by cases h⟩

theorem over : Rows.lawS0373AExactRow.holds Yba.pinned (OpenSpec.ofChange Rows.lawS0373AExactSpec) :=
  OpenClaim.holds_of_wide 3 Yba.f3 rfl rfl rfl rfl rfl rfl rfl ⟨rfl, rfl, rfl, rfl, rfl⟩ rfl rfl rfl rfl rfl (by kernel_rfl) Yba.func3 (by kernel_rfl)
    (of_decide_eq_true (by kernel_rfl)) (by unfold Func.isWrapper; first | (rw [if_pos (by decide +kernel)]; kernel_rfl) | (rw [if_neg (by decide +kernel)]; exact ⟨rfl, rfl⟩))
    (fun os started H enc _ => lifted os started H enc)

theorem proved : Rows.LawS0373AExactSaid := over
#print axioms proved
end Go.Proofs.Ybulkgrw.lawS0373AExact
