/-
  THE SHELL OF A PROOF OF 'Rows.LawS0372BStopSaid' ('example.com/tunnelweave/tunnelweave/gtpv1.LawS0372BStop'), WRITTEN BY PROGRAM (proof-skeleton.mjs, third state) off the guide's own print for that function. Not trusted: Lean checks it.
  THE WALK IS OURS; ALL ELSE IS THE GUIDE's OWN WAY (howto/template/XProofs.lean; Derived/Test/ChunkProofs.lean for 'Below') at this function's number and types: leave it.
-/
import Derived.Test.YbulkgriRows
import Derived.Test.YbulkgriExt
import Derived.WalkKit
import Derived.ProofKit
import Derived.OpenShut
import Derived.ShutString
import Derived.ChangeOld
import Derived.Below
namespace Go.Proofs.Ybulkgri.lawS0372BStop
open Go.ChangeShapes Go.WideShapes Go.ChangeAt Go.RowKit
open Go.ChangeMaps (open_string shut_string)
set_option linter.unusedVariables false

theorem own : ownKnob Yba.prog.godebug = none := by kernel_rfl
theorem laidOut : laidOutB Yba.prog = true := by kernel_rfl

/-- WHAT THE WALK IS TOLD OF A SLICE OF INTEGERS THAT CAME IN: it is nil; or it leads to a row of 'cap' cells, the numbers 'zs' (the first 'len' are its elements, the rest its spare room), each fitting its kind. -/
def IsRow (k : IntKind) (w : World) (a : Option Addr) (len cap : Nat) (zs : List Int) : Prop :=
  (a = none ∧ len = 0 ∧ cap = 0 ∧ zs = []) ∨
  ∃ x, a = some x ∧ len ≤ cap ∧ cap ≤ maxLen ∧ zs.length = cap ∧ (∀ i, i < zs.length → w.cell? (x.add i) = some (.int k (zs.getD i 0))) ∧ ∀ n ∈ zs, (Lit.int k n).wf = true

/-! ### STEP 1: THE WALK: the Go text returns true, AND WRITES NOTHING THAT WAS THERE: 'Below w.heap.size w w'' (Derived/Below.lean: '.refl', '.alloc', '.drew', '.setCell' at a new block, '.trans'). Open each 'IsRow' by 'rcases' AHEAD of 'go_enter'; part every test ahead of the walk. -/
theorem row_at {w : World} {a : Option Addr} {len cap : Nat} {zs : List Int} (h : IsRow .u8 w a len cap zs) (hpos : 0 < len) :
    ∃ b off, a = some ⟨b, off, none⟩ ∧ b < w.heap.size ∧ len ≤ cap ∧ cap ≤ maxLen ∧ (∀ i, i < len → w.cell? ⟨b, off + i, none⟩ = some (.int .u8 (zs.getD i 0))) ∧ ∀ i, 0 ≤ zs.getD i 0 ∧ zs.getD i 0 ≤ 255 := by
  rcases h with ⟨rfl, rfl, rfl, rfl⟩ | ⟨x, rfl, hlc, hcm, hz, hc, hw⟩
  · omega
  · obtain ⟨b, off, rfl, hc'⟩ := ints_at hc (by omega)
    refine ⟨b, off, rfl, ?_, hlc, hcm, fun i hi => hc' i (by omega), fun i => ?_⟩
    · have h0 := hc' 0 (by omega)
      rcases Nat.lt_or_ge b w.heap.size with g | g
      · exact g
      · simp [World.cell?, Array.getElem?_eq_none g] at h0
    · have := range_u8 hw i
      simpa [List.getD] using this

set_option maxHeartbeats 1000000 in
theorem walk_far (a0 : Option Addr) (len0 cap0 : Nat) (a1 : Int) (w : World) (hl : (1024 : Int) < len0) :
    Calls Yba.prog 5 #[.slice a0 len0 cap0, .int .u16 a1] w fun e w' => e = .returned (.bool true) ∧ Below w.heap.size w w' := by
  go_enter Yba.func5, Yba.ntmps5
  go_wp2
  go_ret
  exact ⟨rfl, Below.refl _ _⟩

set_option maxHeartbeats 1000000 in
theorem walk_zero (a0 : Option Addr) (cap0 : Nat) (a1 : Int) (w : World) :
    Calls Yba.prog 5 #[.slice a0 0 cap0, .int .u16 a1] w fun e w' => e = .returned (.bool true) ∧ Below w.heap.size w w' := by
  go_enter Yba.func5, Yba.ntmps5
  go_wp2
  go_ret
  exact ⟨rfl, Below.refl _ _⟩

set_option maxHeartbeats 1000000 in
theorem walk_near (b off len cap : Nat) (x : Nat → Int) (a1 : Int) (w : World) (hb : b < w.heap.size) (hc : ∀ i, i < len → w.cell? ⟨b, off + i, none⟩ = some (.int .u8 (x i))) (hx : ∀ i, 0 ≤ x i ∧ x i ≤ 255)
    (hl : len ≤ 1024) (hlc : len ≤ cap) (hcap : cap ≤ 9223372036854775807) (hp : 0 < len) (h0 : 0 ≤ a1) (h1 : a1 ≤ 65535) :
    Calls Yba.prog 5 #[.slice (some ⟨b, off, none⟩) len cap, .int .u16 a1] w fun e w' => e = .returned (.bool true) ∧ Below w.heap.size w w' := by
  have HX : Hid (∀ i, 0 ≤ x i ∧ x i ≤ 255) := hx
  have HC : Hid (∀ i, i < len → w.cell? ⟨b, off + i, none⟩ = some (.int .u8 (x i))) := hc
  clear hx hc
  have t1 : ((len : Int) == 0) = false := by rw [beq_eq_false_iff_ne]; omega
  have hm0 : 0 ≤ a1 % (len : Int) := Int.emod_nonneg _ (by omega)
  have hm1 : a1 % (len : Int) < len := Int.emod_lt_of_pos _ (by omega)
  go_enter Yba.func5, Yba.ntmps5
  go_wp2_with fail
  obtain ⟨q0, hq0⟩ : ∃ q0 : Nat, a1 % (len : Int) = q0 := ⟨(a1 % (len : Int)).toNat, by omega⟩
  rw [show 1 + a1 % (len : Int) = (q0 : Int) + 1 by omega]
  have hq1 : q0 + 1 ≤ len := by omega
  clear hq0 hm0 hm1 h0 h1
  refine (walk_nil b off len cap x q0 w hb HC.out HX.out hl hlc hcap hq1).mono ?_
  rintro e w1 ⟨rfl, hB1⟩
  go_wp2_with fail
  refine (walk_yes b off len cap x q0 w1 (by have := hB1.size; omega) (fun i hi => (hB1.cell (p := ⟨b, off + i, none⟩) hb).trans (HC.out i hi)) HX.out hl hlc hcap hq1).mono ?_
  rintro e w2 ⟨rfl, hB2⟩
  have hB : Below w.heap.size w w2 := hB1.trans (hB2.mono hB1.size)
  obtain ⟨s1, s2, s3⟩ := stopAt_stop (x := x) (len := len) (q := q0) (fun i => (HX.out i).1)
  have s3 := s3 hq1
  generalize stopAt x len q0 = g at s1 s2 s3 ⊢
  have hx0 := HX.out g
  have hx1 := HX.out (g + 1)
  have c1 : w2.cell? ⟨b, off + g, none⟩ = some (.int .u8 (x g)) := (hB.cell (p := ⟨b, off + g, none⟩) hb).trans (HC.out g (by omega))
  have c2 : g + 1 < len → w2.cell? ⟨b, off + (g + 1), none⟩ = some (.int .u8 (x (g + 1))) := fun h => (hB.cell (p := ⟨b, off + (g + 1), none⟩) hb).trans (HC.out (g + 1) h)
  clear hB1 hB2
  have t2 : ¬ (g : Int) + 1 < (q0 : Int) + 1 := by omega
  have t3 : ¬ (len : Int) < (g : Int) + 1 := by omega
  by_cases k1 : g + 1 = len
  · have t4 : ((g : Int) + 1 == (len : Int)) = true := by rw [beq_iff_eq]; omega
    clear k1 s1 c2
    go_wp2
    go_ret
    exact ⟨rfl, hB⟩
  · have t4 : ((g : Int) + 1 == (len : Int)) = false := by rw [beq_eq_false_iff_ne]; omega
    have c2' := c2 (by omega)
    clear c2
    by_cases k2 : x g = 0
    · have t5 : (x g == 0) = true := by rw [beq_iff_eq]; exact k2
      clear k2 s1
      go_wp2
      go_ret
      exact ⟨rfl, hB⟩
    · have t5 : (x g == 0) = false := by rw [beq_eq_false_iff_ne]; exact k2
      have t6 : (g : Int) + 1 < len := by omega
      have hk : x (g + 1) = 0 ∨ len < g + 1 + 4 * (x (g + 1)).toNat := by
        by_cases h3 : x (g + 1) = 0
        · exact .inl h3
        · right
          rcases Nat.lt_or_ge len (g + 1 + 4 * (x (g + 1)).toNat) with r | r
          · exact r
          · rw [okAt_iff.2 ⟨k2, by omega, h3, r⟩] at s1; cases s1
      obtain ⟨y, hy⟩ : ∃ y, y = x (g + 1) := ⟨_, rfl⟩
      rw [← hy] at c2' hx1 hk
      clear hy s1 k2 k1
      by_cases h3 : y = 0
      · have t7 : (y * 4 == 0) = true := by rw [beq_iff_eq]; omega
        clear h3 hk
        go_wp2
        go_ret
        exact ⟨rfl, hB⟩
      · have t7 : (y * 4 == 0) = false := by rw [beq_eq_false_iff_ne]; omega
        have t8 : (len : Int) < (g : Int) + 1 + y * 4 := by omega
        clear h3 hk
        go_wp2
        go_ret
        exact ⟨rfl, hB⟩

theorem walk (a0 : Option Addr) (len0 cap0 : Nat) (z0 : List Int) (a1 : Int) (w : World) (w0 : IsRow .u8 w a0 len0 cap0 z0) (w1 : (Lit.int .u16 a1).wf = true) :
    Calls Yba.prog 5 #[.slice a0 len0 cap0, .int .u16 a1] w fun e w' => e = .returned (.bool true) ∧ Below w.heap.size w w' := by
  have hu : 0 ≤ a1 ∧ a1 ≤ 65535 := by
    simp [Lit.wf, IntKind.min, IntKind.max, IntKind.signed, IntKind.bits] at w1
    omega
  by_cases hl : len0 ≤ 1024
  · rcases Nat.eq_zero_or_pos len0 with rfl | hp
    · exact walk_zero a0 cap0 a1 w
    · obtain ⟨b, off, rfl, hb, hlc, hcm, hc, hx⟩ := row_at w0 hp
      exact walk_near b off len0 cap0 (fun i => z0.getD i 0) a1 w hb hc hx hl hlc (by unfold maxLen at hcm; omega) hp hu.1 hu.2
  · exact walk_far a0 len0 cap0 a1 w (by omega)

/-! ### THE ROW's STEP: WRITTEN OUT: LEAVE IT -/
set_option maxRecDepth 100000 in
theorem lifted (os : Os) (started : os.Started) (H : Type) (enc : TypeId × Value → H) :
    ReturnsInHanded {} Yba.checked os 5 .any (Rows.lawS0372BStopSpec.pre6 enc Yba.prog Yba.f5 Rows.lawS0372BStopRow.domain false) (Rows.lawS0372BStopSpec.post enc Yba.prog Yba.f5 false true false false) := by
  refine returnsInHanded_of_change (C := Yba.checked) own started (by kernel_rfl) Yba.func5
    (ChangeSpec.witness6 (enc := enc) (C := Yba.checked) false ⟨#[], #[.slice none 0 0, .int .u16 0], []⟩ 8 (by kernel_rfl) (by kernel_rfl) (by kernel_rfl) (by kernel_rfl)) ?_
  intro W base args ds gs before hval0 hW hcnd _
  have hval : ∀ (j : Nat) t v, Yba.f5.params[j]? = some t → args[j]? = some v → Value.okWide Yba.prog W .any base t v := hval0
  have hW' := hW
  obtain ⟨p, q, hA0, hV, rfl, hfz, hnd⟩ := hW
  have hA : DataW.TrodAll enc Yba.prog W 0 (fun _ => true) true Yba.f5.params.toList args.toList ds p := hA0
  rw [Yba.params5] at hA hval
  obtain ⟨v0, vs0, d0, ds0, p0, q0, hargs, rfl, rfl, h0, r0⟩ := trodAll_cons hA
  obtain ⟨v1, vs1, d1, ds1, p1, q1, rfl, rfl, rfl, h1, r1⟩ := trodAll_cons r0
  obtain ⟨rfl, rfl, rfl⟩ := trodAll_nil r1
  obtain rfl : args = #[v0, v1] := by cases args; simp_all
  obtain ⟨rfl, rfl⟩ := trodVars_none hV
  obtain ⟨a0, len0, cap0, rfl⟩ := okWide_slice Yba.underlying23 (hval 0 23 v0 rfl rfl)
  have k0 := h0
  have lt0 : ∀ x ∈ p0, x.block < W.heap.size := by obtain ⟨m, hm⟩ := k0; exact DataW.trod_lt m _ _ _ hm
  obtain ⟨z0, w0⟩ : ∃ zs, IsRow .u8 W a0 len0 cap0 zs := by
    obtain ⟨fuel, hf⟩ := h0
    rcases open_ints Yba.underlying23 Yba.underlying5 (by kernel_rfl) hf with ⟨hcs, _⟩ | ⟨x, l, c, zs, hcs, _, hl, hm, hz, _, hcell, hwz⟩
    · simp [Value.cells] at hcs
      obtain ⟨rfl, rfl, rfl⟩ := hcs
      exact ⟨[], .inl ⟨rfl, rfl, rfl, rfl⟩⟩
    · simp [Value.cells] at hcs
      obtain ⟨rfl, rfl, rfl⟩ := hcs
      exact ⟨zs, .inr ⟨_, rfl, hl, hm, by simpa using hz, hcell, hwz⟩⟩
  obtain ⟨a1, rfl, rfl, rfl, w1⟩ := open_int Yba.underlying33 (hval 1 33 v1 rfl rfl) h1
  clear hA0 hval0
  refine (walk a0 len0 cap0 z0 a1 W w0 w1).mono fun e W' ⟨he, bel⟩ => ?_
  subst he
  exact ⟨_, rfl, _, _, _, [], _, [], hW', trodAll_mk1 (shut_bool Yba.underlying4 _), (trodAll_cons_mk (Below.trod laidOut (by kernel_rfl) (of_decide_eq_true (by kernel_rfl)) k0 bel lt0) (trodAll_cons_mk (shut_int Yba.underlying33 w1) trodAll_mk0)), rfl, bel.frame _, fun h => by cases h⟩

theorem over : Rows.lawS0372BStopRow.holds Yba.pinned (OpenSpec.ofChange Rows.lawS0372BStopSpec) :=
  OpenClaim.holds_of_wide 5 Yba.f5 rfl rfl rfl rfl rfl rfl rfl ⟨rfl, rfl, rfl, rfl, rfl⟩ rfl rfl rfl rfl rfl (by kernel_rfl) Yba.func5 (by kernel_rfl)
    (of_decide_eq_true (by kernel_rfl)) (by unfold Func.isWrapper; first | (rw [if_pos (by decide +kernel)]; kernel_rfl) | (rw [if_neg (by decide +kernel)]; exact ⟨rfl, rfl⟩))
    (fun os started H enc _ => lifted os started H enc)

/-- ████ THE STATEMENT ████ -/
theorem proved : Rows.LawS0372BStopSaid := over
#print axioms proved
end Go.Proofs.Ybulkgri.lawS0372BStop
