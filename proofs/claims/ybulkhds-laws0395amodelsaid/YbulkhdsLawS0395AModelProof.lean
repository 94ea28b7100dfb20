/-
  THE ROW OF LawS0395AModel.
-/
import Derived.Test.YbulkhdsRows
import Derived.Test.YbulkhdsWalks
import Derived.ProofKit
import Derived.OpenShut
import Derived.ShutString
import Derived.ChangeOld
import Derived.Below
import Derived.SliceStrings
namespace Go.Proofs.Ybulkhds.lawS0395AModel
open Go.ChangeShapes Go.WideShapes Go.ChangeAt Go.RowKit

theorem own : ownKnob Yba.prog.godebug = none := by kernel_rfl
theorem laidOut : laidOutB Yba.prog = true := by kernel_rfl
theorem cells9 : Yba.prog.cellsOf 9 = 1 := by kernel_rfl

set_option maxHeartbeats 1000000 in
theorem walk_far (a0 : Option Addr) (len cap0 : Nat) (w : World) (hl : (1024 : Int) < len) :
    Calls Yba.prog 3 #[.slice a0 len cap0] w fun e w' => e = .returned (.bool true) ∧ Below w.heap.size w w' := by
  go_enter Yba.func3, Yba.ntmps3
  go_wp2
  go_ret
  exact ⟨rfl, Below.refl _ _⟩

set_option maxHeartbeats 1000000 in
theorem walk_none (a0 : Option Addr) (cap0 : Nat) (ss : Nat → ByteArray) (w : World) (hin : InSs w a0 0 ss) :
    Calls Yba.prog 3 #[.slice a0 0 cap0] w fun e w' => e = .returned (.bool true) ∧ Below w.heap.size w w' := by
  have heq := fun (w : World) => Lib.run_eql_slice_nil (P := Yba.prog) w 23 5 none 0 0 0 0 Yba.underlying23
  go_enter Yba.func3, Yba.ntmps3
  go_wp2_with (go_at_call 5; refine (only_no a0 0 cap0 ss _ (by exact hin) (by omega) (by omega)).mono ?_; rintro e w1 ⟨rfl, hB⟩)
  go_ret
  exact ⟨rfl, hB⟩

set_option maxHeartbeats 1000000 in
theorem walk_same (b o len cap0 : Nat) (ss : Nat → ByteArray) (w : World) (hin : InSs w (some ⟨b, o, none⟩) len ss) (hl : len ≤ 1024) (hp : 0 < len) (hs : same ss len) :
    Calls Yba.prog 3 #[.slice (some ⟨b, o, none⟩) len cap0] w fun e w' => e = .returned (.bool true) ∧ Below w.heap.size w w' := by
  have hpi : (0 : Int) < len := by omega
  have HI : Hid (InSs w (some ⟨b, o, none⟩) len ss) := hin
  have HS : Hid (same ss len) := hs
  clear hin hs
  go_enter Yba.func3, Yba.ntmps3
  go_wp2_with fail
  refine (only_yes _ len cap0 ss w HI.out hl hp HS.out).mono ?_
  rintro e w1 ⟨hB, a, c, rfl, hcv⟩
  have hc1 : ∀ i, i < len → w1.cell? ⟨b, o + i, none⟩ = some (.string (ss i)) := fun i hi => by
    obtain ⟨b', o', e1, hb', hci, _⟩ := HI.out i hi
    cases e1
    exact (hB.cell (p := ⟨b, o + i, none⟩) hb').trans hci
  go_wp2_with fail
  refine (allsame_yes b o len cap0 ss w1 hc1 hl HS.out).mono ?_
  rintro e w2 ⟨rfl, n, rfl⟩
  have hc0 : w1.cell? ⟨b, o, none⟩ = some (.string (ss 0)) := hc1 0 hp
  have hcv0 := hcv 0
  have HC1 : Hid (∀ i, i < len → w1.cell? ⟨b, o + i, none⟩ = some (.string (ss i))) := hc1
  clear hc1
  obtain ⟨W, hW⟩ : ∃ W, W = w1.drewN n := ⟨_, rfl⟩
  have hcW : (convert 23 9 (.slice (some a) (ss 0).size c)).run Yba.prog W = .ok (.string (ss 0)) W := by rw [hW]; exact hcv n
  have hcN : ∀ m, (convert 23 9 (.slice (some a) (ss 0).size c)).run Yba.prog (W.drewN m) = .ok (.string (ss 0)) (W.drewN m) := fun m => by rw [hW, World.drewN_drewN]; exact hcv _
  have hcc : W.cell? ⟨b, o, none⟩ = some (.string (ss 0)) := by rw [hW]; exact hc0
  have hBW : Below w.heap.size w W := by rw [hW]; exact ⟨hB.os, hB.tape, hB.output, hB.size, hB.block⟩
  rw [← hW]
  clear hW hcv hcv0 hc0
  go_wp2
  go_quiet (fail)
  go_wp2
  go_ret
  exact ⟨rfl, hBW.os, hBW.tape, hBW.output, hBW.size, hBW.block⟩

set_option maxHeartbeats 1000000 in
theorem walk_other (b o len cap0 : Nat) (ss : Nat → ByteArray) (w : World) (hin : InSs w (some ⟨b, o, none⟩) len ss) (hl : len ≤ 1024) (hp : 0 < len) (hs : ¬ same ss len) :
    Calls Yba.prog 3 #[.slice (some ⟨b, o, none⟩) len cap0] w fun e w' => e = .returned (.bool true) ∧ Below w.heap.size w w' := by
  have hpi : (0 : Int) < len := by omega
  have HI : Hid (InSs w (some ⟨b, o, none⟩) len ss) := hin
  have HS : Hid (¬ same ss len) := hs
  clear hin hs
  have heq := fun (w : World) => Lib.run_eql_slice_nil (P := Yba.prog) w 23 5 none 0 0 0 0 Yba.underlying23
  go_enter Yba.func3, Yba.ntmps3
  go_wp2_with fail
  refine (only_no _ len cap0 ss w HI.out hl (fun h => HS.out h.2)).mono ?_
  rintro e w1 ⟨rfl, hB⟩
  have hc1 : ∀ i, i < len → w1.cell? ⟨b, o + i, none⟩ = some (.string (ss i)) := fun i hi => by
    obtain ⟨b', o', e1, hb', hci, _⟩ := HI.out i hi
    cases e1
    exact (hB.cell (p := ⟨b, o + i, none⟩) hb').trans hci
  go_wp2_with fail
  refine (allsame_no b o len cap0 ss w1 hc1 hl HS.out).mono ?_
  rintro e w2 ⟨rfl, n, rfl⟩
  clear hc1
  go_wp2
  go_ret
  exact ⟨rfl, hB.os, hB.tape, hB.output, hB.size, hB.block⟩

theorem walk (a0 : Option Addr) (len cap0 : Nat) (ss : Nat → ByteArray) (w : World) (hin : InSs w a0 len ss) :
    Calls Yba.prog 3 #[.slice a0 len cap0] w fun e w' => e = .returned (.bool true) ∧ Below w.heap.size w w' := by
  by_cases hl : len ≤ 1024
  · rcases Nat.eq_zero_or_pos len with rfl | hp
    · exact walk_none a0 cap0 ss w hin
    · obtain ⟨b, o, rfl, _⟩ := hin 0 hp
      by_cases hs : ∀ i, i < len → ss i = ss 0
      · exact walk_same b o len cap0 ss w hin hl hp hs
      · exact walk_other b o len cap0 ss w hin hl hp hs
  · exact walk_far a0 len cap0 w (by omega)

set_option maxRecDepth 100000 in
theorem lifted (os : Os) (started : os.Started) (H : Type) (enc : TypeId × Value → H) :
    ReturnsInHanded {} Yba.checked os 3 .any (Rows.lawS0395AModelSpec.pre6 enc Yba.prog Yba.f3 Rows.lawS0395AModelRow.domain false) (Rows.lawS0395AModelSpec.post enc Yba.prog Yba.f3 false true false false) := by
  refine returnsInHanded_of_change (C := Yba.checked) own started (by kernel_rfl) Yba.func3
    (ChangeSpec.witness6 (enc := enc) (C := Yba.checked) false ⟨#[], #[.slice none 0 0], []⟩ 8 (by kernel_rfl) (by kernel_rfl) (by kernel_rfl) (by kernel_rfl)) ?_
  intro W base args ds gs before hval0 hW hcnd _
  have hval : ∀ (j : Nat) t v, Yba.f3.params[j]? = some t → args[j]? = some v → Value.okWide Yba.prog W .any base t v := hval0
  have hW' := hW
  obtain ⟨p, q, hA0, hV, rfl, hfz, hnd⟩ := hW
  have hA : DataW.TrodAll enc Yba.prog W 0 (fun _ => true) true Yba.f3.params.toList args.toList ds p := hA0
  rw [Yba.params3] at hA hval
  obtain ⟨v0, vs0, d0, ds0, p0, q0, hargs, rfl, rfl, h0, r0⟩ := trodAll_cons hA
  obtain ⟨rfl, rfl, rfl⟩ := trodAll_nil r0
  obtain rfl : args = #[v0] := by cases args; simp_all
  obtain ⟨rfl, rfl⟩ := trodVars_none hV
  obtain ⟨a0, len0, cap0, rfl⟩ := okWide_slice Yba.underlying22 (hval 0 22 v0 rfl rfl)
  have k0 := h0
  have lt0 : ∀ x ∈ p0, x.block < W.heap.size := by obtain ⟨m, hm⟩ := k0; exact DataW.trod_lt m _ _ _ hm
  obtain ⟨ss, w0⟩ : ∃ ss, InSs W a0 len0 ss := by
    obtain ⟨fuel, hf⟩ := h0
    rcases open_strings Yba.underlying22 Yba.underlying9 cells9 hf with ⟨hcs, _⟩ | ⟨x, l, c, ss, hcs, _, hl, hm, hz, _, hcell, hws⟩
    · simp [Value.cells] at hcs
      obtain ⟨rfl, rfl, rfl⟩ := hcs
      exact ⟨fun _ => ByteArray.empty, fun i hi => absurd hi (by omega)⟩
    · simp [Value.cells] at hcs
      obtain ⟨rfl, rfl, rfl⟩ := hcs
      simp only [if_true] at hz
      refine ⟨fun i => ss.getD i ByteArray.empty, fun i hi => ?_⟩
      have c0 := hcell i (by omega)
      have hsp : x.spot = none := by
        have := World.cell?_spot (hcell 0 (by omega))
        obtain ⟨xb, xo, xs⟩ := x
        simpa [Addr.add] using this
      obtain ⟨xb, xo, xs⟩ := x
      simp only at hsp
      subst hsp
      rw [add_plain] at c0
      have hblk : xb < W.heap.size := by
        rcases Nat.lt_or_ge xb W.heap.size with g | g
        · exact g
        · simp [World.cell?, Array.getElem?_eq_none g] at c0
      refine ⟨xb, xo, rfl, hblk, c0, ?_⟩
      have hi' : i < ss.length := by omega
      have : ss.getD i ByteArray.empty = ss[i] := by simp [List.getD, hi']
      show (ss.getD i ByteArray.empty).size ≤ maxLen
      rw [this]
      exact hws _ (List.getElem_mem hi')
  clear hA0 hval0
  refine (walk a0 len0 cap0 ss W w0).mono fun e W' ⟨he, bel⟩ => ?_
  subst he
  exact ⟨_, rfl, _, _, _, [], _, [], hW', trodAll_mk1 (shut_bool Yba.underlying4 _), (trodAll_cons_mk (Below.trod laidOut (by kernel_rfl) (of_decide_eq_true (by kernel_rfl)) k0 bel lt0) trodAll_mk0), rfl, bel.frame _, fun h => by cases h⟩

theorem over : Rows.lawS0395AModelRow.holds Yba.pinned (OpenSpec.ofChange Rows.lawS0395AModelSpec) :=
  OpenClaim.holds_of_wide 3 Yba.f3 rfl rfl rfl rfl rfl rfl rfl ⟨rfl, rfl, rfl, rfl, rfl⟩ rfl rfl rfl rfl rfl (by kernel_rfl) Yba.func3 (by kernel_rfl)
    (of_decide_eq_true (by kernel_rfl)) (by unfold Func.isWrapper; first | (rw [if_pos (by decide +kernel)]; kernel_rfl) | (rw [if_neg (by decide +kernel)]; exact ⟨rfl, rfl⟩))
    (fun os started H enc _ => lifted os started H enc)

theorem proved : Rows.LawS0395AModelSaid := over
#print axioms proved
end Go.Proofs.Ybulkhds.lawS0395AModel
