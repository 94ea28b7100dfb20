/-
  idleLocked where none waits, by its contract.
-/
import Derived.Test.YbulkgrwIdleW
namespace Go.Proofs.Ybulkgrw
open Go.RowKit Go.Conc

theorem p68_info : ∃ i : TypeInfo, Yba.prog.info? 68 = some i ∧ i.zero = some (.pointer none) ∧ i.size = 1 ∧ i.bytes = 8 := by
  have h : (Yba.prog.info? 68).map (fun i => (i.zero, i.size, i.bytes)) = some (some (.pointer none), 1, 8) := by kernel_rfl
  obtain ⟨i, hi, e⟩ := Option.map_eq_some_iff.1 h
  simp only [Prod.mk.injEq] at e
  exact ⟨i, hi, e.1, e.2.1, e.2.2⟩

def FreePost (w : World) (sb wb ni np nq : Nat) (fs wf idf qf : Nat → Value) (p : Option Addr) (nid : Int) (e : Ending) (w' : World) : Prop :=
  e = .returned (.tuple #[]) ∧ ∃ g cap m gf h cap' m' hf, w.heap.size ≤ g ∧ w.heap.size ≤ h ∧
    Blk w' sb 66 34 (upd (upd (upd fs 12 (.slice (some ⟨g, 0, none⟩) (ni + 1) cap)) 13 (.slice (some ⟨h, 0, none⟩) (nq + 1) cap')) 22 (.int .i32 (wrap32 (nid + 1)))) ∧
    Blk w' wb 91 12 (wf2 wf ni np) ∧ Blk w' g 83 m gf ∧ ni + 1 ≤ m ∧ (∀ i, i < ni → gf i = idf i) ∧ gf ni = .pointer (some ⟨wb, 0, none⟩) ∧
    Blk w' h 68 m' hf ∧ nq + 1 ≤ m' ∧ (∀ i, i < nq → hf i = qf i) ∧ hf nq = .pointer p ∧ But w.heap.size [sb, wb] w w'

set_option maxRecDepth 100000 in
set_option maxHeartbeats 1000000 in
theorem idleFree_c (sb wb ib gp tb qb ni np nq : Nat) (fs wf idf qf : Nat → Value) (p : Option Addr) (nid : Int) (w : World) (hs : Blk w sb 66 34 fs) (hw : Blk w wb 91 12 wf) (hi : Blk w ib 83 ni idf) (hq : Blk w qb 68 nq qf)
    (f0 : fs 0 = .slice (some ⟨gp, 0, none⟩) np np) (f12 : fs 12 = .slice (some ⟨ib, 0, none⟩) ni ni) (f13 : fs 13 = .slice (some ⟨qb, 0, none⟩) nq nq) (f14 : fs 14 = .slice (some ⟨tb, 0, none⟩) 0 0) (f22 : fs 22 = .int .i32 nid)
    (wf0 : wf 0 = .pointer p) (hni : ni ≤ 255) (hnq : nq ≤ 8) :
    Calls Yba.prog 14 #[.pointer (some ⟨sb, 0, none⟩), .pointer (some ⟨wb, 0, none⟩)] w (FreePost w sb wb ni np nq fs wf idf qf p nid) := by
  obtain ⟨i68, hi68, hz, hsz, hby⟩ := p68_info
  have n1 := hw.apart hs (by decide)
  have n2 := hs.apart hw (by decide)
  have n5 := hi.apart hs (by decide)
  have n6 := hi.apart hw (by decide)
  have n7 := hq.apart hs (by decide)
  have n8 := hq.apart hw (by decide)
  have k0 := hw.cell (i := 0) (by omega)
  rw [wf0] at k0
  have z0 := hw.frz 0
  go_enter Yba.func14, Yba.ntmps14
  go_upto_region 2 with fail
  have s1 := hs.other ⟨wb, 0, none⟩ (.pointer none) n2
  have i1 := hi.other ⟨wb, 0, none⟩ (.pointer none) n6
  have q1 := hq.other ⟨wb, 0, none⟩ (.pointer none) n8
  have w1 := hw.set 0 (.pointer none)
  have b1 := (But.refl w.heap.size [sb, wb] w).set ⟨wb, 0, none⟩ (.pointer none) (.inl (by simp))
  have hsz1 : (w.setCell ⟨wb, 0, none⟩ (.pointer none)).heap.size = w.heap.size := by simp
  have slt := hs.lt
  have wlt := hw.lt
  have qlt := hq.lt
  obtain ⟨v1, hv1⟩ : ∃ v1, v1 = w.setCell ⟨wb, 0, none⟩ (.pointer none) := ⟨_, rfl⟩
  rw [← hv1] at s1 i1 q1 w1 b1 hsz1 ⊢
  clear hv1 k0 z0 hs hw hi hq wf0
  go_upto_region 3 with (go_at_call 29; refine (addIdle_c sb wb ib gp ni np fs _ idf _ s1 w1 i1 f0 f12 hni).mono ?_; rintro e w2 ⟨rfl, g, cap, m, gf, hg, s2, ww2, g2, hm, hgf, hgn, b2⟩)
  rw [hsz1] at hg b2
  have q2 : Blk w2 qb 68 nq qf := q1.but b2 qlt (by simp; exact ⟨n7, n8⟩)
  have b2' : But w.heap.size [sb, wb] w w2 := b1.trans b2
  clear b1 b2 q1 w1 i1 s1
  have glt := g2.lt
  have k14 := s2.cell (i := 14) (by omega)
  rw [upd_other _ _ _ _ (by omega), f14] at k14
  have k13 := s2.cell (i := 13) (by omega)
  rw [upd_other _ _ _ _ (by omega), f13] at k13
  have hW : Blk (w2.alloc (.cells #[.pointer p] 68)) qb 68 nq qf := q2.alloc _
  go_upto_region 10 with fail
  go_wp2_with (at_builtin; refine wpList_append_grows _ rfl (.tmp 75) (.tmp 77) 39 rfl 68 i68 (.pointer none) 1 8 Yba.underlying39 hi68 hz hsz hby rfl (by decide) (some ⟨qb, 0, none⟩) nq nq ((List.range nq).map qf) rfl (fun h => by cases h) (by simp) ?h1 _ 1 _ [.pointer p] rfl rfl ?h2 (fun u hu => by simp at hu; subst hu; rfl) (by omega) (by unfold maxLen; omega) (by omega) ?_)
  case h1 =>
    intro b hb j u hj
    cases hb
    rw [List.getElem?_map] at hj
    obtain ⟨x, hx, rfl⟩ := Option.map_eq_some_iff.1 hj
    obtain ⟨hlt, e⟩ := List.getElem?_eq_some_iff.1 hx
    simp at hlt e
    subst e
    rw [Go.WideShapes.add_plain, Nat.zero_add]
    exact hW.cell hlt
  case h2 =>
    intro j u hj
    obtain ⟨hlt, e⟩ := List.getElem?_eq_some_iff.1 hj
    simp at hlt
    subst hlt
    simp at e
    subst e
    simp [Addr.add]
  intro v' w3 hown hg3
  have hB3 := (Below.refl (w2.alloc (.cells #[.pointer p] 68)).heap.size (w2.alloc (.cells #[.pointer p] 68))).grown hg3 (Nat.le_refl _) (fun k h => by cases h)
  obtain ⟨h, cap', cur, rfl, hgb, hcur, hcap, htk⟩ : ∃ h cap' cur, v' = .slice (some ⟨h, 0, none⟩) (nq + 1) cap' ∧ w2.heap.size < h ∧ w3.heap[h]? = some (.cells cur 68) ∧ nq + 1 ≤ cap' ∧ cur.toList.take (nq + 1) = (List.range nq).map qf ++ [.pointer p] := by
    obtain ⟨_, h⟩ := hown
    rcases h with ⟨_, h0⟩ | ⟨g, cap, cur, rfl, hg, hh, hnc, hcm, hcs, htk⟩
    · omega
    · exact ⟨g, cap, cur, rfl, by omega, hh, hnc, by simpa using htk⟩
  clear hown hg3
  have b3 : But w.heap.size [sb, wb] w w3 := (b2'.alloc b2'.size _).trans (But.below _ (hB3.mono (by have := b2'.size; simp; omega)))
  have s3 := (s2.alloc (.cells #[.pointer p] 68)).keep hB3 (s2.alloc _).lt
  have ww3 := (ww2.alloc (.cells #[.pointer p] 68)).keep hB3 (ww2.alloc _).lt
  have g3 := (g2.alloc (.cells #[.pointer p] 68)).keep hB3 (g2.alloc _).lt
  have hhs : ¬ h = sb := by have := s2.lt; omega
  have hhw : ¬ h = wb := by have := ww2.lt; omega
  have hgs : ¬ g = sb := by omega
  have hwh : w.heap.size ≤ h := by have := b2'.size; omega
  have hc : Blk w3 h 68 cur.size (litF cur) := ⟨cur, hcur, rfl, fun i hi => by simp [hi, litF]⟩
  have hcl : nq + 1 ≤ cur.size := by
    have := congrArg List.length htk
    simp at this
    omega
  have hh1 : ∀ i, i < nq → litF cur i = qf i := by
    intro i hi
    have := congrArg (fun l => l[i]?) htk
    simp [hi, show i < nq + 1 by omega, show i < cur.size by omega] at this
    simp [litF, show i < cur.size by omega, this]
  have hh2 : litF cur nq = .pointer p := by
    have := congrArg (fun l => l[nq]?) htk
    simp [show nq < cur.size by omega] at this
    simp [litF, show nq < cur.size by omega, this]
  clear hB3 htk hcur hW s2 ww2 g2 q2 k13 k14 b2' hi68 hz hsz hby
  have k13 := s3.cell (i := 13) (by omega)
  have z13 := s3.frz 13
  go_upto_region 11 with fail
  have s4 := s3.set 13 (.slice (some ⟨h, 0, none⟩) (nq + 1) cap')
  have ww4 := ww3.other ⟨sb, 13, none⟩ (.slice (some ⟨h, 0, none⟩) (nq + 1) cap') n1
  have g4 := g3.other ⟨sb, 13, none⟩ (.slice (some ⟨h, 0, none⟩) (nq + 1) cap') hgs
  have h4 := hc.other ⟨sb, 13, none⟩ (.slice (some ⟨h, 0, none⟩) (nq + 1) cap') hhs
  have b4 := b3.set ⟨sb, 13, none⟩ (.slice (some ⟨h, 0, none⟩) (nq + 1) cap') (.inl (by simp))
  obtain ⟨v4, hv4⟩ : ∃ v4, v4 = w3.setCell ⟨sb, 13, none⟩ (.slice (some ⟨h, 0, none⟩) (nq + 1) cap') := ⟨_, rfl⟩
  rw [← hv4] at s4 ww4 g4 h4 b4 ⊢
  clear hv4 s3 ww3 g3 hc b3 k13 z13
  have k22 := s4.cell (i := 22) (by omega)
  rw [upd_other _ _ _ _ (by omega), upd_other _ _ _ _ (by omega), f22] at k22
  have z22 := s4.frz 22
  have hpost : FreePost w sb wb ni np nq fs wf idf qf p nid (.returned (.tuple #[])) (v4.setCell ⟨sb, 22, none⟩ (.int .i32 (wrap32 (nid + 1)))) :=
    ⟨rfl, g, cap, m, gf, h, cap', _, _, hg, hwh, s4.set 22 _, ww4.other _ _ n1, g4.other _ _ hgs, hm, hgf, hgn, h4.other _ _ hhs, hcl, hh1, hh2, b4.set _ _ (.inl (by simp))⟩
  clear s4 ww4 g4 h4 b4
  go_wp2_with (go_at_call 30; refine (addI32_c ⟨sb, 22, none⟩ nid 1 _ k22 z22).mono ?_; rintro e w' ⟨rfl, hw'⟩; rw [← hw'] at hpost; clear hw')
  exact ⟨rfl, .tuple #[], results_none rfl _ _ _, hpost⟩
end Go.Proofs.Ybulkgrw
