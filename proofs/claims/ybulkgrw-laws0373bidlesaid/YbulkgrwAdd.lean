/-
  addIdleLocked, by its contract.
-/
import Derived.Test.YbulkgrwIdle
import Derived.ArgAppend
namespace Go.Proofs.Ybulkgrw
open Go.RowKit Go.Conc

theorem Blk.apart {w : World} {a b n m : Nat} {t s : TypeId} {f h : Nat → Value} (h1 : Blk w a t n f) (h2 : Blk w b s m h) (hts : t ≠ s) : ¬ a = b := by
  obtain ⟨c1, e1, _⟩ := h1
  obtain ⟨c2, e2, _⟩ := h2
  intro e
  subst e
  rw [e1] at e2
  cases e2
  exact hts rfl

theorem p83_info : ∃ i : TypeInfo, Yba.prog.info? 83 = some i ∧ i.zero = some (.pointer none) ∧ i.size = 1 ∧ i.bytes = 8 := by
  have h : (Yba.prog.info? 83).map (fun i => (i.zero, i.size, i.bytes)) = some (some (.pointer none), 1, 8) := by kernel_rfl
  obtain ⟨i, hi, e⟩ := Option.map_eq_some_iff.1 h
  simp only [Prod.mk.injEq] at e
  exact ⟨i, hi, e.1, e.2.1, e.2.2⟩

/-- Nothing of what lay below B has turned, but the blocks of l. -/
structure But (B : Nat) (l : List Nat) (w w' : World) : Prop where
  os : w'.os = w.os
  tape : w'.tape = w.tape
  output : w'.output = w.output
  size : w.heap.size ≤ w'.heap.size
  block : ∀ k, k < B → k ∉ l → w'.heap[k]? = w.heap[k]?
theorem But.refl (B : Nat) (l : List Nat) (w : World) : But B l w w := ⟨rfl, rfl, rfl, Nat.le_refl _, fun _ _ _ => rfl⟩
theorem But.trans {B : Nat} {l : List Nat} {a b c : World} (h : But B l a b) (k : But B l b c) : But B l a c :=
  ⟨k.os.trans h.os, k.tape.trans h.tape, k.output.trans h.output, Nat.le_trans h.size k.size, fun i hi hn => (k.block i hi hn).trans (h.block i hi hn)⟩
theorem But.mono {B B' : Nat} {l l' : List Nat} {a b : World} (h : But B l a b) (hB : B' ≤ B) (hl : ∀ k, k ∈ l → k ∈ l') : But B' l' a b :=
  ⟨h.os, h.tape, h.output, h.size, fun i hi hn => h.block i (Nat.lt_of_lt_of_le hi hB) (fun x => hn (hl i x))⟩
theorem But.below {B : Nat} {a b : World} (l : List Nat) (h : Below B a b) : But B l a b := ⟨h.os, h.tape, h.output, h.size, fun i hi _ => h.block i hi⟩
theorem But.to {B : Nat} {l : List Nat} {a b : World} (h : But B l a b) (C : Nat) (hC : C ≤ B) (hl : ∀ k, k ∈ l → C ≤ k) : Below C a b :=
  ⟨h.os, h.tape, h.output, h.size, fun i hi => h.block i (Nat.lt_of_lt_of_le hi hC) (fun x => by have := hl i x; omega)⟩
theorem But.set {B : Nat} {l : List Nat} {a b : World} (h : But B l a b) (p : Addr) (v : Value) (hp : p.block ∈ l ∨ B ≤ p.block) : But B l a (b.setCell p v) :=
  h.trans ⟨rfl, rfl, rfl, by simp, fun i hi hn => Below.heap_setCell _ _ _ _ (fun e => by subst e; rcases hp with hp | hp; exact hn hp; omega)⟩
theorem But.drew {B : Nat} {l : List Nat} {a b : World} (h : But B l a b) : But B l a b.drew := ⟨h.os, h.tape, h.output, h.size, h.block⟩
theorem But.drewN {B : Nat} {l : List Nat} {a b : World} (h : But B l a b) (n : Nat) : But B l a (b.drewN n) := ⟨h.os, h.tape, h.output, h.size, h.block⟩
theorem But.alloc {B : Nat} {l : List Nat} {a b : World} (h : But B l a b) (hB : B ≤ b.heap.size) (o : Obj) : But B l a (b.alloc o) :=
  ⟨h.os, h.tape, h.output, by have := h.size; simp; omega, fun i hi hn => (Below.heap_alloc b o i (by omega)).trans (h.block i hi hn)⟩
theorem Blk.but {w w' : World} {B b n : Nat} {l : List Nat} {t : TypeId} {f : Nat → Value} (h : Blk w b t n f) (hb : But B l w w') (hB : b < B) (hn : b ∉ l) : Blk w' b t n f := h.block (hb.block b hB hn)

def AddPost (w : World) (sb wb ni np : Nat) (fs wf idf : Nat → Value) (e : Ending) (w' : World) : Prop :=
  e = .returned (.tuple #[]) ∧ ∃ g cap m gf, w.heap.size ≤ g ∧ Blk w' sb 66 34 (upd fs 12 (.slice (some ⟨g, 0, none⟩) (ni + 1) cap)) ∧
    Blk w' wb 91 12 (upd (upd wf 9 (.int .i64 ni)) 10 (.bool (decide ((np : Int) < (ni : Int) + 1)))) ∧ Blk w' g 83 m gf ∧ ni + 1 ≤ m ∧ (∀ i, i < ni → gf i = idf i) ∧ gf ni = .pointer (some ⟨wb, 0, none⟩) ∧
    But w.heap.size [sb, wb] w w'

set_option maxRecDepth 100000 in
set_option maxHeartbeats 1000000 in
theorem addIdle_c (sb wb ib gp ni np : Nat) (fs wf idf : Nat → Value) (w : World) (hs : Blk w sb 66 34 fs) (hw : Blk w wb 91 12 wf) (hi : Blk w ib 83 ni idf) (f0 : fs 0 = .slice (some ⟨gp, 0, none⟩) np np) (f12 : fs 12 = .slice (some ⟨ib, 0, none⟩) ni ni) (hni : ni ≤ 255) :
    Calls Yba.prog 29 #[.pointer (some ⟨sb, 0, none⟩), .pointer (some ⟨wb, 0, none⟩)] w (AddPost w sb wb ni np fs wf idf) := by
  obtain ⟨i83, hi83, hz, hsz, hby⟩ := p83_info
  have k12 : w.cell? ⟨sb, 12, none⟩ = some (.slice (some ⟨ib, 0, none⟩) ni ni) := by rw [hs.cell (by omega), f12]
  have k9 := hw.cell (i := 9) (by omega)
  have z9 := hw.frz 9
  have n1 := hw.apart hs (by decide)
  have n2 := hs.apart hw (by decide)
  have n3 := hi.apart hw (by decide)
  go_enter Yba.func29, Yba.ntmps29
  go_upto_region 1 with fail
  have s1 : Blk (w.setCell ⟨wb, 9, none⟩ (.int .i64 ni)) sb 66 34 fs := hs.other _ _ n2
  have w1 : Blk (w.setCell ⟨wb, 9, none⟩ (.int .i64 ni)) wb 91 12 (upd wf 9 (.int .i64 ni)) := hw.set 9 _
  have i1 : Blk (w.setCell ⟨wb, 9, none⟩ (.int .i64 ni)) ib 83 ni idf := hi.other _ _ n3
  have hsz1 : (w.setCell ⟨wb, 9, none⟩ (.int .i64 ni)).heap.size = w.heap.size := by simp
  have b1 : ∀ b, b ≠ sb → b ≠ wb → (w.setCell ⟨wb, 9, none⟩ (.int .i64 ni)).heap[b]? = w.heap[b]? := fun b _ h => Below.heap_setCell _ _ _ _ h
  have os1 : (w.setCell ⟨wb, 9, none⟩ (.int .i64 ni)).os = w.os ∧ (w.setCell ⟨wb, 9, none⟩ (.int .i64 ni)).tape = w.tape ∧ (w.setCell ⟨wb, 9, none⟩ (.int .i64 ni)).output = w.output := ⟨rfl, rfl, rfl⟩
  obtain ⟨v1, hv1⟩ : ∃ v1, v1 = w.setCell ⟨wb, 9, none⟩ (.int .i64 ni) := ⟨_, rfl⟩
  rw [← hv1] at s1 w1 i1 hsz1 b1 os1 ⊢
  clear hv1 k12 k9 z9
  have k12 : v1.cell? ⟨sb, 12, none⟩ = some (.slice (some ⟨ib, 0, none⟩) ni ni) := by rw [s1.cell (by omega), f12]
  have hW : Blk (v1.alloc (.cells #[.pointer (some ⟨wb, 0, none⟩)] 83)) ib 83 ni idf := i1.alloc _
  go_wp2_with (at_builtin; refine wpList_append_grows _ rfl (.tmp 16) (.tmp 18) 56 rfl 83 i83 (.pointer none) 1 8 Yba.underlying56 hi83 hz hsz hby rfl (by decide) (some ⟨ib, 0, none⟩) ni ni ((List.range ni).map idf) rfl (fun h => by cases h) (by simp) ?h1 _ 1 _ [.pointer (some ⟨wb, 0, none⟩)] rfl rfl ?h2 (fun u hu => by simp at hu; subst hu; rfl) (by omega) (by unfold maxLen; omega) (by omega) ?_)
  case h1 =>
    intro b hb j u hj
    cases hb
    rw [List.getElem?_map] at hj
    obtain ⟨x, hx, rfl⟩ := Option.map_eq_some_iff.1 hj
    obtain ⟨hlt, e⟩ := List.getElem?_eq_some_iff.1 hx
    simp at hlt e
    subst e
    rw [Go.WideShapes.add_plain, Nat.zero_add]
    exact hW.cell hlt
  case h2 =>
    intro j u hj
    obtain ⟨hlt, e⟩ := List.getElem?_eq_some_iff.1 hj
    simp at hlt
    subst hlt
    simp at e
    subst e
    rw [← hsz1]
    simp [Addr.add]
  intro v' w2 hown hg
  have hB2 := (Below.refl (v1.alloc (.cells #[.pointer (some ⟨wb, 0, none⟩)] 83)).heap.size (v1.alloc (.cells #[.pointer (some ⟨wb, 0, none⟩)] 83))).grown hg (Nat.le_refl _) (fun k h => by cases h)
  obtain ⟨g, cap, cur, rfl, hgb, hcur, hcap, htk⟩ : ∃ g cap cur, v' = .slice (some ⟨g, 0, none⟩) (ni + 1) cap ∧ w.heap.size < g ∧ w2.heap[g]? = some (.cells cur 83) ∧ ni + 1 ≤ cap ∧ cur.toList.take (ni + 1) = (List.range ni).map idf ++ [.pointer (some ⟨wb, 0, none⟩)] := by
    obtain ⟨_, h⟩ := hown
    rcases h with ⟨_, h0⟩ | ⟨g, cap, cur, rfl, hg, hh, hnc, hcm, hcs, htk⟩
    · omega
    · exact ⟨g, cap, cur, rfl, by omega, hh, hnc, by simpa using htk⟩
  clear hown hg
  have b2 : But w.heap.size [sb, wb] w w2 := by
    have b : But w.heap.size [sb, wb] w v1 := ⟨os1.1, os1.2.1, os1.2.2, by omega, fun k hk hn => b1 k (fun e => hn (by simp [e])) (fun e => hn (by simp [e]))⟩
    refine b.trans ((But.below _ (((Below.refl w.heap.size v1).alloc (by omega) (.cells #[.pointer (some ⟨wb, 0, none⟩)] 83)))).trans (But.below _ (hB2.mono (by simp; omega))))
  have s2 : Blk w2 sb 66 34 fs := (s1.alloc _).keep hB2 (s1.alloc _).lt
  have ww2 : Blk w2 wb 91 12 (upd wf 9 (.int .i64 ni)) := (w1.alloc _).keep hB2 (w1.alloc _).lt
  have hgs : ¬ g = sb := by have := s1.lt; omega
  have hgw : ¬ g = wb := by have := w1.lt; omega
  have hlt2 : w.heap.size < w2.heap.size := by have := hB2.size; simp at this; omega
  have hgc : Blk w2 g 83 cur.size (litF cur) := ⟨cur, hcur, rfl, fun i hi => by simp [hi, litF]⟩
  have hcl : ni + 1 ≤ cur.size := by
    have := congrArg List.length htk
    simp at this
    omega
  have hg1 : ∀ i, i < ni → litF cur i = idf i := by
    intro i hi
    have := congrArg (fun l => l[i]?) htk
    simp [hi, show i < ni + 1 by omega, show i < cur.size by omega] at this
    simp [litF, show i < cur.size by omega, this]
  have hg2 : litF cur ni = .pointer (some ⟨wb, 0, none⟩) := by
    have := congrArg (fun l => l[ni]?) htk
    simp [show ni < cur.size by omega] at this
    simp [litF, show ni < cur.size by omega, this]
  clear hB2 htk hcur hW i1 s1 w1 b1 os1 hi hs hw k12
  have k12 := s2.cell (i := 12) (by omega)
  have z12 := s2.frz 12
  go_upto_region 2 with fail
  have b3 := b2.set ⟨sb, 12, none⟩ (.slice (some ⟨g, 0, none⟩) (ni + 1) cap) (.inl (by simp))
  have s3 := s2.set 12 (.slice (some ⟨g, 0, none⟩) (ni + 1) cap)
  have w3 := ww2.other ⟨sb, 12, none⟩ (.slice (some ⟨g, 0, none⟩) (ni + 1) cap) n1
  have g3 := hgc.other ⟨sb, 12, none⟩ (.slice (some ⟨g, 0, none⟩) (ni + 1) cap) hgs
  obtain ⟨v3, hv3⟩ : ∃ v3, v3 = w2.setCell ⟨sb, 12, none⟩ (.slice (some ⟨g, 0, none⟩) (ni + 1) cap) := ⟨_, rfl⟩
  rw [← hv3] at b3 s3 w3 g3 ⊢
  clear hv3 k12 z12 b2 s2 ww2 hgc hlt2 hsz1
  have k12 := s3.cell (i := 12) (by omega)
  rw [upd_same] at k12
  have k0 := s3.cell (i := 0) (by omega)
  rw [upd_other _ _ _ _ (by omega), f0] at k0
  have k10 := w3.cell (i := 10) (by omega)
  have z10 := w3.frz 10
  clear f0 f12
  go_region_held3 (fun w' => w'.cell? ⟨sb, 12, none⟩ = some (.slice (some ⟨g, 0, none⟩) (ni + 1) cap) ∧ w'.cell? ⟨sb, 0, none⟩ = some (.slice (some ⟨gp, 0, none⟩) np np)) (go_keep) ((fail))
  refine ⟨rfl, .tuple #[], results_none rfl _ _ _, ?_⟩
  exact ⟨rfl, g, cap, _, _, by omega, (s3.other _ _ n2).drew, (w3.set 10 _).drew, (g3.other _ _ hgw).drew, hcl, hg1, hg2, (b3.set _ _ (.inl (by simp))).drew⟩
end Go.Proofs.Ybulkgrw
