/-
  idleLocked, by its contracts: a worker waits; none waits.
-/
import Derived.Test.YbulkgrwAdd
import Derived.Laws.CopyOwn
namespace Go.Proofs.Ybulkgrw
open Go.RowKit Go.Conc

/-- Nothing has turned but the block g. -/
structure Only (g : Nat) (w w' : World) : Prop where
  os : w'.os = w.os
  tape : w'.tape = w.tape
  output : w'.output = w.output
  size : w'.heap.size = w.heap.size
  block : ∀ k, k ≠ g → w'.heap[k]? = w.heap[k]?
theorem Only.but {g : Nat} {w w' : World} (h : Only g w w') (B : Nat) (l : List Nat) (hg : g ∈ l ∨ B ≤ g) : But B l w w' :=
  ⟨h.os, h.tape, h.output, by rw [h.size]; exact Nat.le_refl _, fun k hk hn => h.block k (fun e => by subst e; rcases hg with hg | hg; exact hn hg; omega)⟩
theorem Blk.only {w w' : World} {g b n : Nat} {t : TypeId} {f : Nat → Value} (h : Blk w b t n f) (ho : Only g w w') (hn : b ≠ g) : Blk w' b t n f := h.block (ho.block b hn)
theorem Only.cell {g : Nat} {w w' : World} (h : Only g w w') (a : Addr) (hn : a.block ≠ g) : w'.cell? a = w.cell? a := World.cell?_of_block (w := w) (h.block _ hn)
theorem Only.frz {g : Nat} {w w' : World} (h : Only g w w') (a : Addr) (hn : a.block ≠ g) : w'.frozen? a = w.frozen? a := World.frozen?_of_block (w := w) (h.block _ hn)

theorem only_setChan (w : World) (c cap : Nat) (buf : Array Value) (cl : Bool) (s r : Nat) (tm : Bool) : Only c w (w.setChan c cap buf cl s r tm) :=
  ⟨rfl, rfl, rfl, size_setChan _ _ _ _ _ _ _ _, fun k hk => by simp [World.setChan, Ne.symm hk]⟩
theorem one83 : (Yba.prog.info? 83).map (·.size) = some 1 := by kernel_rfl

/-- copy into a block of pointers, from its first cell on. -/
theorem run_copy83 (w : World) (ty : TypeId) (g N dLen dCap : Nat) (f : Nat → Value) (hB : Blk w g 83 N f) (sp : Option Addr) (sLen sCap n : Nat) (h : Nat → Value) (hn : n = Nat.min sLen dLen) (hN : n ≤ N)
    (hsrc : 0 < n → ∃ ad, sp = some ad ∧ ∀ j, j < n → w.cell? (ad.add j) = some (h j)) (h1 : ∀ j, j < n → (h j).oneCell' = true) :
    ∃ w', (Builtin.copy_ #[56, 56] ty #[.slice (some ⟨g, 0, none⟩) dLen dCap, .slice sp sLen sCap]).run Yba.prog w = .ok (goInt n) w' ∧ Blk w' g 83 N (fun i => if i < n then h i else f i) ∧ Only g w w' := by
  by_cases h0 : n = 0
  · subst h0
    exact ⟨w, run_copy_none (P := Yba.prog) w 56 56 ty 83 _ sp dLen dCap sLen sCap Yba.underlying56 one83 hn.symm, hB.to (fun i _ => by simp), ⟨rfl, rfl, rfl, rfl, fun _ _ => rfl⟩⟩
  · obtain ⟨ad, rfl, hs⟩ := hsrc (by omega)
    obtain ⟨cs, e1, e2, e3⟩ := hB
    have p1 : ∀ (j : Nat) (v : Value), ((List.range n).map h)[j]? = some v → w.cell? (ad.add j) = some v := by
      intro j v hj
      rw [List.getElem?_map] at hj
      obtain ⟨x, hx, rfl⟩ := Option.map_eq_some_iff.1 hj
      obtain ⟨hlt, e⟩ := List.getElem?_eq_some_iff.1 hx
      simp at hlt e
      subst e
      exact hs _ hlt
    have p2 : ∀ v, v ∈ (List.range n).map h → v.oneCell' = true := by
      intro v hv
      simp at hv
      obtain ⟨j, hj, rfl⟩ := hv
      exact h1 j hj
    refine ⟨w.setRow g ((List.range n).map h ++ List.drop n cs.toList).toArray, by simpa using run_copy_row (P := Yba.prog) w 56 56 ty 83 g 0 dLen dCap ad sLen sCap cs 83 ((List.range n).map h) Yba.underlying56 one83 e1 (by simpa using hn) p1 (by simp; omega) p2, ?_, ?_⟩
    · refine ⟨_, setRow_heap w g _ _ 83 _ e1, by simp; omega, fun i hi => ?_⟩
      by_cases hin : i < n
      · simp [List.getElem?_append, hin]
      · simp [hin, List.getElem?_append, List.getElem?_drop, show n + (i - n) = i by omega, e3 i hi]
    · exact ⟨rfl, rfl, rfl, by simp [World.setRow], fun k hk => setRow_other w g k _ hk⟩

/-- THE SAME AS ONE STEP OF A REGION THAT DRAWS. -/
theorem step_copy83 {ops : Array Oper} {o : Oper} {a : Act} {w : World} {K : Act → World → Prop} {Q : Exit → Act → World → Prop} {E : Prop} (hgd : o.guard = none) (d s : Operand)
    (ho : o.op = .call { callee := .builtin .copy, args := #[d, s], argTypes := #[56, 56] }) (g N dLen dCap : Nat) (f : Nat → Value) (hB : Blk w g 83 N f) (sp : Option Addr) (sLen sCap n : Nat) (h : Nat → Value)
    (hd : a.eval d = .slice (some ⟨g, 0, none⟩) dLen dCap) (hs : a.eval s = .slice sp sLen sCap) (hn : n = Nat.min sLen dLen) (hN : n ≤ N)
    (hsrc : 0 < n → ∃ ad, sp = some ad ∧ ∀ j, j < n → w.cell? (ad.add j) = some (h j)) (h1 : ∀ j, j < n → (h j).oneCell' = true)
    (hK : ∀ w', Blk w' g 83 N (fun i => if i < n then h i else f i) → Only g w w' → K (a.put o.dst (goInt n)) w') :
    if Region.wanted o (yielded ops a.tmps) = true then Oper.wp Yba.prog o a w K Q else E := by
  have hw : Region.wanted o (yielded ops a.tmps) = true := by simp [Region.wanted, hgd]
  rw [if_pos hw]
  obtain ⟨w', hrun, hb, hon⟩ := run_copy83 w o.type g N dLen dCap f hB sp sLen sCap n h hn hN hsrc h1
  unfold Oper.wp
  simp [execOp, ho, resolve, invoke, builtin, hd, hs, hrun, Result.andThen]
  exact hK _ hb hon
theorem wpList_copy83 {ops : Array Oper} {rest : List Oper} {o : Oper} {a : Act} {w : World} {Q : Exit → Act → World → Prop} (hgd : o.guard = none) (d s : Operand)
    (ho : o.op = .call { callee := .builtin .copy, args := #[d, s], argTypes := #[56, 56] }) (g N dLen dCap : Nat) (f : Nat → Value) (hB : Blk w g 83 N f) (sp : Option Addr) (sLen sCap n : Nat) (h : Nat → Value)
    (hd : a.eval d = .slice (some ⟨g, 0, none⟩) dLen dCap) (hs : a.eval s = .slice sp sLen sCap) (hn : n = Nat.min sLen dLen) (hN : n ≤ N)
    (hsrc : 0 < n → ∃ ad, sp = some ad ∧ ∀ j, j < n → w.cell? (ad.add j) = some (h j)) (h1 : ∀ j, j < n → (h j).oneCell' = true)
    (hK : ∀ w', Blk w' g 83 N (fun i => if i < n then h i else f i) → Only g w w' → wpList Yba.prog ops Q rest (a.put o.dst (goInt n)) w') :
    wpList Yba.prog ops Q (o :: rest) a w := by
  refine wpList_plain hgd fun K hK' => ?_
  obtain ⟨w', hrun, hb, hon⟩ := run_copy83 w o.type g N dLen dCap f hB sp sLen sCap n h hn hN hsrc h1
  unfold Oper.wp
  simp [execOp, ho, resolve, invoke, builtin, hd, hs, hrun, Result.andThen]
  exact hK' _ _ (hK _ hb hon)

/-- What idleLocked leaves of the idle list and of the worker. -/
def wf2 (wf : Nat → Value) (ni np : Nat) : Nat → Value := upd (upd (upd wf 0 (.pointer none)) 9 (.int .i64 ni)) 10 (.bool (decide ((np : Int) < (ni : Int) + 1)))
def shiftF (tf : Nat → Value) (nw : Nat) : Nat → Value := upd (fun i => if i < nw - 1 then tf (i + 1) else tf i) (nw - 1) (.pointer none)
def WaitPost (w : World) (sb wb tb c ni np nw : Nat) (fs wf idf tf : Nat → Value) (p : Option Addr) (nwt nh : Int) (s r : Nat) (tm : Bool) (e : Ending) (w' : World) : Prop :=
  e = .returned (.tuple #[]) ∧ ∃ g cap m gf, w.heap.size ≤ g ∧
    Blk w' sb 66 34 (upd (upd (upd (upd fs 12 (.slice (some ⟨g, 0, none⟩) (ni + 1) cap)) 14 (.slice (some ⟨tb, 0, none⟩) (nw - 1) nw)) 23 (.int .i32 (wrap32 (nwt + -1)))) 25 (.int .i32 (wrap32 (nh + 1)))) ∧
    Blk w' wb 91 12 (wf2 wf ni np) ∧ Blk w' g 83 m gf ∧ ni + 1 ≤ m ∧ (∀ i, i < ni → gf i = idf i) ∧ gf ni = .pointer (some ⟨wb, 0, none⟩) ∧
    Blk w' tb 83 nw (shiftF tf nw) ∧ w'.heap[c]? = some (.chan 1 #[.pointer p] false (s + 1) r tm) ∧ But w.heap.size [sb, wb, tb, c] w w'

set_option maxRecDepth 100000 in
set_option maxHeartbeats 1000000 in
theorem idleWait_c (sb wb ib gp tb xb c ni np nw s r : Nat) (tm : Bool) (fs wf idf tf : Nat → Value) (p : Option Addr) (nwt nh : Int) (w : World) (hs : Blk w sb 66 34 fs) (hw : Blk w wb 91 12 wf) (hi : Blk w ib 83 ni idf) (ht : Blk w tb 83 nw tf)
    (f0 : fs 0 = .slice (some ⟨gp, 0, none⟩) np np) (f12 : fs 12 = .slice (some ⟨ib, 0, none⟩) ni ni) (f14 : fs 14 = .slice (some ⟨tb, 0, none⟩) nw nw) (f23 : fs 23 = .int .i32 nwt) (f25 : fs 25 = .int .i32 nh)
    (wf0 : wf 0 = .pointer p) (t0 : tf 0 = .pointer (some ⟨xb, 0, none⟩)) (tp : ∀ j, j < nw → (tf j).oneCell' = true) (hx : w.cell? ⟨xb, 2, none⟩ = some (.chan (some c))) (hxw : ¬ xb = wb) (hxs : ¬ xb = sb) (hxt : ¬ xb = tb) (hc : w.heap[c]? = some (.chan 1 #[] false s r tm))
    (hni : ni ≤ 255) (hnw : 0 < nw) (hnw5 : nw ≤ 5) :
    Calls Yba.prog 14 #[.pointer (some ⟨sb, 0, none⟩), .pointer (some ⟨wb, 0, none⟩)] w (WaitPost w sb wb tb c ni np nw fs wf idf tf p nwt nh s r tm) := by
  have n1 := hw.apart hs (by decide)
  have n2 := hs.apart hw (by decide)
  have n3 := ht.apart hs (by decide)
  have n4 := ht.apart hw (by decide)
  have n5 := hi.apart hs (by decide)
  have n6 := hi.apart hw (by decide)
  have k0 := hw.cell (i := 0) (by omega)
  rw [wf0] at k0
  have z0 := hw.frz 0
  go_enter Yba.func14, Yba.ntmps14
  go_upto_region 2 with fail
  have cs1 : ¬ c = sb := by obtain ⟨_, h, _⟩ := hs; intro e; subst e; rw [hc] at h; cases h
  have cw1 : ¬ c = wb := by obtain ⟨_, h, _⟩ := hw; intro e; subst e; rw [hc] at h; cases h
  have ct1 : ¬ c = tb := by obtain ⟨_, h, _⟩ := ht; intro e; subst e; rw [hc] at h; cases h
  have hclt : c < w.heap.size := (Array.getElem?_eq_some_iff.1 hc).1
  have hxlt : xb < w.heap.size := by
    rcases Nat.lt_or_ge xb w.heap.size with h | h
    · exact h
    · simp [World.cell?, h] at hx
  have s1 := hs.other ⟨wb, 0, none⟩ (.pointer none) n2
  have i1 := hi.other ⟨wb, 0, none⟩ (.pointer none) n6
  have t1 := ht.other ⟨wb, 0, none⟩ (.pointer none) n4
  have w1 := hw.set 0 (.pointer none)
  have b1 := (But.refl w.heap.size [sb, wb, tb, c] w).set ⟨wb, 0, none⟩ (.pointer none) (.inl (by simp))
  have x1 : (w.setCell ⟨wb, 0, none⟩ (.pointer none)).cell? ⟨xb, 2, none⟩ = some (.chan (some c)) := by
    rw [World.cell?_setCell_other _ _ _ _ (by simp)]; exact hx
  have c1 : (w.setCell ⟨wb, 0, none⟩ (.pointer none)).heap[c]? = some (.chan 1 #[] false s r tm) := by
    rw [Below.heap_setCell _ _ _ _ cw1]; exact hc
  have hsz1 : (w.setCell ⟨wb, 0, none⟩ (.pointer none)).heap.size = w.heap.size := by simp
  have slt := hs.lt
  have wlt := hw.lt
  have tlt := ht.lt
  obtain ⟨v1, hv1⟩ : ∃ v1, v1 = w.setCell ⟨wb, 0, none⟩ (.pointer none) := ⟨_, rfl⟩
  rw [← hv1] at s1 i1 t1 w1 b1 x1 c1 hsz1 ⊢
  clear hv1 k0 z0 hs hw hi ht hx hc wf0
  go_upto_region 3 with (go_at_call 29; refine (addIdle_c sb wb ib gp ni np fs _ idf _ s1 w1 i1 f0 f12 hni).mono ?_; rintro e w2 ⟨rfl, g, cap, m, gf, hg, s2, ww2, g2, hm, hgf, hgn, b2⟩)
  rw [hsz1] at hg b2
  have t2 : Blk w2 tb 83 nw tf := t1.but b2 tlt (by simp; exact ⟨n3, n4⟩)
  have x2 : w2.cell? ⟨xb, 2, none⟩ = some (.chan (some c)) := (World.cell?_of_block (w := v1) (b2.block xb hxlt (by simp; exact ⟨hxs, hxw⟩))).trans x1
  have c2 : w2.heap[c]? = some (.chan 1 #[] false s r tm) := (b2.block c hclt (by simp; exact ⟨cs1, cw1⟩)).trans c1
  have b2' : But w.heap.size [sb, wb, tb, c] w w2 := b1.trans (b2.mono (Nat.le_refl _) (by simp))
  clear b1 b2 c1 x1 t1 w1 i1 s1
  have k14 := s2.cell (i := 14) (by omega)
  rw [upd_other _ _ _ _ (by omega), f14] at k14
  have kt0 := t2.cell (i := 0) hnw
  rw [t0] at kt0
  go_upto_region 5 with fail
  clear kt0
  have l1 : (1 : Int) ≤ (nw : Int) := by omega
  have hsrc : 0 < nw - 1 → ∃ ad, (if nw = 1 then some (⟨tb, 0, none⟩ : Addr) else some ⟨tb, 1, none⟩) = some ad ∧ ∀ j, j < nw - 1 → w2.drew.cell? (ad.add j) = some (tf (j + 1)) := by
    intro h
    refine ⟨⟨tb, 1, none⟩, if_neg (by omega), fun j hj => ?_⟩
    rw [Go.WideShapes.add_plain, Nat.add_comm]
    exact t2.drew.cell (by omega)
  have ntp : ∀ j, j < nw - 1 → (tf (j + 1)).oneCell' = true := fun j hj => tp _ (by omega)
  clear tp
  have hle : nw - 1 ≤ nw := by omega
  have hbk : ∀ w3, Only tb w2.drew w3 → w3.cell? ⟨sb, 14, none⟩ = some (.slice (some ⟨tb, 0, none⟩) nw nw) := fun w3 h => (h.cell ⟨sb, 14, none⟩ (fun e => n3 e.symm)).trans k14
  go_region_held3 (fun w' => w'.cell? ⟨sb, 14, none⟩ = some (.slice (some ⟨tb, 0, none⟩) nw nw)) (go_keep) ((refine step_copy83 rfl (.tmp 31) (.tmp 36) rfl tb nw nw nw tf t2.drew _ (nw - 1) (nw - 1) (nw - 1) (fun i => tf (i + 1)) rfl rfl (Nat.min_eq_left hle).symm hle hsrc ntp ?_; intro w3 t3 o3; have q14 := hbk _ o3))
  clear hsrc
  generalize (if nw = 1 then some (⟨tb, 0, none⟩ : Addr) else some ⟨tb, 1, none⟩) = q1
  have s3 := s2.drew.only o3 (fun e => n3 e.symm)
  have ww3 := ww2.drew.only o3 (fun e => n4 e.symm)
  have g3 := g2.drew.only o3 (by omega)
  have x3 : w3.cell? ⟨xb, 2, none⟩ = some (.chan (some c)) := (o3.cell _ hxt).trans x2
  have c3 : w3.heap[c]? = some (.chan 1 #[] false s r tm) := (o3.block c ct1).trans c2
  have b3 := b2'.drew.trans (o3.but w.heap.size [sb, wb, tb, c] (.inl (by simp)))
  clear k14 ntp hbk t2 o3 s2 ww2 g2 x2 c2 b2'
  have kt := t3.cell (i := nw - 1) (by omega)
  have zt := t3.frz (nw - 1)
  have e1 : ((nw : Int) - 1).toNat = nw - 1 := by omega
  have e2 : (0 : Int) ≤ (nw : Int) - 1 := by omega
  have e3 : (nw : Int) - 1 < (nw : Int) := by omega
  have e4 : IntKind.i64.wrap ((nw : Int) - 1) = (nw : Int) - 1 := by rw [IntKind.wrap_i64]; omega
  go_upto_region 6 with fail
  go_region_held3 (fun w' => w'.cell? ⟨sb, 14, none⟩ = some (.slice (some ⟨tb, 0, none⟩) nw nw)) (go_keep) ((fail))
  clear q14 kt zt
  rename_i h14
  have t4 : Blk (w3.setCell ⟨tb, nw - 1, none⟩ (.pointer none)) tb 83 nw (shiftF tf nw) := t3.set (nw - 1) (.pointer none)
  have s4 := s3.other ⟨tb, nw - 1, none⟩ (.pointer none) (fun e => n3 e.symm)
  have ww4 := ww3.other ⟨tb, nw - 1, none⟩ (.pointer none) (fun e => n4 e.symm)
  have g4 := g3.other ⟨tb, nw - 1, none⟩ (.pointer none) (by simp; omega)
  have x4 : (w3.setCell ⟨tb, nw - 1, none⟩ (.pointer none)).cell? ⟨xb, 2, none⟩ = some (.chan (some c)) := by rw [World.cell?_setCell_other _ _ _ _ (by simp)]; exact x3
  have c4 : (w3.setCell ⟨tb, nw - 1, none⟩ (.pointer none)).heap[c]? = some (.chan 1 #[] false s r tm) := by rw [Below.heap_setCell _ _ _ _ ct1]; exact c3
  have b4 := b3.set ⟨tb, nw - 1, none⟩ (.pointer none) (.inl (by simp))
  obtain ⟨v4, hv4⟩ : ∃ v4, v4 = w3.setCell ⟨tb, nw - 1, none⟩ (.pointer none) := ⟨_, rfl⟩
  rw [← hv4] at s4 t4 ww4 g4 x4 c4 b4 h14 ⊢
  clear hv4 s3 t3 ww3 g3 x3 c3 b3
  replace s4 := s4.drew
  replace t4 := t4.drew
  replace ww4 := ww4.drew
  replace g4 := g4.drew
  replace x4 : v4.drew.cell? ⟨xb, 2, none⟩ = some (.chan (some c)) := x4
  replace c4 : v4.drew.heap[c]? = some (.chan 1 #[] false s r tm) := c4
  replace b4 := b4.drew
  obtain ⟨v5, hv5⟩ : ∃ v5, v5 = v4.drew := ⟨_, rfl⟩
  rw [← hv5] at s4 t4 ww4 g4 x4 c4 b4 h14 ⊢
  clear hv5
  have z14 := s4.frz 14
  have e5 : (nw : Int) - 1 ≤ (nw : Int) := by omega
  go_upto_region 7 with fail
  go_region_with (fail)
  all_goals (
    have s5 := (s4.set 14 (.slice (some ⟨tb, 0, none⟩) (nw - 1) nw)).drew
    have t5 := (t4.other ⟨sb, 14, none⟩ (.slice (some ⟨tb, 0, none⟩) (nw - 1) nw) n3).drew
    have ww5 := (ww4.other ⟨sb, 14, none⟩ (.slice (some ⟨tb, 0, none⟩) (nw - 1) nw) n1).drew
    have g5 := (g4.other ⟨sb, 14, none⟩ (.slice (some ⟨tb, 0, none⟩) (nw - 1) nw) (by simp; omega)).drew
    have x5 : (v5.setCell ⟨sb, 14, none⟩ (.slice (some ⟨tb, 0, none⟩) (nw - 1) nw)).drew.cell? ⟨xb, 2, none⟩ = some (.chan (some c)) := (World.cell?_setCell_other _ _ _ _ (by simp)).trans x4
    have c5 : (v5.setCell ⟨sb, 14, none⟩ (.slice (some ⟨tb, 0, none⟩) (nw - 1) nw)).drew.heap[c]? = some (.chan 1 #[] false s r tm) := (Below.heap_setCell _ _ _ _ cs1).trans c4
    have b5 := (b4.set ⟨sb, 14, none⟩ (.slice (some ⟨tb, 0, none⟩) (nw - 1) nw) (.inl (by simp))).drew
    obtain ⟨v6, hv6⟩ : ∃ v6, v6 = (v5.setCell ⟨sb, 14, none⟩ (.slice (some ⟨tb, 0, none⟩) (nw - 1) nw)).drew := ⟨_, rfl⟩
    rw [← hv6] at s5 t5 ww5 g5 x5 c5 b5 ⊢
    clear hv6 h14 z14 s4 t4 ww4 g4 x4 c4 b4
    have k23 := s5.cell (i := 23) (by omega)
    rw [upd_other _ _ _ _ (by omega), upd_other _ _ _ _ (by omega), f23] at k23
    have z23 := s5.frz 23
    go_upto_region 9 with (go_at_call 30; refine (addI32_c ⟨sb, 23, none⟩ nwt (-1) _ k23 z23).mono ?_; rintro e w' ⟨rfl, hw'⟩; rw [hw']; clear hw' w')
    have s6 := s5.set 23 (.int .i32 (wrap32 (nwt + -1)))
    have t6 := t5.other ⟨sb, 23, none⟩ (.int .i32 (wrap32 (nwt + -1))) n3
    have ww6 := ww5.other ⟨sb, 23, none⟩ (.int .i32 (wrap32 (nwt + -1))) n1
    have g6 := g5.other ⟨sb, 23, none⟩ (.int .i32 (wrap32 (nwt + -1))) (by simp; omega)
    have x6 : (v6.setCell ⟨sb, 23, none⟩ (.int .i32 (wrap32 (nwt + -1)))).cell? ⟨xb, 2, none⟩ = some (.chan (some c)) := (World.cell?_setCell_other _ _ _ _ (by simp)).trans x5
    have c6 : (v6.setCell ⟨sb, 23, none⟩ (.int .i32 (wrap32 (nwt + -1)))).heap[c]? = some (.chan 1 #[] false s r tm) := (Below.heap_setCell _ _ _ _ cs1).trans c5
    have b6 := b5.set ⟨sb, 23, none⟩ (.int .i32 (wrap32 (nwt + -1))) (.inl (by simp))
    obtain ⟨v7, hv7⟩ : ∃ v7, v7 = v6.setCell ⟨sb, 23, none⟩ (.int .i32 (wrap32 (nwt + -1))) := ⟨_, rfl⟩
    rw [← hv7] at s6 t6 ww6 g6 x6 c6 b6 ⊢
    clear hv7 k23 z23 s5 t5 ww5 g5 x5 c5 b5
    have k25 := s6.cell (i := 25) (by omega)
    rw [upd_other _ _ _ _ (by omega), upd_other _ _ _ _ (by omega), upd_other _ _ _ _ (by omega), f25] at k25
    have z25 := s6.frz 25
    have o7 := only_setChan (v7.setCell ⟨sb, 25, none⟩ (.int .i32 (wrap32 (nh + 1)))) c 1 #[.pointer p] false (s + 1) r tm
    have s7 := (s6.set 25 (.int .i32 (wrap32 (nh + 1)))).only o7 (fun e => cs1 e.symm)
    have t7 := (t6.other ⟨sb, 25, none⟩ (.int .i32 (wrap32 (nh + 1))) n3).only o7 (fun e => ct1 e.symm)
    have ww7 := (ww6.other ⟨sb, 25, none⟩ (.int .i32 (wrap32 (nh + 1))) n1).only o7 (fun e => cw1 e.symm)
    have g7 := (g6.other ⟨sb, 25, none⟩ (.int .i32 (wrap32 (nh + 1))) (by simp; omega)).only o7 (by omega)
    have c7 := heap_setChan (v7.setCell ⟨sb, 25, none⟩ (.int .i32 (wrap32 (nh + 1)))) c 1 #[.pointer p] false (s + 1) r tm (by have := b6.size; simp; omega)
    have b7 := (b6.set ⟨sb, 25, none⟩ (.int .i32 (wrap32 (nh + 1))) (.inl (by simp))).trans (o7.but _ _ (.inl (by simp)))
    have hpost : WaitPost w sb wb tb c ni np nw fs wf idf tf p nwt nh s r tm (.returned (.tuple #[])) ((v7.setCell ⟨sb, 25, none⟩ (.int .i32 (wrap32 (nh + 1)))).setChan c 1 #[.pointer p] false (s + 1) r tm) :=
      ⟨rfl, g, cap, m, gf, hg, s7, ww7, g7, hm, hgf, hgn, t7, c7, b7⟩
    clear o7 s7 t7 ww7 g7 c7 b7 s6 t6 ww6 g6 b6
    go_wp2_with (go_at_call 31; refine (hand_c sb xb c s r tm nh p v7 k25 z25 x6 cs1 c6).mono ?_; rintro e w' ⟨rfl, hw'⟩; rw [← hw'] at hpost; clear hw')
    exact ⟨rfl, .tuple #[], results_none rfl _ _ _, hpost⟩)
end Go.Proofs.Ybulkgrw
