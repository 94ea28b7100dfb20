/-
  (*Scheduler).Stats, by its contract.
-/
import Derived.Test.YbulkgrwBuild
import Derived.Test.YbulkgrwRegion
namespace Go.Proofs.Ybulkgrw
open Go.RowKit

/-- The counters, as Stats reads them. -/
structure CQ where
  ho : Int
  pa : Int
  pk : Int
  re : Int
  sp : Int
  th : Int
  sh : Int
  id : Nat

def rowOf (w : World) (B n : Nat) (z : Value) (t : TypeId) (u : Value) : Prop := ∃ g, B ≤ g ∧ u = .slice (some ⟨g, 0, none⟩) n n ∧ w.heap[g]? = some (.cells (madeCells #[z] n) t)
def st0 (n : Nat) (c : CQ) (l r x : Value) : Array Value := #[.int .i64 n, .int .i64 0, l, r, x, .int .u64 0, .int .u64 0, .int .u64 c.ho, .int .u64 0, .int .u64 c.pa, .int .u64 c.pk, .int .i64 c.sp, .int .i64 c.th, .int .i64 0]

/-- What stands in the slot of operation j once it has come up. -/
def Sl (B n sb : Nat) (c : CQ) (j : Nat) (u : Value) (w : World) : Prop :=
  match j with
  | 0 | 1 | 3 | 5 => u = .int .i64 n
  | 2 => rowOf w B n (.int .i64 0) 3 u
  | 4 => rowOf w B n (.bool false) 4 u
  | 6 => rowOf w B n (.int .u64 0) 23 u
  | 7 | 8 | 11 | 12 | 15 | 16 | 19 | 20 | 24 | 25 => u = .pointer (some ⟨sb, 0, none⟩)
  | 9 => u = .pointer (some ⟨sb, 5, none⟩)
  | 13 => u = .pointer (some ⟨sb, 4, none⟩)
  | 17 => u = .pointer (some ⟨sb, 27, none⟩)
  | 21 => u = .pointer (some ⟨sb, 24, none⟩)
  | 26 => u = .pointer (some ⟨sb, 26, none⟩)
  | 10 => u = .int .u64 c.ho
  | 14 => u = .int .u64 c.pa
  | 18 => u = .int .u64 c.pk
  | 22 => u = .int .i32 c.sp
  | 23 => u = .int .i64 c.sp
  | 27 => u = .int .i32 c.th
  | 28 => u = .int .i64 c.th
  | 29 => ∃ l r x, u = .agg (st0 n c l r x) ∧ rowOf w B n (.int .i64 0) 3 l ∧ rowOf w B n (.bool false) 4 r ∧ rowOf w B n (.int .u64 0) 23 x
  | 30 => ∃ g cs, B ≤ g ∧ u = .pointer (some ⟨g, 0, none⟩) ∧ w.heap[g]? = some (.cells cs 32) ∧ cs.size = 14
  | 31 => ∃ g l r x, B ≤ g ∧ u = .pointer (some ⟨g, 0, none⟩) ∧ Blk w g 32 14 (litF (st0 n c l r x)) ∧ rowOf w B n (.int .i64 0) 3 l ∧ rowOf w B n (.bool false) 4 r ∧ rowOf w B n (.int .u64 0) 23 x
  | _ => True

theorem rowOf.grow {w : World} {B n : Nat} {z : Value} {t : TypeId} {u : Value} (h : rowOf w B n z t u) (o : Obj) : rowOf (w.alloc o) B n z t u := by
  obtain ⟨g, hg, e, hh⟩ := h
  exact ⟨g, hg, e, by rw [Below.heap_alloc w o g (Array.getElem?_eq_some_iff.1 hh).1, hh]⟩
theorem rowOf.kept {w w' : World} {B n : Nat} {z : Value} {t : TypeId} {u : Value} (h : rowOf w B n z t u) (e : ∀ (k : Nat) (cs : Array Value), w.heap[k]? = some (.cells cs t) → w'.heap[k]? = w.heap[k]?) : rowOf w' B n z t u := by
  obtain ⟨g, hg, e', hh⟩ := h
  exact ⟨g, hg, e', by rw [e g _ hh, hh]⟩

theorem Sl.grow {B n sb : Nat} {c : CQ} (j : Nat) {u : Value} {w : World} (h : Sl B n sb c j u w) (o : Obj) : Sl B n sb c j u (w.alloc o) := by
  unfold Sl at *
  split at h <;> first | exact h | exact h.grow o | skip
  · obtain ⟨l, r, x, e, h1, h2, h3⟩ := h
    exact ⟨l, r, x, e, h1.grow o, h2.grow o, h3.grow o⟩
  · obtain ⟨g, cs, hB, e, hh, hs⟩ := h
    exact ⟨g, cs, hB, e, by rw [Below.heap_alloc w o g (Array.getElem?_eq_some_iff.1 hh).1, hh], hs⟩
  · obtain ⟨g, l, r, x, hB, e, hh, h1, h2, h3⟩ := h
    exact ⟨g, l, r, x, hB, e, hh.alloc o, h1.grow o, h2.grow o, h3.grow o⟩

theorem rep_getD (n i : Nat) : (Array.replicate n false).getD i false = false := by
  simp [Array.getElem?_replicate]
  split <;> rfl
theorem wrap_small {x : Int} (h1 : -2147483648 ≤ x) (h2 : x ≤ 2147483647) : IntKind.i64.wrap x = x := by rw [IntKind.wrap_i64]; omega
theorem bel_cells {B g : Nat} {a : World} (hB : B ≤ g) : ∀ (l : List Value) (o : Nat) (w : World), Below B a w → Below B a (w.setCells g o l)
  | [], _, _, h => h
  | v :: l, o, _, h => bel_cells hB l (o + 1) _ (h.setCell (p := ⟨g, o, none⟩) hB v)
theorem other_cells {g k : Nat} (hk : k ≠ g) : ∀ (l : List Value) (o : Nat) (w : World), (w.setCells g o l).heap[k]? = w.heap[k]?
  | [], _, _ => rfl
  | v :: l, o, w => (other_cells hk l (o + 1) _).trans (Below.heap_setCell w ⟨g, o, none⟩ v k hk)
theorem Blk.cells {b n : Nat} {t : TypeId} : ∀ (l : List Value) (o : Nat) (w : World) (f : Nat → Value), Blk w b t n f →
    ∃ f', Blk (w.setCells b o l) b t n f' ∧ (∀ i, i < o → f' i = f i) ∧ ∀ j, j < l.length → f' (o + j) = l.getD j undef
  | [], _, _, f, h => ⟨f, h, fun _ _ => rfl, fun j hj => absurd hj (by simp)⟩
  | v :: l, o, w, f, h => by
    obtain ⟨f', h1, h2, h3⟩ := Blk.cells l (o + 1) _ _ (h.set o v)
    refine ⟨f', h1, fun i hi => by rw [h2 i (by omega), upd_other _ _ _ _ (by omega)], fun j hj => ?_⟩
    cases j with
    | zero => rw [Nat.add_zero, h2 o (by omega), upd_same]; rfl
    | succ j =>
      have := h3 j (by simpa using hj)
      rw [show o + (j + 1) = o + 1 + j by omega, this]
      rfl
theorem Sl.kept {B n sb : Nat} {c : CQ} (j : Nat) (hj : j ≠ 31) {u : Value} {w w' : World} (h : Sl B n sb c j u w) (hk : ∀ (k : Nat) (t : TypeId) (cs : Array Value), t ≠ 32 → w.heap[k]? = some (.cells cs t) → w'.heap[k]? = w.heap[k]?)
    (h32 : ∀ (k : Nat) (cs : Array Value), w.heap[k]? = some (.cells cs 32) → cs.size = 14 → ∃ cs' : Array Value, w'.heap[k]? = some (.cells cs' 32) ∧ cs'.size = 14) : Sl B n sb c j u w' := by
  unfold Sl at *
  split at h <;> first | exact h | exact h.kept (fun k cs e => hk k _ cs (by decide) e) | skip
  · obtain ⟨l, r, x, e, h1, h2, h3⟩ := h
    exact ⟨l, r, x, e, h1.kept (fun k cs e => hk k _ cs (by decide) e), h2.kept (fun k cs e => hk k _ cs (by decide) e), h3.kept (fun k cs e => hk k _ cs (by decide) e)⟩
  · obtain ⟨g, cs, hB, e, hh, hs⟩ := h
    obtain ⟨cs', h1, h2⟩ := h32 g cs hh hs
    exact ⟨g, cs', hB, e, h1, h2⟩
  · exact absurd rfl hj

/-- The frame while region 2 is under way. -/
structure RI (w1 : World) (v2 : Value) (n sb : Nat) (c : CQ) (listed : Array Bool) (a : Act) (w : World) : Prop where
  lsize : listed.size = 32
  ds : a.defers = []
  tsize : a.tmps.size = 115
  t0 : a.tmps.getD 0 undef = .pointer (some ⟨sb, 0, none⟩)
  t2 : a.tmps.getD 2 undef = v2
  t3 : a.tmps.getD 3 undef = .int .i64 n
  bel : Below w1.heap.size w1 w
  last : listed.getD 31 false = true → ∀ i, i < 31 → listed.getD i false = true
  sl : ∀ i, listed.getD i false = true → Sl w1.heap.size n sb c i (a.tmps.getD (if i < 30 then 12 + i else 4) undef) w

theorem RI.put {w1 : World} {v2 : Value} {n sb : Nat} {c : CQ} {listed : Array Bool} {a : Act} {w w' : World} (h : RI w1 v2 n sb c listed a w) (i : Nat) (hi : i < 31) (v : Value) (hb : Below w1.heap.size w1 w')
    (hold : ∀ j u, Sl w1.heap.size n sb c j u w → Sl w1.heap.size n sb c j u w') (hv : Sl w1.heap.size n sb c i v w') (h31 : i = 30 → listed.getD 31 false = false) :
    RI w1 v2 n sb c (listed.setIfInBounds i true) (a.put (some (if i < 30 then 12 + i else 4)) v) w' := by
  have hd : (if i < 30 then 12 + i else 4) < 115 := by split <;> omega
  have hd0 : (if i < 30 then 12 + i else 4) ≠ 0 ∧ (if i < 30 then 12 + i else 4) ≠ 2 ∧ (if i < 30 then 12 + i else 4) ≠ 3 := by split <;> omega
  have hL : ∀ j, (listed.setIfInBounds i true).getD j false = true → j = i ∨ listed.getD j false = true := by
    intro j hj
    by_cases e : j = i
    · exact .inl e
    · right
      simpa [Array.getElem?_setIfInBounds, Ne.symm e] using hj
  have hget : ∀ k, k ≠ (if i < 30 then 12 + i else 4) → (a.put (some (if i < 30 then 12 + i else 4)) v).tmps.getD k undef = a.tmps.getD k undef := by
    intro k hk
    simp [Act.put, Ne.symm hk]
  have hgetS : (a.put (some (if i < 30 then 12 + i else 4)) v).tmps.getD (if i < 30 then 12 + i else 4) undef = v := by
    show (a.tmps.setIfInBounds _ v).getD _ undef = v
    rw [Array.getD_eq_getD_getElem?, Array.getElem?_setIfInBounds_self_of_lt (by rw [h.tsize]; exact hd)]
    rfl
  refine ⟨by simp [h.lsize], h.ds, by simp [Act.put, h.tsize], (hget 0 hd0.1.symm).trans h.t0, (hget 2 hd0.2.1.symm).trans h.t2, (hget 3 hd0.2.2.symm).trans h.t3, hb, ?_, ?_⟩
  · intro h31' k hk
    rcases hL 31 h31' with e | e
    · omega
    · have := h.last e k hk
      by_cases e2 : k = i
      · subst e2
        rw [Array.getD_eq_getD_getElem?, Array.getElem?_setIfInBounds_self_of_lt (by rw [h.lsize]; omega)]
        rfl
      · simpa [Array.getElem?_setIfInBounds, Ne.symm e2] using this
  · intro j hj
    by_cases e : j = i
    · subst e
      rw [hgetS]
      exact hv
    · rcases hL j hj with e2 | e2
      · exact absurd e2 e
      · rw [hget _ (by
          have hj32 : j < 32 := by
            rcases Nat.lt_or_ge j 32 with g | g
            · exact g
            · rw [Array.getD_eq_getD_getElem?, Array.getElem?_eq_none (by rw [h.lsize]; exact g)] at e2
              cases e2
          by_cases e30 : i = 30
          · have : j ≠ 31 := fun e => by subst e; rw [h31 e30] at e2; cases e2
            split <;> split <;> omega
          · split <;> split <;> omega)]
        exact hold _ _ (h.sl j e2)

theorem Blk.ne {w : World} {a b n m : Nat} {t s : TypeId} {f h : Nat → Value} (h1 : Blk w a t n f) (h2 : Blk w b s m h) (hts : t ≠ s) : a ≠ b := by
  obtain ⟨c1, e1, _⟩ := h1
  obtain ⟨c2, e2, _⟩ := h2
  intro e
  subst e
  rw [e1] at e2
  cases e2
  exact hts rfl

/-- While Stats is under way: its struct in g, the three rows in gl, gr, gx; of what stood in w only the scheduler's block may have turned. -/
structure SS (w w' : World) (g gl gr gx sb len : Nat) (gf lf rf xf sf : Nat → Value) : Prop where
  bel : ∀ b, b < w.heap.size → b ≠ sb → w'.heap[b]? = w.heap[b]?
  size : w.heap.size ≤ w'.heap.size
  os : w'.os = w.os
  tape : w'.tape = w.tape
  output : w'.output = w.output
  hg : Blk w' g 32 14 gf
  hl : Blk w' gl 3 len lf
  hr : Blk w' gr 4 len rf
  hx : Blk w' gx 23 len xf
  hs : Blk w' sb 66 34 sf
  hb : ∃ rbf, Blk w' w.heap.size 32 14 rbf
  ng : w.heap.size < g
  nl : w.heap.size ≤ gl
  nr : w.heap.size ≤ gr
  nx : w.heap.size ≤ gx
section
variable {w w' : World} {g gl gr gx sb len : Nat} {gf lf rf xf sf : Nat → Value}
theorem SS.setG (h : SS w w' g gl gr gx sb len gf lf rf xf sf) (i : Nat) (v : Value) : SS w (w'.setCell ⟨g, i, none⟩ v) g gl gr gx sb len (upd gf i v) lf rf xf sf :=
  have := h.ng
  ⟨fun b hb hs => (Below.heap_setCell _ _ _ _ (by show b ≠ g; omega)).trans (h.bel b hb hs), by simpa using h.size, h.os, h.tape, h.output, h.hg.set i v, h.hl.other _ _ (h.hl.ne h.hg (by decide)), h.hr.other _ _ (h.hr.ne h.hg (by decide)), h.hx.other _ _ (h.hx.ne h.hg (by decide)), h.hs.other _ _ (h.hs.ne h.hg (by decide)), (h.hb.imp fun _ hh => hh.other _ _ (by show w.heap.size ≠ g; omega)), h.ng, h.nl, h.nr, h.nx⟩
theorem SS.setL (h : SS w w' g gl gr gx sb len gf lf rf xf sf) (i : Nat) (v : Value) : SS w (w'.setCell ⟨gl, i, none⟩ v) g gl gr gx sb len gf (upd lf i v) rf xf sf :=
  have := h.nl
  ⟨fun b hb hs => (Below.heap_setCell _ _ _ _ (by show b ≠ gl; omega)).trans (h.bel b hb hs), by simpa using h.size, h.os, h.tape, h.output, h.hg.other _ _ (h.hg.ne h.hl (by decide)), h.hl.set i v, h.hr.other _ _ (h.hr.ne h.hl (by decide)), h.hx.other _ _ (h.hx.ne h.hl (by decide)), h.hs.other _ _ (h.hs.ne h.hl (by decide)), (h.hb.imp fun _ hh => hh.other _ _ (hh.ne h.hl (by decide))), h.ng, h.nl, h.nr, h.nx⟩
theorem SS.setR (h : SS w w' g gl gr gx sb len gf lf rf xf sf) (i : Nat) (v : Value) : SS w (w'.setCell ⟨gr, i, none⟩ v) g gl gr gx sb len gf lf (upd rf i v) xf sf :=
  have := h.nr
  ⟨fun b hb hs => (Below.heap_setCell _ _ _ _ (by show b ≠ gr; omega)).trans (h.bel b hb hs), by simpa using h.size, h.os, h.tape, h.output, h.hg.other _ _ (h.hg.ne h.hr (by decide)), h.hl.other _ _ (h.hl.ne h.hr (by decide)), h.hr.set i v, h.hx.other _ _ (h.hx.ne h.hr (by decide)), h.hs.other _ _ (h.hs.ne h.hr (by decide)), (h.hb.imp fun _ hh => hh.other _ _ (hh.ne h.hr (by decide))), h.ng, h.nl, h.nr, h.nx⟩
theorem SS.setX (h : SS w w' g gl gr gx sb len gf lf rf xf sf) (i : Nat) (v : Value) : SS w (w'.setCell ⟨gx, i, none⟩ v) g gl gr gx sb len gf lf rf (upd xf i v) sf :=
  have := h.nx
  ⟨fun b hb hs => (Below.heap_setCell _ _ _ _ (by show b ≠ gx; omega)).trans (h.bel b hb hs), by simpa using h.size, h.os, h.tape, h.output, h.hg.other _ _ (h.hg.ne h.hx (by decide)), h.hl.other _ _ (h.hl.ne h.hx (by decide)), h.hr.other _ _ (h.hr.ne h.hx (by decide)), h.hx.set i v, h.hs.other _ _ (h.hs.ne h.hx (by decide)), (h.hb.imp fun _ hh => hh.other _ _ (hh.ne h.hx (by decide))), h.ng, h.nl, h.nr, h.nx⟩
theorem SS.setS (h : SS w w' g gl gr gx sb len gf lf rf xf sf) (i : Nat) (v : Value) : SS w (w'.setCell ⟨sb, i, none⟩ v) g gl gr gx sb len gf lf rf xf (upd sf i v) :=
  ⟨fun b hb hs => (Below.heap_setCell _ _ _ _ hs).trans (h.bel b hb hs), by simpa using h.size, h.os, h.tape, h.output, h.hg.other _ _ (h.hg.ne h.hs (by decide)), h.hl.other _ _ (h.hl.ne h.hs (by decide)), h.hr.other _ _ (h.hr.ne h.hs (by decide)), h.hx.other _ _ (h.hx.ne h.hs (by decide)), h.hs.set i v, (h.hb.imp fun _ hh => hh.other _ _ (hh.ne h.hs (by decide))), h.ng, h.nl, h.nr, h.nx⟩
theorem SS.setB (h : SS w w' g gl gr gx sb len gf lf rf xf sf) (i : Nat) (v : Value) : SS w (w'.setCell ⟨w.heap.size, i, none⟩ v) g gl gr gx sb len gf lf rf xf sf := by
  obtain ⟨rbf, hb⟩ := h.hb
  have := h.ng
  exact ⟨fun b hb hs => (Below.heap_setCell _ _ _ _ (by show b ≠ w.heap.size; omega)).trans (h.bel b hb hs), by simpa using h.size, h.os, h.tape, h.output, h.hg.other _ _ (by show g ≠ w.heap.size; omega), h.hl.other _ _ (h.hl.ne hb (by decide)), h.hr.other _ _ (h.hr.ne hb (by decide)), h.hx.other _ _ (h.hx.ne hb (by decide)), h.hs.other _ _ (h.hs.ne hb (by decide)), ⟨_, hb.set i v⟩, h.ng, h.nl, h.nr, h.nx⟩
theorem madeBlk {w : World} {g n : Nat} {z : Value} {t : TypeId} (h : w.heap[g]? = some (.cells (madeCells #[z] n) t)) : Blk w g t n (fun _ => z) :=
  ⟨_, h, size_madeCells _ _, fun i hi => by simp [madeCells, hi, Nat.mod_one]⟩
theorem SS.drew (h : SS w w' g gl gr gx sb len gf lf rf xf sf) : SS w w'.drew g gl gr gx sb len gf lf rf xf sf := ⟨h.bel, h.size, h.os, h.tape, h.output, h.hg, h.hl, h.hr, h.hx, h.hs, h.hb, h.ng, h.nl, h.nr, h.nx⟩
end

def sumU (v : Nat → Int) : Nat → Int
  | 0 => 0
  | k + 1 => IntKind.u64.wrap (sumU v k + v k)
/-- k processors read. -/
def LK (w wr : World) (g gl gr gx sb len : Nat) (gF : Nat → Value) (q : Nat → PQ) (k : Nat) : Prop := ∃ gf lf rf xf sf, SS w wr g gl gr gx sb len gf lf rf xf sf ∧ (∀ i, i ≠ 5 → i ≠ 6 → gf i = gF i) ∧ gf 5 = .int .u64 (sumU (fun j => (q j).steals) k) ∧ gf 6 = .int .u64 (sumU (fun j => (q j).stolen) k) ∧
  ∀ j, j < k → lf j = .int .i64 (loc (q j).head (q j).tail) ∧ rf j = .bool (q j).next ∧ xf j = .int .u64 (ranOf (q j).hold (q j).resumed)

theorem results_cell1 {fn : Func} {p : Tmp} {ty : TypeId} (h : fn.results = #[.cell p ty]) (tmps : Array Value) (P : Program) (w : World) :
    (results fn tmps).run P w = ((asAddr (tmps.getD p undef)).run P w).andThen fun a w₁ => (loadVar ty a).run P w₁ := by
  simp only [results, h]
  simp [Sem.run_bind, Result.andThen]
theorem LK.next {w v : World} {g gl gr gx sb len k : Nat} {gF gf lf rf xf sf : Nat → Value} {q : Nat → PQ} {a b : Int}
    (s : SS w v g gl gr gx sb len (upd (upd gf 5 (.int .u64 (IntKind.u64.wrap (a + (q k).steals)))) 6 (.int .u64 (IntKind.u64.wrap (b + (q k).stolen)))) (upd lf k (.int .i64 (loc (q k).head (q k).tail))) (upd rf k (.bool (q k).next)) (upd xf k (.int .u64 (ranOf (q k).hold (q k).resumed))) sf)
    (hg : ∀ i, i ≠ 5 → i ≠ 6 → gf i = gF i) (ha : a = sumU (fun j => (q j).steals) k) (hb : b = sumU (fun j => (q j).stolen) k)
    (hr : ∀ j, j < k → lf j = .int .i64 (loc (q j).head (q j).tail) ∧ rf j = .bool (q j).next ∧ xf j = .int .u64 (ranOf (q j).hold (q j).resumed)) : LK w v g gl gr gx sb len gF q (k + 1) := by
  refine ⟨_, _, _, _, _, s, fun i h5 h6 => by rw [upd_other _ _ _ _ h6, upd_other _ _ _ _ h5, hg i h5 h6], by rw [upd_other _ _ _ _ (by omega), upd_same, ha]; rfl, by rw [upd_same, hb]; rfl, fun j hj => ?_⟩
  by_cases e : j = k
  · subst e
    exact ⟨upd_same _ _ _, upd_same _ _ _, upd_same _ _ _⟩
  · rw [upd_other _ _ _ _ e, upd_other _ _ _ _ e, upd_other _ _ _ _ e]
    exact hr j (by omega)

/-- What Stats leaves. -/
def Left (w w' : World) (sb len : Nat) (q : Nat → PQ) (c : CQ) (e : Ending) : Prop :=
  ∃ gl gr gx lf rf xf, e = .returned (.agg #[.int .i64 len, .int .i64 c.sh, .slice (some ⟨gl, 0, none⟩) len len, .slice (some ⟨gr, 0, none⟩) len len, .slice (some ⟨gx, 0, none⟩) len len, .int .u64 (sumU (fun j => (q j).steals) len), .int .u64 (sumU (fun j => (q j).stolen) len), .int .u64 c.ho, .int .u64 c.re, .int .u64 c.pa, .int .u64 c.pk, .int .i64 c.sp, .int .i64 c.th, .int .i64 c.id]) ∧
    (∀ b, b < w.heap.size → b ≠ sb → w'.heap[b]? = w.heap[b]?) ∧ w.heap.size ≤ w'.heap.size ∧ w'.os = w.os ∧ w'.tape = w.tape ∧ w'.output = w.output ∧
    Blk w' gl 3 len lf ∧ Blk w' gr 4 len rf ∧ Blk w' gx 23 len xf ∧
    ∀ j, j < len → lf j = .int .i64 (loc (q j).head (q j).tail) ∧ rf j = .bool (q j).next ∧ xf j = .int .u64 (ranOf (q j).hold (q j).resumed)

set_option maxRecDepth 100000 in
set_option maxHeartbeats 2000000 in
theorem stats_c (w0 w : World) (gp sb ib B1 len : Nat) (fs : Nat → Value) (q : Nat → PQ) (c : CQ) (hJ : J w0 w gp sb B1 len len fs q) (hl : len ≤ 1024) (hsp : -2147483648 ≤ c.sp ∧ c.sp ≤ 2147483647) (hth : -2147483648 ≤ c.th ∧ c.th ≤ 2147483647)
    (HF : Hid (fs 0 = .slice (some ⟨gp, 0, none⟩) len len ∧ fs 4 = .int .u64 c.pa ∧ fs 5 = .int .u64 c.ho ∧ fs 6 = .int .i32 0 ∧ fs 12 = .slice (some ⟨ib, 0, none⟩) c.id c.id ∧ fs 15 = .int .u64 c.re ∧ fs 19 = .int .i64 c.sh ∧ fs 24 = .int .i32 c.sp ∧ fs 26 = .int .i32 c.th ∧ fs 27 = .int .u64 c.pk)) :
    Calls Yba.prog 7 #[.pointer (some ⟨sb, 0, none⟩)] w fun e w' => Left w w' sb len q c e := by
  have lsb := hJ.hs.lt
  have k0 : w.cell? ⟨sb, 0, none⟩ = some (.slice (some ⟨gp, 0, none⟩) len len) := by rw [hJ.hs.cell (by omega), HF.out.1]
  go_enter Yba.func7, Yba.ntmps7
  go_upto_region 2 with fail
  obtain ⟨w1, hw1⟩ : ∃ w1, w1 = w.alloc (.cells #[Value.int .i64 0, .int .i64 0, .slice none 0 0, .slice none 0 0, .slice none 0 0, .int .u64 0, .int .u64 0, .int .u64 0, .int .u64 0, .int .u64 0, .int .u64 0, .int .i64 0, .int .i64 0, .int .i64 0] 32) := ⟨_, rfl⟩
  have hB1 : Below w.heap.size w w1 := by rw [hw1]; exact (Below.refl _ w).alloc (Nat.le_refl _) _
  obtain ⟨rf, hres⟩ : ∃ rf, Blk w1 w.heap.size 32 14 rf := ⟨_, by rw [hw1]; exact Blk.new w _ 32 rfl rfl⟩
  rw [← hw1]
  clear hw1
  have hs1 : Blk w1 sb 66 34 fs := hJ.hs.keep hB1 lsb
  clear k0
  refine wp_region_inv (by kernel_rfl) (RI w1 (.pointer (some ⟨w.heap.size, 0, none⟩)) len sb c) ?_ ?_ ?_ (fun _ _ _ h => h.lsize) (by kernel_rfl)
  · exact ⟨rfl, rfl, rfl, rfl, rfl, rfl, Below.drew (Below.refl _ w1), fun hx => absurd hx (by decide), fun i hi => by rw [rep_getD] at hi; cases hi⟩
  · refine ⟨⟨rfl, fun listed a w h hu hd => ?_⟩, ⟨rfl, fun listed a w h hu hd => ?_⟩, ⟨rfl, fun listed a w h hu hd => ?_⟩, ⟨rfl, fun listed a w h hu hd => ?_⟩, ⟨rfl, fun listed a w h hu hd => ?_⟩, ⟨rfl, fun listed a w h hu hd => ?_⟩, ⟨rfl, fun listed a w h hu hd => ?_⟩, ⟨rfl, fun listed a w h hu hd => ?_⟩, ⟨rfl, fun listed a w h hu hd => ?_⟩, ⟨rfl, fun listed a w h hu hd => ?_⟩, ⟨rfl, fun listed a w h hu hd => ?_⟩, ⟨rfl, fun listed a w h hu hd => ?_⟩, ⟨rfl, fun listed a w h hu hd => ?_⟩, ⟨rfl, fun listed a w h hu hd => ?_⟩, ⟨rfl, fun listed a w h hu hd => ?_⟩, ⟨rfl, fun listed a w h hu hd => ?_⟩, ⟨rfl, fun listed a w h hu hd => ?_⟩, ⟨rfl, fun listed a w h hu hd => ?_⟩, ⟨rfl, fun listed a w h hu hd => ?_⟩, ⟨rfl, fun listed a w h hu hd => ?_⟩, ⟨rfl, fun listed a w h hu hd => ?_⟩, ⟨rfl, fun listed a w h hu hd => ?_⟩, ⟨rfl, fun listed a w h hu hd => ?_⟩, ⟨rfl, fun listed a w h hu hd => ?_⟩, ⟨rfl, fun listed a w h hu hd => ?_⟩, ⟨rfl, fun listed a w h hu hd => ?_⟩, ⟨rfl, fun listed a w h hu hd => ?_⟩, ⟨rfl, fun listed a w h hu hd => ?_⟩, ⟨rfl, fun listed a w h hu hd => ?_⟩, ⟨rfl, fun listed a w h hu hd => ?_⟩, ⟨rfl, fun listed a w h hu hd => ?_⟩, ⟨rfl, fun listed a w h hu hd => ?_⟩, trivial⟩
    · have e0 := h.t3
      refine wp_value (.int .i64 len) w (by simp [execOp, go_sem, Act.eval, e0]) ?_
      exact h.put 0 (by omega) _ h.bel (fun _ _ x => x) rfl (fun e => by omega)
    · have e0 := h.t3
      refine wp_value (.int .i64 len) w (by simp [execOp, go_sem, Act.eval, e0]) ?_
      exact h.put 1 (by omega) _ h.bel (fun _ _ x => x) rfl (fun e => by omega)
    · have e1 : a.tmps.getD 13 undef = (.int .i64 len) := h.sl 1 (hd ⟨1, .data⟩ (by simp) rfl)
      have hmk := run_make_row' (P := Yba.prog) 28 3 (.int .i64 0) 8 Yba.underlying28 (by kernel_rfl) rfl .i64 .i64 len (by omega) (by omega) w
      refine wp_value (.slice (some ⟨w.heap.size, 0, none⟩) len len) (w.alloc (.cells (madeCells #[(.int .i64 0)] len) 3)) (by simp [execOp, Act.eval, e1, hmk]) ?_
      exact h.put 2 (by omega) _ (h.bel.alloc h.bel.size _) (fun j u x => x.grow j _) ⟨w.heap.size, h.bel.size, rfl, by show (w.heap.push _)[w.heap.size]? = _; rw [Array.getElem?_push_size]⟩ (fun e => by omega)
    · have e0 := h.t3
      refine wp_value (.int .i64 len) w (by simp [execOp, go_sem, Act.eval, e0]) ?_
      exact h.put 3 (by omega) _ h.bel (fun _ _ x => x) rfl (fun e => by omega)
    · have e3 : a.tmps.getD 15 undef = (.int .i64 len) := h.sl 3 (hd ⟨3, .data⟩ (by simp) rfl)
      have hmk := run_make_row' (P := Yba.prog) 29 4 (.bool false) 1 Yba.underlying29 (by kernel_rfl) rfl .i64 .i64 len (by omega) (by omega) w
      refine wp_value (.slice (some ⟨w.heap.size, 0, none⟩) len len) (w.alloc (.cells (madeCells #[(.bool false)] len) 4)) (by simp [execOp, Act.eval, e3, hmk]) ?_
      exact h.put 4 (by omega) _ (h.bel.alloc h.bel.size _) (fun j u x => x.grow j _) ⟨w.heap.size, h.bel.size, rfl, by show (w.heap.push _)[w.heap.size]? = _; rw [Array.getElem?_push_size]⟩ (fun e => by omega)
    · have e0 := h.t3
      refine wp_value (.int .i64 len) w (by simp [execOp, go_sem, Act.eval, e0]) ?_
      exact h.put 5 (by omega) _ h.bel (fun _ _ x => x) rfl (fun e => by omega)
    · have e5 : a.tmps.getD 17 undef = (.int .i64 len) := h.sl 5 (hd ⟨5, .data⟩ (by simp) rfl)
      have hmk := run_make_row' (P := Yba.prog) 30 23 (.int .u64 0) 8 Yba.underlying30 (by kernel_rfl) rfl .i64 .i64 len (by omega) (by omega) w
      refine wp_value (.slice (some ⟨w.heap.size, 0, none⟩) len len) (w.alloc (.cells (madeCells #[(.int .u64 0)] len) 23)) (by simp [execOp, Act.eval, e5, hmk]) ?_
      exact h.put 6 (by omega) _ (h.bel.alloc h.bel.size _) (fun j u x => x.grow j _) ⟨w.heap.size, h.bel.size, rfl, by show (w.heap.push _)[w.heap.size]? = _; rw [Array.getElem?_push_size]⟩ (fun e => by omega)
    · have e0 := h.t0
      refine wp_value (.pointer (some ⟨sb, 0, none⟩)) w (by simp [execOp, go_sem, Act.eval, e0]) ?_
      exact h.put 7 (by omega) _ h.bel (fun _ _ x => x) rfl (fun e => by omega)
    · have e7 : a.tmps.getD 19 undef = (.pointer (some ⟨sb, 0, none⟩)) := h.sl 7 (hd ⟨7, .data⟩ (by simp) rfl)
      refine wp_value (.pointer (some ⟨sb, 0, none⟩)) w (by simp [execOp, go_sem, Act.eval, e7]) ?_
      exact h.put 8 (by omega) _ h.bel (fun _ _ x => x) rfl (fun e => by omega)
    · have e8 : a.tmps.getD 20 undef = (.pointer (some ⟨sb, 0, none⟩)) := h.sl 8 (hd ⟨8, .data⟩ (by simp) rfl)
      refine wp_value (.pointer (some ⟨sb, 5, none⟩)) w (by simp [execOp, go_sem, Act.eval, e8]) ?_
      exact h.put 9 (by omega) _ h.bel (fun _ _ x => x) rfl (fun e => by omega)
    · have e9 : a.tmps.getD 21 undef = (.pointer (some ⟨sb, 5, none⟩)) := h.sl 9 (hd ⟨9, .data⟩ (by simp) rfl)
      have hc := loadU64_c ⟨sb, 5, none⟩ _ w (by rw [(hs1.keep h.bel hs1.lt).cell (by omega), HF.out.2.2.1])
      refine wp_enter 11 #[.pointer (some ⟨sb, 5, none⟩)] (.int .u64 c.ho) (by simp [go_sem, Act.eval, e9]) hc ?_
      exact h.put 10 (by omega) _ h.bel (fun _ _ x => x) rfl (fun e => by omega)
    · have e0 := h.t0
      refine wp_value (.pointer (some ⟨sb, 0, none⟩)) w (by simp [execOp, go_sem, Act.eval, e0]) ?_
      exact h.put 11 (by omega) _ h.bel (fun _ _ x => x) rfl (fun e => by omega)
    · have e11 : a.tmps.getD 23 undef = (.pointer (some ⟨sb, 0, none⟩)) := h.sl 11 (hd ⟨11, .data⟩ (by simp) rfl)
      refine wp_value (.pointer (some ⟨sb, 0, none⟩)) w (by simp [execOp, go_sem, Act.eval, e11]) ?_
      exact h.put 12 (by omega) _ h.bel (fun _ _ x => x) rfl (fun e => by omega)
    · have e12 : a.tmps.getD 24 undef = (.pointer (some ⟨sb, 0, none⟩)) := h.sl 12 (hd ⟨12, .data⟩ (by simp) rfl)
      refine wp_value (.pointer (some ⟨sb, 4, none⟩)) w (by simp [execOp, go_sem, Act.eval, e12]) ?_
      exact h.put 13 (by omega) _ h.bel (fun _ _ x => x) rfl (fun e => by omega)
    · have e13 : a.tmps.getD 25 undef = (.pointer (some ⟨sb, 4, none⟩)) := h.sl 13 (hd ⟨13, .data⟩ (by simp) rfl)
      have hc := loadU64_c ⟨sb, 4, none⟩ _ w (by rw [(hs1.keep h.bel hs1.lt).cell (by omega), HF.out.2.1])
      refine wp_enter 11 #[.pointer (some ⟨sb, 4, none⟩)] (.int .u64 c.pa) (by simp [go_sem, Act.eval, e13]) hc ?_
      exact h.put 14 (by omega) _ h.bel (fun _ _ x => x) rfl (fun e => by omega)
    · have e0 := h.t0
      refine wp_value (.pointer (some ⟨sb, 0, none⟩)) w (by simp [execOp, go_sem, Act.eval, e0]) ?_
      exact h.put 15 (by omega) _ h.bel (fun _ _ x => x) rfl (fun e => by omega)
    · have e15 : a.tmps.getD 27 undef = (.pointer (some ⟨sb, 0, none⟩)) := h.sl 15 (hd ⟨15, .data⟩ (by simp) rfl)
      refine wp_value (.pointer (some ⟨sb, 0, none⟩)) w (by simp [execOp, go_sem, Act.eval, e15]) ?_
      exact h.put 16 (by omega) _ h.bel (fun _ _ x => x) rfl (fun e => by omega)
    · have e16 : a.tmps.getD 28 undef = (.pointer (some ⟨sb, 0, none⟩)) := h.sl 16 (hd ⟨16, .data⟩ (by simp) rfl)
      refine wp_value (.pointer (some ⟨sb, 27, none⟩)) w (by simp [execOp, go_sem, Act.eval, e16]) ?_
      exact h.put 17 (by omega) _ h.bel (fun _ _ x => x) rfl (fun e => by omega)
    · have e17 : a.tmps.getD 29 undef = (.pointer (some ⟨sb, 27, none⟩)) := h.sl 17 (hd ⟨17, .data⟩ (by simp) rfl)
      have hc := loadU64_c ⟨sb, 27, none⟩ _ w (by rw [(hs1.keep h.bel hs1.lt).cell (by omega), HF.out.2.2.2.2.2.2.2.2.2])
      refine wp_enter 11 #[.pointer (some ⟨sb, 27, none⟩)] (.int .u64 c.pk) (by simp [go_sem, Act.eval, e17]) hc ?_
      exact h.put 18 (by omega) _ h.bel (fun _ _ x => x) rfl (fun e => by omega)
    · have e0 := h.t0
      refine wp_value (.pointer (some ⟨sb, 0, none⟩)) w (by simp [execOp, go_sem, Act.eval, e0]) ?_
      exact h.put 19 (by omega) _ h.bel (fun _ _ x => x) rfl (fun e => by omega)
    · have e19 : a.tmps.getD 31 undef = (.pointer (some ⟨sb, 0, none⟩)) := h.sl 19 (hd ⟨19, .data⟩ (by simp) rfl)
      refine wp_value (.pointer (some ⟨sb, 0, none⟩)) w (by simp [execOp, go_sem, Act.eval, e19]) ?_
      exact h.put 20 (by omega) _ h.bel (fun _ _ x => x) rfl (fun e => by omega)
    · have e20 : a.tmps.getD 32 undef = (.pointer (some ⟨sb, 0, none⟩)) := h.sl 20 (hd ⟨20, .data⟩ (by simp) rfl)
      refine wp_value (.pointer (some ⟨sb, 24, none⟩)) w (by simp [execOp, go_sem, Act.eval, e20]) ?_
      exact h.put 21 (by omega) _ h.bel (fun _ _ x => x) rfl (fun e => by omega)
    · have e21 : a.tmps.getD 33 undef = (.pointer (some ⟨sb, 24, none⟩)) := h.sl 21 (hd ⟨21, .data⟩ (by simp) rfl)
      have hc := loadI32_c ⟨sb, 24, none⟩ _ w (by rw [(hs1.keep h.bel hs1.lt).cell (by omega), HF.out.2.2.2.2.2.2.2.1])
      refine wp_enter 15 #[.pointer (some ⟨sb, 24, none⟩)] (.int .i32 c.sp) (by simp [go_sem, Act.eval, e21]) hc ?_
      exact h.put 22 (by omega) _ h.bel (fun _ _ x => x) rfl (fun e => by omega)
    · have e22 : a.tmps.getD 34 undef = (.int .i32 c.sp) := h.sl 22 (hd ⟨22, .data⟩ (by simp) rfl)
      refine wp_value (.int .i64 c.sp) w (by simp [execOp, go_sem, Act.eval, e22, wrap_small hsp.1 hsp.2]) ?_
      exact h.put 23 (by omega) _ h.bel (fun _ _ x => x) rfl (fun e => by omega)
    · have e0 := h.t0
      refine wp_value (.pointer (some ⟨sb, 0, none⟩)) w (by simp [execOp, go_sem, Act.eval, e0]) ?_
      exact h.put 24 (by omega) _ h.bel (fun _ _ x => x) rfl (fun e => by omega)
    · have e24 : a.tmps.getD 36 undef = (.pointer (some ⟨sb, 0, none⟩)) := h.sl 24 (hd ⟨24, .data⟩ (by simp) rfl)
      refine wp_value (.pointer (some ⟨sb, 0, none⟩)) w (by simp [execOp, go_sem, Act.eval, e24]) ?_
      exact h.put 25 (by omega) _ h.bel (fun _ _ x => x) rfl (fun e => by omega)
    · have e25 : a.tmps.getD 37 undef = (.pointer (some ⟨sb, 0, none⟩)) := h.sl 25 (hd ⟨25, .data⟩ (by simp) rfl)
      refine wp_value (.pointer (some ⟨sb, 26, none⟩)) w (by simp [execOp, go_sem, Act.eval, e25]) ?_
      exact h.put 26 (by omega) _ h.bel (fun _ _ x => x) rfl (fun e => by omega)
    · have e26 : a.tmps.getD 38 undef = (.pointer (some ⟨sb, 26, none⟩)) := h.sl 26 (hd ⟨26, .data⟩ (by simp) rfl)
      have hc := loadI32_c ⟨sb, 26, none⟩ _ w (by rw [(hs1.keep h.bel hs1.lt).cell (by omega), HF.out.2.2.2.2.2.2.2.2.1])
      refine wp_enter 15 #[.pointer (some ⟨sb, 26, none⟩)] (.int .i32 c.th) (by simp [go_sem, Act.eval, e26]) hc ?_
      exact h.put 27 (by omega) _ h.bel (fun _ _ x => x) rfl (fun e => by omega)
    · have e27 : a.tmps.getD 39 undef = (.int .i32 c.th) := h.sl 27 (hd ⟨27, .data⟩ (by simp) rfl)
      refine wp_value (.int .i64 c.th) w (by simp [execOp, go_sem, Act.eval, e27, wrap_small hth.1 hth.2]) ?_
      exact h.put 28 (by omega) _ h.bel (fun _ _ x => x) rfl (fun e => by omega)
    · have e0 : a.tmps.getD 12 undef = (.int .i64 len) := h.sl 0 (hd ⟨0, .data⟩ (by simp) rfl)
      obtain ⟨g2, hg2, e2, hh2⟩ := h.sl 2 (hd ⟨2, .data⟩ (by simp) rfl)
      obtain ⟨g4, hg4, e4, hh4⟩ := h.sl 4 (hd ⟨4, .data⟩ (by simp) rfl)
      obtain ⟨g6, hg6, e6, hh6⟩ := h.sl 6 (hd ⟨6, .data⟩ (by simp) rfl)
      have e10 : a.tmps.getD 22 undef = .int .u64 c.ho := h.sl 10 (hd ⟨10, .data⟩ (by simp) rfl)
      have e14 : a.tmps.getD 26 undef = .int .u64 c.pa := h.sl 14 (hd ⟨14, .data⟩ (by simp) rfl)
      have e18 : a.tmps.getD 30 undef = .int .u64 c.pk := h.sl 18 (hd ⟨18, .data⟩ (by simp) rfl)
      have e23 : a.tmps.getD 35 undef = .int .i64 c.sp := h.sl 23 (hd ⟨23, .data⟩ (by simp) rfl)
      have e28 : a.tmps.getD 40 undef = .int .i64 c.th := h.sl 28 (hd ⟨28, .data⟩ (by simp) rfl)
      simp only [Array.getD_eq_getD_getElem?] at e0 e10 e14 e18 e23 e28
      simp only [Array.getD_eq_getD_getElem?, show (2 : Nat) < 30 from by omega, show (4 : Nat) < 30 from by omega, show (6 : Nat) < 30 from by omega, if_true, Nat.reduceAdd] at e2 e4 e6
      refine wp_value (.agg (st0 len c (.slice (some ⟨g2, 0, none⟩) len len) (.slice (some ⟨g4, 0, none⟩) len len) (.slice (some ⟨g6, 0, none⟩) len len))) w (by simp [execOp, go_sem, Act.eval, e0, e2, e4, e6, e10, e14, e18, e23, e28, st0]) ?_
      exact h.put 29 (by omega) _ h.bel (fun _ _ x => x) ⟨_, _, _, rfl, ⟨g2, hg2, rfl, hh2⟩, ⟨g4, hg4, rfl, hh4⟩, ⟨g6, hg6, rfl, hh6⟩⟩ (fun e => by omega)
    · refine wp_value (.pointer (some ⟨w.heap.size, 0, none⟩)) (w.alloc (.cells #[Value.int .i64 0, .int .i64 0, .slice none 0 0, .slice none 0 0, .slice none 0 0, .int .u64 0, .int .u64 0, .int .u64 0, .int .u64 0, .int .u64 0, .int .u64 0, .int .i64 0, .int .i64 0, .int .i64 0] 32)) (by simp [execOp, go_sem]) ?_
      refine h.put 30 (by omega) _ (h.bel.alloc h.bel.size _) (fun j u x => x.grow j _) ⟨w.heap.size, _, h.bel.size, rfl, by show (w.heap.push _)[w.heap.size]? = _; rw [Array.getElem?_push_size], rfl⟩ (fun _ => ?_)
      cases hx : listed.getD 31 false with
      | false => rfl
      | true =>
        have h1 := h.last hx 30 (by omega)
        have h2 : listed.getD 30 true = false := hu
        have h3 : 30 < listed.size := by rw [h.lsize]; omega
        simp [h3] at h1 h2
        rw [h1] at h2
        cases h2
    · obtain ⟨g, cs, hg, e4, hh, hsz⟩ := h.sl 30 (hd ⟨30, .data⟩ (by simp) rfl)
      obtain ⟨l, r, x, e41, hl', hr', hx'⟩ := h.sl 29 (hd ⟨29, .data⟩ (by simp) rfl)
      simp only [show ¬ (30 : Nat) < 30 from by omega, show (29 : Nat) < 30 from by omega, if_true, if_false, Nat.reduceAdd] at e4 e41
      have hb : Blk w g 32 14 (litF cs) := ⟨cs, hh, hsz, fun i hi => by simp [litF, hsz, hi]⟩
      obtain ⟨gl, hgl, rfl, hhl⟩ := hl'
      obtain ⟨gr, hgr, rfl, hhr⟩ := hr'
      obtain ⟨gx, hgx, rfl, hhx⟩ := hx'
      refine wp_store_mid 32 (.tmp 4) (.tmp 41) rfl g 0 (st0 len c (.slice (some ⟨gl, 0, none⟩) len len) (.slice (some ⟨gr, 0, none⟩) len len) (.slice (some ⟨gx, 0, none⟩) len len)) e4 e41 (fun j hj => ?_) (by kernel_rfl) (by simp [st0, Value.oneCell']) ?_
      · have hj' : j < 14 := hj
        rw [Nat.zero_add, hb.cell hj', hb.frz]
        exact ⟨rfl, rfl⟩
      obtain ⟨f', b1, _, b3⟩ := Blk.cells (st0 len c (.slice (some ⟨gl, 0, none⟩) len len) (.slice (some ⟨gr, 0, none⟩) len len) (.slice (some ⟨gx, 0, none⟩) len len)).toList 0 w _ hb
      have hk : ∀ (k : Nat) (t : TypeId) (cs : Array Value), t ≠ 32 → w.heap[k]? = some (.cells cs t) → (w.setCells g 0 (st0 len c (.slice (some ⟨gl, 0, none⟩) len len) (.slice (some ⟨gr, 0, none⟩) len len) (.slice (some ⟨gx, 0, none⟩) len len)).toList).heap[k]? = w.heap[k]? := fun k t cs ht hc => by
        refine other_cells (fun e => ?_) _ _ _
        subst e
        rw [hh] at hc
        cases hc
        exact ht rfl
      have h32 : ∀ (k : Nat) (cs : Array Value), w.heap[k]? = some (.cells cs 32) → cs.size = 14 → ∃ cs' : Array Value, (w.setCells g 0 (st0 len c (.slice (some ⟨gl, 0, none⟩) len len) (.slice (some ⟨gr, 0, none⟩) len len) (.slice (some ⟨gx, 0, none⟩) len len)).toList).heap[k]? = some (.cells cs' 32) ∧ cs'.size = 14 := fun k cs hc hs => by
        by_cases e : k = g
        · subst e
          obtain ⟨cs', q1, q2, _⟩ := b1
          exact ⟨cs', q1, q2⟩
        · exact ⟨cs, by rw [other_cells e]; exact hc, hs⟩
      have hall : ∀ i, i < 31 → listed.getD i false = true := fun i hi => by
        match i, hi with
        | 0, _ => exact hd ⟨0, .phase⟩ (by simp) rfl
        | 1, _ => exact hd ⟨1, .phase⟩ (by simp) rfl
        | 2, _ => exact hd ⟨2, .phase⟩ (by simp) rfl
        | 3, _ => exact hd ⟨3, .phase⟩ (by simp) rfl
        | 4, _ => exact hd ⟨4, .phase⟩ (by simp) rfl
        | 5, _ => exact hd ⟨5, .phase⟩ (by simp) rfl
        | 6, _ => exact hd ⟨6, .phase⟩ (by simp) rfl
        | 7, _ => exact hd ⟨7, .phase⟩ (by simp) rfl
        | 8, _ => exact hd ⟨8, .phase⟩ (by simp) rfl
        | 9, _ => exact hd ⟨9, .phase⟩ (by simp) rfl
        | 10, _ => exact hd ⟨10, .phase⟩ (by simp) rfl
        | 11, _ => exact hd ⟨11, .phase⟩ (by simp) rfl
        | 12, _ => exact hd ⟨12, .phase⟩ (by simp) rfl
        | 13, _ => exact hd ⟨13, .phase⟩ (by simp) rfl
        | 14, _ => exact hd ⟨14, .phase⟩ (by simp) rfl
        | 15, _ => exact hd ⟨15, .phase⟩ (by simp) rfl
        | 16, _ => exact hd ⟨16, .phase⟩ (by simp) rfl
        | 17, _ => exact hd ⟨17, .phase⟩ (by simp) rfl
        | 18, _ => exact hd ⟨18, .phase⟩ (by simp) rfl
        | 19, _ => exact hd ⟨19, .phase⟩ (by simp) rfl
        | 20, _ => exact hd ⟨20, .phase⟩ (by simp) rfl
        | 21, _ => exact hd ⟨21, .phase⟩ (by simp) rfl
        | 22, _ => exact hd ⟨22, .phase⟩ (by simp) rfl
        | 23, _ => exact hd ⟨23, .phase⟩ (by simp) rfl
        | 24, _ => exact hd ⟨24, .phase⟩ (by simp) rfl
        | 25, _ => exact hd ⟨25, .phase⟩ (by simp) rfl
        | 26, _ => exact hd ⟨26, .phase⟩ (by simp) rfl
        | 27, _ => exact hd ⟨27, .phase⟩ (by simp) rfl
        | 28, _ => exact hd ⟨28, .phase⟩ (by simp) rfl
        | 29, _ => exact hd ⟨29, .phase⟩ (by simp) rfl
        | 30, _ => exact hd ⟨30, .phase⟩ (by simp) rfl
        | n + 31, hi => exact absurd hi (by omega)
      have hL : ∀ j, (listed.setIfInBounds 31 true).getD j false = true → j = 31 ∨ listed.getD j false = true := by
        intro j hj
        by_cases e : j = 31
        · exact .inl e
        · right
          simpa [Array.getElem?_setIfInBounds, Ne.symm e] using hj
      refine ⟨by simp [h.lsize], h.ds, h.tsize, h.t0, h.t2, h.t3, bel_cells hg _ _ _ h.bel, fun _ i hi => ?_, fun j hj => ?_⟩
      · have := hall i hi
        simpa [Array.getElem?_setIfInBounds, show ¬ 31 = i by omega] using this
      · rcases hL j hj with e | e
        · subst e
          refine ⟨g, _, _, _, hg, e4, b1.to fun i hi => ?_, ⟨gl, hgl, rfl, ?_⟩, ⟨gr, hgr, rfl, ?_⟩, ⟨gx, hgx, rfl, ?_⟩⟩
          · have := b3 i hi
            rw [Nat.zero_add] at this
            rw [this, litF]
            simp
          · rw [hk _ _ _ (by decide) hhl, hhl]
          · rw [hk _ _ _ (by decide) hhr, hhr]
          · rw [hk _ _ _ (by decide) hhx, hhx]
        · by_cases e31 : j = 31
          · exfalso
            subst e31
            have h3 : 31 < listed.size := by rw [h.lsize]; omega
            have hu' : listed.getD 31 true = false := hu
            simp [h3] at e hu'
            rw [e] at hu'
            cases hu'
          · exact (h.sl j e).kept j e31 hk h32
  · intro listed a w2 h hall
    obtain ⟨g, l, r, x, hg, e4, hb, hl', hr', hx'⟩ := h.sl 31 (hall 31 (by decide))
    obtain ⟨gl, hgl, rfl, hhl⟩ := hl'
    obtain ⟨gr, hgr, rfl, hhr⟩ := hr'
    obtain ⟨gx, hgx, rfl, hhx⟩ := hx'
    have e4' : a.tmps.getD 4 undef = .pointer (some ⟨g, 0, none⟩) := e4
    obtain ⟨tm, ds⟩ := a
    have hds : ds = [] := h.ds
    subst hds
    obtain ⟨f, hf⟩ : ∃ f : Nat → Value, f = fun k => tm.getD k undef := ⟨_, rfl⟩
    have f0 : f 0 = .pointer (some ⟨sb, 0, none⟩) := by rw [hf]; exact h.t0
    have f2 : f 2 = .pointer (some ⟨w.heap.size, 0, none⟩) := by rw [hf]; exact h.t2
    have f3 : f 3 = .int .i64 len := by rw [hf]; exact h.t3
    have f4 : f 4 = .pointer (some ⟨g, 0, none⟩) := by rw [hf]; exact e4'
    have htm : tm = ((List.range 115).map f).toArray := by
      apply Array.ext
      · simp; exact h.tsize
      · intro i h1 h2
        simp [hf, h1]
    have hlit : ((List.range 115).map f).toArray = List.toArray (f 0 :: f 1 :: f 2 :: f 3 :: f 4 :: f 5 :: f 6 :: f 7 :: f 8 :: f 9 :: f 10 :: f 11 :: f 12 :: f 13 :: f 14 :: f 15 :: f 16 :: f 17 :: f 18 :: f 19 :: f 20 :: f 21 :: f 22 :: f 23 :: f 24 :: f 25 :: f 26 :: f 27 :: f 28 :: f 29 :: f 30 :: f 31 :: f 32 :: f 33 :: f 34 :: f 35 :: f 36 :: f 37 :: f 38 :: f 39 :: f 40 :: f 41 :: f 42 :: f 43 :: f 44 :: f 45 :: f 46 :: f 47 :: f 48 :: f 49 :: f 50 :: f 51 :: f 52 :: f 53 :: f 54 :: f 55 :: f 56 :: f 57 :: f 58 :: f 59 :: f 60 :: f 61 :: f 62 :: f 63 :: f 64 :: f 65 :: f 66 :: f 67 :: f 68 :: f 69 :: f 70 :: f 71 :: f 72 :: f 73 :: f 74 :: f 75 :: f 76 :: f 77 :: f 78 :: f 79 :: f 80 :: f 81 :: f 82 :: f 83 :: f 84 :: f 85 :: f 86 :: f 87 :: f 88 :: f 89 :: f 90 :: f 91 :: f 92 :: f 93 :: f 94 :: f 95 :: f 96 :: f 97 :: f 98 :: f 99 :: f 100 :: f 101 :: f 102 :: f 103 :: f 104 :: f 105 :: f 106 :: f 107 :: f 108 :: f 109 :: f 110 :: f 111 :: f 112 :: f 113 :: f 114 :: []) := rfl
    rw [htm, hlit, f0, f2, f3, f4]
    have bel2 := h.bel
    clear h hall e4 e4' htm hlit f0 f2 f3 f4 hf
    have bs2 : Blk w2 sb 66 34 fs := hs1.keep bel2 hs1.lt
    have belW := hB1.trans (bel2.mono hB1.size)
    have ss : SS w w2 g gl gr gx sb len _ _ _ _ _ := ⟨fun b hb _ => belW.block b hb, belW.size, belW.os, belW.tape, belW.output, hb, madeBlk hhl, madeBlk hhr, madeBlk hhx, bs2, ⟨rf, hres.keep bel2 hres.lt⟩, by have := hres.lt; omega, by have := hB1.size; omega, by have := hB1.size; omega, by have := hB1.size; omega⟩
    clear bel2 bs2 belW hb hhl hhr hhx hgl hgr hgx hg hB1 hs1 hres
    have c6 := ss.hs.cell (i := 6) (by omega)
    rw [HF.out.2.2.2.1] at c6
    have z6 := ss.hs.frz 6
    go_upto_region 4 with (go_at_call 20; refine (lock_c ⟨sb, 6, none⟩ _ c6 z6).mono ?_; rintro e w' ⟨rfl, rfl⟩)
    have s3 := ss.setS 6 (.int .i32 1)
    clear ss c6 z6
    obtain ⟨w3, hw3⟩ : ∃ w3, w3 = w2.setCell ⟨sb, 6, none⟩ (.int .i32 1) := ⟨_, rfl⟩
    rw [← hw3] at s3 ⊢
    clear hw3
    obtain ⟨sf, hsf⟩ : ∃ sf, sf = upd fs 6 (.int .i32 1) := ⟨_, rfl⟩
    rw [← hsf] at s3
    have HS : Hid (sf 0 = .slice (some ⟨gp, 0, none⟩) len len ∧ sf 6 = .int .i32 1 ∧ sf 12 = .slice (some ⟨ib, 0, none⟩) c.id c.id ∧ sf 15 = .int .u64 c.re ∧ sf 19 = .int .i64 c.sh) := by
      rw [hsf]
      obtain ⟨a1, a2, a3, a4, a5, a6, a7, a8, a9, a10⟩ := HF.out
      exact ⟨a1, rfl, a5, a6, a7⟩
    clear hsf
    have c19 : w3.cell? ⟨sb, 19, none⟩ = some (.int .i64 c.sh) := by rw [s3.hs.cell (by omega), HS.out.2.2.2.2]
    have c15 : w3.cell? ⟨sb, 15, none⟩ = some (.int .u64 c.re) := by rw [s3.hs.cell (by omega), HS.out.2.2.2.1]
    have c12 : w3.cell? ⟨sb, 12, none⟩ = some (.slice (some ⟨ib, 0, none⟩) c.id c.id) := by rw [s3.hs.cell (by omega), HS.out.2.2.1]
    have g1 := s3.hg.cell (i := 1) (by omega)
    have g8 := s3.hg.cell (i := 8) (by omega)
    have g13 := s3.hg.cell (i := 13) (by omega)
    have zg := s3.hg.frz
    have hsg : ¬ sb = g := s3.hs.ne s3.hg (by decide)
    have hsg' : ¬ g = sb := fun e => hsg e.symm
    go_upto_region 7 with (go_at_call 9; refine (loadI64_c ⟨sb, 19, none⟩ c.sh _ c19).mono ?_; rintro e w' ⟨rfl, hw'⟩; rw [hw']; clear hw' w')
    have s4 := ((s3.setG 1 (.int .i64 c.sh)).setG 8 (.int .u64 c.re)).setG 13 (.int .i64 c.id)
    clear s3 c19 c15 c12 g1 g8 g13 zg
    obtain ⟨w4, hw4⟩ : ∃ w4, w4 = ((w3.setCell ⟨g, 1, none⟩ (.int .i64 c.sh)).setCell ⟨g, 8, none⟩ (.int .u64 c.re)).setCell ⟨g, 13, none⟩ (.int .i64 c.id) := ⟨_, rfl⟩
    rw [← hw4] at s4 ⊢
    clear hw4
    have c6 : w4.cell? ⟨sb, 6, none⟩ = some (.int .i32 1) := by rw [s4.hs.cell (by omega), HS.out.2.1]
    have z6 := s4.hs.frz 6
    go_upto_region 8 with (go_at_call 21; refine (unlock_c ⟨sb, 6, none⟩ _ c6 z6).mono ?_; rintro e w' ⟨rfl, rfl⟩)
    have s5 := s4.setS 6 (.int .i32 0)
    clear s4 c6 z6
    obtain ⟨w5, hw5⟩ : ∃ w5, w5 = w4.setCell ⟨sb, 6, none⟩ (.int .i32 0) := ⟨_, rfl⟩
    rw [← hw5] at s5 ⊢
    clear hw5
    have c0' : w5.cell? ⟨sb, 0, none⟩ = some (.slice (some ⟨gp, 0, none⟩) len len) := by rw [s5.hs.cell (by omega)]; exact congrArg some HS.out.1
    obtain ⟨gF, hgF⟩ : ∃ gF, gF = upd (upd (upd (litF (st0 len c (.slice (some ⟨gl, 0, none⟩) len len) (.slice (some ⟨gr, 0, none⟩) len len) (.slice (some ⟨gx, 0, none⟩) len len))) 1 (.int .i64 c.sh)) 8 (.int .u64 c.re)) 13 (.int .i64 c.id) := ⟨_, rfl⟩
    rw [← hgF] at s5
    have HG : Hid (gF 0 = .int .i64 len ∧ gF 1 = .int .i64 c.sh ∧ gF 2 = .slice (some ⟨gl, 0, none⟩) len len ∧ gF 3 = .slice (some ⟨gr, 0, none⟩) len len ∧ gF 4 = .slice (some ⟨gx, 0, none⟩) len len ∧ gF 5 = .int .u64 0 ∧ gF 6 = .int .u64 0 ∧ gF 7 = .int .u64 c.ho ∧ gF 8 = .int .u64 c.re ∧ gF 9 = .int .u64 c.pa ∧ gF 10 = .int .u64 c.pk ∧ gF 11 = .int .i64 c.sp ∧ gF 12 = .int .i64 c.th ∧ gF 13 = .int .i64 c.id) := by
      rw [hgF]
      exact ⟨rfl, rfl, rfl, rfl, rfl, rfl, rfl, rfl, rfl, rfl, rfl, rfl, rfl, rfl⟩
    clear hgF HS
    have L0 : LK w w5 g gl gr gx sb len gF q 0 := ⟨_, _, _, _, _, s5, fun _ _ _ => rfl, HG.out.2.2.2.2.2.1, HG.out.2.2.2.2.2.2.1, fun j hj => absurd hj (by omega)⟩
    clear s5
    go_wp2
    go_loopw [71] (fun i wr => ∃ k : Nat, k ≤ len ∧ i = .int .i64 k ∧ LK w wr g gl gr gx sb len gF q k) (fun i _ => len - (intOf i).toNat)
    case atStart => exact ⟨0, by omega, rfl, L0⟩
    case round =>
      obtain ⟨k, hk, rfl, hLK⟩ := hrel
      rename World => wa
      clear L0 c0'
      obtain ⟨gf, lf, rf, xf, sf', ss, hgf, hg5, hg6, hrow⟩ := hLK
      by_cases hkl : k < len
      · have hkl' : (k : Int) < len := by omega
        obtain ⟨r, hr, pb, hpb⟩ := hJ.row
        obtain ⟨hrk, hPw⟩ := hpb k hkl
        have hgps : gp ≠ sb := by have := hJ.gs; omega
        have hPA : ∀ (v : World) (gf lf rf xf sf : Nat → Value), SS w v g gl gr gx sb len gf lf rf xf sf → ProcAt v B1 (pb k) (q k) := fun v _ _ _ _ _ s => hPw.block fun i hi hB => s.bel i hi (by have := hJ.lt; omega)
        have rk : wa.cell? ⟨gp, k, none⟩ = some (.pointer (some ⟨pb k, 0, none⟩)) := by rw [(hr.block (ss.bel gp hr.lt hgps)).cell hkl, hrk]
        have HPk : Hid (pb k < w.heap.size ∧ pb k ≠ sb) := by
          obtain ⟨⟨pf, hp, _⟩, hge⟩ := hPw
          exact ⟨hp.lt, by have := hJ.lt; omega⟩
        clear hPw hrk
        obtain ⟨p, hp⟩ : ∃ p, p = pb k := ⟨_, rfl⟩
        rw [← hp] at hPA rk HPk
        clear hp hpb
        have HPA : Hid (∀ (v : World) (gf lf rf xf sf : Nat → Value), SS w v g gl gr gx sb len gf lf rf xf sf → ProcAt v B1 p (q k)) := hPA
        have HR : Hid (∀ j, j < k → lf j = .int .i64 (loc (q j).head (q j).tail) ∧ rf j = .bool (q j).next ∧ xf j = .int .u64 (ranOf (q j).hold (q j).resumed)) := hrow
        have HGF : Hid (∀ i, i ≠ 5 → i ≠ 6 → gf i = gF i) := hgf
        have HG56 : Hid (gf 5 = .int .u64 (sumU (fun j => (q j).steals) k) ∧ gf 6 = .int .u64 (sumU (fun j => (q j).stolen) k)) := ⟨hg5, hg6⟩
        clear hPA hrow hgf hg5 hg6
        go_upto_region 11 with fail
        have n1 : ¬ gl = g := ss.hl.ne ss.hg (by decide)
        have n2 : ¬ gr = g := ss.hr.ne ss.hg (by decide)
        have n3 : ¬ gx = g := ss.hx.ne ss.hg (by decide)
        -- Local
        have e2 : wa.cell? ⟨g, 2, none⟩ = some (.slice (some ⟨gl, 0, none⟩) len len) := by rw [ss.hg.cell (by omega), HGF.out 2 (by omega) (by omega), HG.out.2.2.1]
        obtain ⟨⟨pf, hpb, q3, q4, q5, q6, q7, q8, q9⟩, -⟩ := HPA.out _ _ _ _ _ _ ss.drew
        have h3 := hpb.cell (i := 3) (by omega)
        have h4 := hpb.cell (i := 4) (by omega)
        rw [q3] at h3
        rw [q4] at h4
        clear hpb q3 q4 q5 q6 q7 q8 q9
        have l1 := ss.hl.cell hkl
        have l2 := ss.hl.frz k
        go_region_held3 (fun w' => w'.cell? ⟨g, 2, none⟩ = some (.slice (some ⟨gl, 0, none⟩) len len)) (go_keep) ((go_at_call 22; refine (localLen_c (q k).head (q k).tail p wa.drew h3 h4).mono ?_; rintro e w' ⟨rfl, rfl⟩))
        have sb1 := (ss.setL k (.int .i64 (loc (q k).head (q k).tail))).drew
        rename_i hh
        clear hh
        clear e2 h3 h4 l1 l2 ss
        obtain ⟨wb, hw⟩ : ∃ w', w' = (wa.setCell ⟨gl, k, none⟩ (.int .i64 (loc (q k).head (q k).tail))).drew := ⟨_, rfl⟩
        rw [← hw] at sb1 ⊢
        clear hw
        -- RunNext
        go_upto_region 12 with fail
        have e3 : wb.cell? ⟨g, 3, none⟩ = some (.slice (some ⟨gr, 0, none⟩) len len) := by rw [sb1.hg.cell (by omega), HGF.out 3 (by omega) (by omega), HG.out.2.2.2.1]
        obtain ⟨pp, hc2, hnp⟩ : ∃ pp : Option Addr, Calls Yba.prog 23 #[.pointer (some ⟨p, 2, none⟩)] wb.drew (fun e w' => e = .returned (.pointer pp) ∧ w' = wb.drew) ∧ ∀ w : World, (binOp .neq 69 (.pointer pp) (.pointer none)).run Yba.prog w = .ok (.bool (q k).next) w := by
          obtain ⟨⟨pf, hpb, q3, q4, q5, q6, q7, q8, q9⟩, -⟩ := HPA.out _ _ _ _ _ _ sb1.drew
          have h2 := hpb.cell (i := 2) (by omega)
          rcases q9 with ⟨hn, q9⟩ | ⟨hn, g', h', _, q9, hT⟩
          · rw [q9] at h2
            exact ⟨none, loadPtr_nil_c _ _ h2, fun w => by rw [hn]; kernel_rfl⟩
          · rw [q9] at h2
            obtain ⟨cs, hT1, hT2, _⟩ := hT
            exact ⟨some ⟨g', 0, none⟩, loadPtr_c _ _ _ _ h2 hT1 hT2, fun w => by rw [hn]; kernel_rfl⟩
        have l1 := sb1.hr.cell hkl
        have l2 := sb1.hr.frz k
        go_region_held3 (fun w' => w'.cell? ⟨g, 3, none⟩ = some (.slice (some ⟨gr, 0, none⟩) len len)) (go_keep) ((go_at_call 23; refine hc2.mono ?_; rintro e w' ⟨rfl, rfl⟩))
        have sc1 := (sb1.setR k (.bool (q k).next)).drew
        rename_i hh
        clear hh
        clear e3 hc2 hnp l1 l2 sb1
        obtain ⟨wc, hw⟩ : ∃ w', w' = (wb.setCell ⟨gr, k, none⟩ (.bool (q k).next)).drew := ⟨_, rfl⟩
        rw [← hw] at sc1 ⊢
        clear hw
        -- Ran
        go_upto_region 13 with fail
        have e4 : wc.cell? ⟨g, 4, none⟩ = some (.slice (some ⟨gx, 0, none⟩) len len) := by rw [sc1.hg.cell (by omega), HGF.out 4 (by omega) (by omega), HG.out.2.2.2.2.1]
        obtain ⟨⟨pf, hpb, q3, q4, q5, q6, q7, q8, q9⟩, -⟩ := HPA.out _ _ _ _ _ _ sc1.drew
        have h3 := hpb.cell (i := 263) (by omega)
        have h4 := hpb.cell (i := 267) (by omega)
        rw [q5] at h3
        rw [q6] at h4
        clear hpb q3 q4 q5 q6 q7 q8 q9
        have l1 := sc1.hx.cell hkl
        have l2 := sc1.hx.frz k
        go_region_held3 (fun w' => w'.cell? ⟨g, 4, none⟩ = some (.slice (some ⟨gx, 0, none⟩) len len)) (go_keep) ((go_at_call 24; refine (started_c (q k).hold (q k).resumed p wc.drew h3 h4).mono ?_; rintro e w' ⟨rfl, rfl⟩))
        have sd1 := (sc1.setX k (.int .u64 (ranOf (q k).hold (q k).resumed))).drew
        rename_i hh
        clear hh
        clear e4 h3 h4 l1 l2 sc1
        obtain ⟨wd, hw⟩ : ∃ w', w' = (wc.setCell ⟨gx, k, none⟩ (.int .u64 (ranOf (q k).hold (q k).resumed))).drew := ⟨_, rfl⟩
        rw [← hw] at sd1 ⊢
        clear hw
        -- steals
        go_upto_region 14 with fail
        have e5 : wd.cell? ⟨g, 5, none⟩ = some (.int .u64 (sumU (fun j => (q j).steals) k)) := by rw [sd1.hg.cell (by omega), HG56.out.1]
        obtain ⟨⟨pf, hpb, q3, q4, q5, q6, q7, q8, q9⟩, -⟩ := HPA.out _ _ _ _ _ _ sd1.drew
        have h3 := hpb.cell (i := 268) (by omega)
        rw [q7] at h3
        clear hpb q3 q4 q5 q6 q7 q8 q9
        have l2 := sd1.hg.frz 5
        obtain ⟨su5, hsu⟩ : ∃ su, su = sumU (fun j => (q j).steals) k := ⟨_, rfl⟩
        rw [← hsu] at e5
        have HSU5 : Hid (su5 = sumU (fun j => (q j).steals) k) := hsu
        clear hsu
        go_region_with (go_at_call 11; refine (loadU64_c ⟨p, 268, none⟩ (q k).steals wd.drew h3).mono ?_; rintro e w' ⟨rfl, rfl⟩)
        all_goals
          have sd1' := (sd1.setG 5 (.int .u64 (IntKind.u64.wrap (su5 + (q k).steals)))).drew
          clear e5 h3 l2 sd1
          obtain ⟨we, hw⟩ : ∃ w', w' = (wd.setCell ⟨g, 5, none⟩ (.int .u64 (IntKind.u64.wrap (su5 + (q k).steals)))).drew := ⟨_, rfl⟩
          rw [← hw] at sd1' ⊢
          clear hw
          -- stolen
          go_upto_region 15 with fail
          have e5 : we.cell? ⟨g, 6, none⟩ = some (.int .u64 (sumU (fun j => (q j).stolen) k)) := by rw [sd1'.hg.cell (by omega), upd_other _ _ _ _ (by omega : (6 : Nat) ≠ 5), HG56.out.2]
          obtain ⟨⟨pf, hpb, q3, q4, q5, q6, q7, q8, q9⟩, -⟩ := HPA.out _ _ _ _ _ _ sd1'.drew
          have h3 := hpb.cell (i := 269) (by omega)
          rw [q8] at h3
          clear hpb q3 q4 q5 q6 q7 q8 q9
          have l2 := sd1'.hg.frz 6
          obtain ⟨su6, hsu⟩ : ∃ su, su = sumU (fun j => (q j).stolen) k := ⟨_, rfl⟩
          rw [← hsu] at e5
          have HSU6 : Hid (su6 = sumU (fun j => (q j).stolen) k) := hsu
          clear hsu
          go_region_with (go_at_call 11; refine (loadU64_c ⟨p, 269, none⟩ (q k).stolen we.drew h3).mono ?_; rintro e w' ⟨rfl, rfl⟩)
          all_goals
            have sd1'' := (sd1'.setG 6 (.int .u64 (IntKind.u64.wrap (su6 + (q k).stolen)))).drew
            clear e5 h3 l2 sd1'
            go_wp2
            go_roundw
            case rel => exact ⟨k + 1, by omega, by go_num, LK.next sd1'' HGF.out HSU5.out HSU6.out HR.out⟩
            case measure => simp [intOf]; omega
      · have hkl' : ¬ (k : Int) < len := by omega
        have e : k = len := by omega
        subst e
        obtain ⟨rbf, hrb⟩ := ss.hb
        obtain ⟨m0, m1, m2, m3, m4, -, -, m7, m8, m9, m10, m11, m12, m13⟩ := HG.out
        have y0 := ss.hg.cell (i := 0) (by omega)
        rw [hgf 0 (by omega) (by omega), m0] at y0
        have y1 := ss.hg.cell (i := 1) (by omega)
        rw [hgf 1 (by omega) (by omega), m1] at y1
        have y2 := ss.hg.cell (i := 2) (by omega)
        rw [hgf 2 (by omega) (by omega), m2] at y2
        have y3 := ss.hg.cell (i := 3) (by omega)
        rw [hgf 3 (by omega) (by omega), m3] at y3
        have y4 := ss.hg.cell (i := 4) (by omega)
        rw [hgf 4 (by omega) (by omega), m4] at y4
        have y5 := ss.hg.cell (i := 5) (by omega)
        rw [hg5] at y5
        have y6 := ss.hg.cell (i := 6) (by omega)
        rw [hg6] at y6
        have y7 := ss.hg.cell (i := 7) (by omega)
        rw [hgf 7 (by omega) (by omega), m7] at y7
        have y8 := ss.hg.cell (i := 8) (by omega)
        rw [hgf 8 (by omega) (by omega), m8] at y8
        have y9 := ss.hg.cell (i := 9) (by omega)
        rw [hgf 9 (by omega) (by omega), m9] at y9
        have y10 := ss.hg.cell (i := 10) (by omega)
        rw [hgf 10 (by omega) (by omega), m10] at y10
        have y11 := ss.hg.cell (i := 11) (by omega)
        rw [hgf 11 (by omega) (by omega), m11] at y11
        have y12 := ss.hg.cell (i := 12) (by omega)
        rw [hgf 12 (by omega) (by omega), m12] at y12
        have y13 := ss.hg.cell (i := 13) (by omega)
        rw [hgf 13 (by omega) (by omega), m13] at y13
        have x0 := hrb.cell (i := 0) (by omega)
        have x1 := hrb.cell (i := 1) (by omega)
        have x2 := hrb.cell (i := 2) (by omega)
        have x3 := hrb.cell (i := 3) (by omega)
        have x4 := hrb.cell (i := 4) (by omega)
        have x5 := hrb.cell (i := 5) (by omega)
        have x6 := hrb.cell (i := 6) (by omega)
        have x7 := hrb.cell (i := 7) (by omega)
        have x8 := hrb.cell (i := 8) (by omega)
        have x9 := hrb.cell (i := 9) (by omega)
        have x10 := hrb.cell (i := 10) (by omega)
        have x11 := hrb.cell (i := 11) (by omega)
        have x12 := hrb.cell (i := 12) (by omega)
        have x13 := hrb.cell (i := 13) (by omega)
        have zb := hrb.frz
        have hbg : ¬ w.heap.size = g := by have := ss.ng; omega
        have hbg' : ¬ g = w.heap.size := by omega
        go_wp2
        obtain ⟨wE, hwE⟩ : ∃ wE, wE = ((((((((((((((wa.setCell ⟨w.heap.size, 0, none⟩ (.int .i64 k)).setCell ⟨w.heap.size, 1, none⟩ (.int .i64 c.sh)).setCell ⟨w.heap.size, 2, none⟩ (.slice (some ⟨gl, 0, none⟩) k k)).setCell ⟨w.heap.size, 3, none⟩ (.slice (some ⟨gr, 0, none⟩) k k)).setCell ⟨w.heap.size, 4, none⟩ (.slice (some ⟨gx, 0, none⟩) k k)).setCell ⟨w.heap.size, 5, none⟩ (.int .u64 (sumU (fun j => (q j).steals) k))).setCell ⟨w.heap.size, 6, none⟩ (.int .u64 (sumU (fun j => (q j).stolen) k))).setCell ⟨w.heap.size, 7, none⟩ (.int .u64 c.ho)).setCell ⟨w.heap.size, 8, none⟩ (.int .u64 c.re)).setCell ⟨w.heap.size, 9, none⟩ (.int .u64 c.pa)).setCell ⟨w.heap.size, 10, none⟩ (.int .u64 c.pk)).setCell ⟨w.heap.size, 11, none⟩ (.int .i64 c.sp)).setCell ⟨w.heap.size, 12, none⟩ (.int .i64 c.th)).setCell ⟨w.heap.size, 13, none⟩ (.int .i64 c.id)) := ⟨_, rfl⟩
        rw [← hwE]
        have sE : SS w wE g gl gr gx sb k gf lf rf xf sf' := by rw [hwE]; exact ((((((((((((((ss.setB 0 (.int .i64 k)).setB 1 (.int .i64 c.sh)).setB 2 (.slice (some ⟨gl, 0, none⟩) k k)).setB 3 (.slice (some ⟨gr, 0, none⟩) k k)).setB 4 (.slice (some ⟨gx, 0, none⟩) k k)).setB 5 (.int .u64 (sumU (fun j => (q j).steals) k))).setB 6 (.int .u64 (sumU (fun j => (q j).stolen) k))).setB 7 (.int .u64 c.ho)).setB 8 (.int .u64 c.re)).setB 9 (.int .u64 c.pa)).setB 10 (.int .u64 c.pk)).setB 11 (.int .i64 c.sp)).setB 12 (.int .i64 c.th)).setB 13 (.int .i64 c.id))
        obtain ⟨rbe, hE, hE1⟩ : ∃ rbe, Blk wE w.heap.size 32 14 rbe ∧ rbe = (upd (upd (upd (upd (upd (upd (upd (upd (upd (upd (upd (upd (upd (upd rbf 0 (.int .i64 k)) 1 (.int .i64 c.sh)) 2 (.slice (some ⟨gl, 0, none⟩) k k)) 3 (.slice (some ⟨gr, 0, none⟩) k k)) 4 (.slice (some ⟨gx, 0, none⟩) k k)) 5 (.int .u64 (sumU (fun j => (q j).steals) k))) 6 (.int .u64 (sumU (fun j => (q j).stolen) k))) 7 (.int .u64 c.ho)) 8 (.int .u64 c.re)) 9 (.int .u64 c.pa)) 10 (.int .u64 c.pk)) 11 (.int .i64 c.sp)) 12 (.int .i64 c.th)) 13 (.int .i64 c.id)) := ⟨_, by rw [hwE]; exact ((((((((((((((hrb.set 0 (.int .i64 k)).set 1 (.int .i64 c.sh)).set 2 (.slice (some ⟨gl, 0, none⟩) k k)).set 3 (.slice (some ⟨gr, 0, none⟩) k k)).set 4 (.slice (some ⟨gx, 0, none⟩) k k)).set 5 (.int .u64 (sumU (fun j => (q j).steals) k))).set 6 (.int .u64 (sumU (fun j => (q j).stolen) k))).set 7 (.int .u64 c.ho)).set 8 (.int .u64 c.re)).set 9 (.int .u64 c.pa)).set 10 (.int .u64 c.pk)).set 11 (.int .i64 c.sp)).set 12 (.int .i64 c.th)).set 13 (.int .i64 c.id)), rfl⟩
        clear hwE
        refine bodyPost_ret (v := .agg #[.int .i64 k, .int .i64 c.sh, .slice (some ⟨gl, 0, none⟩) k k, .slice (some ⟨gr, 0, none⟩) k k, .slice (some ⟨gx, 0, none⟩) k k, .int .u64 (sumU (fun j => (q j).steals) k), .int .u64 (sumU (fun j => (q j).stolen) k), .int .u64 c.ho, .int .u64 c.re, .int .u64 c.pa, .int .u64 c.pk, .int .i64 c.sp, .int .i64 c.th, .int .i64 c.id]) ?_ rfl ?_
        · have t0 : wE.cell? ⟨w.heap.size, 0, none⟩ = some (.int .i64 k) := by rw [hE.cell (by omega), hE1]; rfl
          have t1 : wE.cell? ⟨w.heap.size, 1, none⟩ = some (.int .i64 c.sh) := by rw [hE.cell (by omega), hE1]; rfl
          have t2 : wE.cell? ⟨w.heap.size, 2, none⟩ = some (.slice (some ⟨gl, 0, none⟩) k k) := by rw [hE.cell (by omega), hE1]; rfl
          have t3 : wE.cell? ⟨w.heap.size, 3, none⟩ = some (.slice (some ⟨gr, 0, none⟩) k k) := by rw [hE.cell (by omega), hE1]; rfl
          have t4 : wE.cell? ⟨w.heap.size, 4, none⟩ = some (.slice (some ⟨gx, 0, none⟩) k k) := by rw [hE.cell (by omega), hE1]; rfl
          have t5 : wE.cell? ⟨w.heap.size, 5, none⟩ = some (.int .u64 (sumU (fun j => (q j).steals) k)) := by rw [hE.cell (by omega), hE1]; rfl
          have t6 : wE.cell? ⟨w.heap.size, 6, none⟩ = some (.int .u64 (sumU (fun j => (q j).stolen) k)) := by rw [hE.cell (by omega), hE1]; rfl
          have t7 : wE.cell? ⟨w.heap.size, 7, none⟩ = some (.int .u64 c.ho) := by rw [hE.cell (by omega), hE1]; rfl
          have t8 : wE.cell? ⟨w.heap.size, 8, none⟩ = some (.int .u64 c.re) := by rw [hE.cell (by omega), hE1]; rfl
          have t9 : wE.cell? ⟨w.heap.size, 9, none⟩ = some (.int .u64 c.pa) := by rw [hE.cell (by omega), hE1]; rfl
          have t10 : wE.cell? ⟨w.heap.size, 10, none⟩ = some (.int .u64 c.pk) := by rw [hE.cell (by omega), hE1]; rfl
          have t11 : wE.cell? ⟨w.heap.size, 11, none⟩ = some (.int .i64 c.sp) := by rw [hE.cell (by omega), hE1]; rfl
          have t12 : wE.cell? ⟨w.heap.size, 12, none⟩ = some (.int .i64 c.th) := by rw [hE.cell (by omega), hE1]; rfl
          have t13 : wE.cell? ⟨w.heap.size, 13, none⟩ = some (.int .i64 c.id) := by rw [hE.cell (by omega), hE1]; rfl
          clear hE hE1 sE
          rw [show (results Yba.f7 _).run Yba.prog wE = _ from by rw [results_cell1 (fn := Yba.f7) (p := 2) (ty := 32) rfl]]
          go_simp
        · exact ⟨gl, gr, gx, _, _, _, rfl, sE.bel, sE.size, sE.os, sE.tape, sE.output, sE.hl, sE.hr, sE.hx, hrow⟩
end Go.Proofs.Ybulkgrw
