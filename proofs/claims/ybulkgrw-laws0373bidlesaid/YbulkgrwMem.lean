/-
  BLOCKS OF MEMORY BY THEIR CELLS; a processor in memory; the little callees that only read.
-/
import Derived.Test.YbulkgrwBase
import Derived.Deep.OwnRows
import Derived.Deep.RegionHeld3
import Derived.Deep.CutRange
import Derived.Laws.Tables
namespace Go.Proofs.Ybulkgrw
open Go.RowKit

def upd (f : Nat → Value) (i : Nat) (v : Value) : Nat → Value := fun k => if k = i then v else f k
theorem upd_same (f : Nat → Value) (i : Nat) (v : Value) : upd f i v i = v := by simp [upd]
theorem upd_other (f : Nat → Value) (i k : Nat) (v : Value) (h : k ≠ i) : upd f i v k = f k := by simp [upd, h]

/-- The block b is n cells of the type t, which read f 0, f 1, .. -/
def Blk (w : World) (b : Nat) (t : TypeId) (n : Nat) (f : Nat → Value) : Prop := ∃ cs, w.heap[b]? = some (.cells cs t) ∧ cs.size = n ∧ ∀ i, i < n → cs[i]? = some (f i)

theorem Blk.cell {w : World} {b n : Nat} {t : TypeId} {f : Nat → Value} (h : Blk w b t n f) {i : Nat} (hi : i < n) : w.cell? ⟨b, i, none⟩ = some (f i) := by
  obtain ⟨cs, h1, h2, h3⟩ := h
  simp [World.cell?, h1, h3 i hi]
theorem Blk.frz {w : World} {b n : Nat} {t : TypeId} {f : Nat → Value} (h : Blk w b t n f) (i : Nat) : w.frozen? ⟨b, i, none⟩ = false := by
  obtain ⟨cs, h1, h2, h3⟩ := h
  simp [World.frozen?, h1]
theorem Blk.lt {w : World} {b n : Nat} {t : TypeId} {f : Nat → Value} (h : Blk w b t n f) : b < w.heap.size := by
  obtain ⟨cs, h1, h2, h3⟩ := h
  exact (Array.getElem?_eq_some_iff.1 h1).1
theorem Blk.block {w w' : World} {b n : Nat} {t : TypeId} {f : Nat → Value} (h : Blk w b t n f) (e : w'.heap[b]? = w.heap[b]?) : Blk w' b t n f := by
  obtain ⟨cs, h1, h2, h3⟩ := h
  exact ⟨cs, by rw [e, h1], h2, h3⟩
theorem Blk.keep {w w' : World} {B b n : Nat} {t : TypeId} {f : Nat → Value} (h : Blk w b t n f) (hb : Below B w w') (hB : b < B) : Blk w' b t n f := h.block (hb.block b hB)
theorem Blk.other {w : World} {b n : Nat} {t : TypeId} {f : Nat → Value} (h : Blk w b t n f) (a : Addr) (v : Value) (hne : b ≠ a.block) : Blk (w.setCell a v) b t n f := h.block (Below.heap_setCell w a v b hne)
theorem Blk.set {w : World} {b n : Nat} {t : TypeId} {f : Nat → Value} (h : Blk w b t n f) (i : Nat) (v : Value) : Blk (w.setCell ⟨b, i, none⟩ v) b t n (upd f i v) := by
  obtain ⟨cs, h1, h2, h3⟩ := h
  refine ⟨cs.setIfInBounds i v, ?_, by simp [h2], fun k hk => ?_⟩
  · simp [World.setCell, Array.getElem?_modify, h1]
  · rw [Array.getElem?_setIfInBounds]
    by_cases e : i = k
    · subst e; simp [h2, hk, upd]
    · rw [if_neg e, h3 k hk, upd, if_neg (fun x => e x.symm)]
theorem Blk.drew {w : World} {b n : Nat} {t : TypeId} {f : Nat → Value} (h : Blk w b t n f) : Blk w.drew b t n f := h
theorem Blk.drewN {w : World} {b n : Nat} {t : TypeId} {f : Nat → Value} (h : Blk w b t n f) (k : Nat) : Blk (w.drewN k) b t n f := h
def litF (cs : Array Value) : Nat → Value := fun i => cs.getD i undef
theorem Blk.new (w : World) (cs : Array Value) (t : TypeId) {b n : Nat} (hb : b = w.heap.size) (hn : cs.size = n) : Blk (w.alloc (.cells cs t)) b t n (litF cs) := by
  subst hb hn
  exact ⟨cs, by show (w.heap.push _)[w.heap.size]? = _; rw [Array.getElem?_push_size], rfl, fun i hi => by simp [hi, litF]⟩
theorem Blk.alloc {w : World} {b n : Nat} {t : TypeId} {f : Nat → Value} (h : Blk w b t n f) (o : Obj) : Blk (w.alloc o) b t n f := h.block (Below.heap_alloc w o b h.lt)
theorem Blk.to {w : World} {b n : Nat} {t : TypeId} {f g : Nat → Value} (h : Blk w b t n f) (e : ∀ i, i < n → f i = g i) : Blk w b t n g := by
  obtain ⟨cs, h1, h2, h3⟩ := h
  exact ⟨cs, h1, h2, fun i hi => by rw [h3 i hi, e i hi]⟩

/-! ### a processor -/
structure PQ where
  head : Int
  tail : Int
  hold : Int
  resumed : Int
  steals : Int
  stolen : Int
  next : Bool
deriving Inhabited

/-- The block b is a processor that reads q; its task, if it has one, lies at or behind B. -/
structure ProcAt (w : World) (B b : Nat) (q : PQ) : Prop where
  at_ : ∃ f, Blk w b 80 270 f ∧ f 3 = .int .u32 q.head ∧ f 4 = .int .u32 q.tail ∧ f 263 = .int .u64 q.hold ∧ f 267 = .int .u64 q.resumed ∧ f 268 = .int .u64 q.steals ∧ f 269 = .int .u64 q.stolen ∧
    ((q.next = false ∧ f 2 = .pointer none) ∨ (q.next = true ∧ ∃ g h, B ≤ g ∧ f 2 = .pointer (some ⟨g, 0, none⟩) ∧ Blk w g 101 2 h))
  ge : B ≤ b

theorem ProcAt.block {w w' : World} {B b : Nat} {q : PQ} (h : ProcAt w B b q) (e : ∀ k, k < w.heap.size → B ≤ k → w'.heap[k]? = w.heap[k]?) : ProcAt w' B b q := by
  obtain ⟨⟨f, hb, h3, h4, h5, h6, h7, h8, h9⟩, hge⟩ := h
  refine ⟨⟨f, hb.block (e b hb.lt hge), h3, h4, h5, h6, h7, h8, ?_⟩, hge⟩
  rcases h9 with h9 | ⟨n, g, k, hg, h10, h11⟩
  · exact .inl h9
  · exact .inr ⟨n, g, k, hg, h10, h11.block (e g h11.lt hg)⟩

/-! ### the little callees -/
def loc (h t : Int) : Int := if 256 < (t - h) % 4294967296 then 256 else (t - h) % 4294967296
def stretchOf (h : Int) : Int := IntKind.u64.wrap ((IntKind.u64.wrap (h + 3)).tdiv 4)
def ranOf (h r : Int) : Int := IntKind.u64.wrap (stretchOf h - r)
theorem stretches_c (h : Int) (w : World) :
    Calls Yba.prog 40 #[.int .u64 h] w fun e w' => e = .returned (.int .u64 (stretchOf h)) ∧ w' = w := by
  go_enter Yba.func40, Yba.ntmps40
  go_wp2
  go_ret
  exact ⟨rfl, rfl⟩
theorem localLen_c (h t : Int) (b : Nat) (w : World) (h0 : w.cell? ⟨b, 3, none⟩ = some (.int .u32 h)) (h1 : w.cell? ⟨b, 4, none⟩ = some (.int .u32 t)) :
    Calls Yba.prog 22 #[.pointer (some ⟨b, 0, none⟩)] w fun e w' => e = .returned (.int .i64 (loc h t)) ∧ w' = w := by
  go_enter Yba.func22, Yba.ntmps22
  go_wp2_with (first | (go_at_call 10; refine (loadU32_c ⟨b, 3, none⟩ h _ h0).mono ?_; rintro e w' ⟨rfl, rfl⟩) | (go_at_call 10; refine (loadU32_c ⟨b, 4, none⟩ t _ h1).mono ?_; rintro e w' ⟨rfl, rfl⟩))
  · go_ret
    rename_i hh
    exact ⟨by rw [loc, if_pos hh]; rfl, rfl⟩
  · go_ret
    rename_i hh
    exact ⟨by rw [loc, if_neg (by omega)]; rfl, rfl⟩
theorem started_c (h r : Int) (b : Nat) (w : World) (h0 : w.cell? ⟨b, 263, none⟩ = some (.int .u64 h)) (h1 : w.cell? ⟨b, 267, none⟩ = some (.int .u64 r)) :
    Calls Yba.prog 24 #[.pointer (some ⟨b, 0, none⟩)] w fun e w' => e = .returned (.int .u64 (ranOf h r)) ∧ w' = w := by
  go_enter Yba.func24, Yba.ntmps24
  go_wp2_with (first | (go_at_call 11; refine (loadU64_c ⟨b, 263, none⟩ h _ h0).mono ?_; rintro e w' ⟨rfl, rfl⟩) | (go_at_call 11; refine (loadU64_c ⟨b, 267, none⟩ r _ h1).mono ?_; rintro e w' ⟨rfl, rfl⟩) | (go_at_call 40; refine (stretches_c h _).mono ?_; rintro e w' ⟨rfl, rfl⟩))
  go_ret
  exact ⟨rfl, rfl⟩

/-! ### '&proc{sched: s, id: i}': 270 cells, never written out -/
noncomputable def procCells (sb : Nat) (i : Int) : Array Value := (Yba.prog.built 80 [(0, .pointer (some ⟨sb, 0, none⟩)), (1, .int .i64 i)]).getD #[]
theorem built80 (sb : Nat) (i : Int) : Yba.prog.built 80 [(0, .pointer (some ⟨sb, 0, none⟩)), (1, .int .i64 i)] = some (procCells sb i) := by
  have h : (Yba.prog.built 80 [(0, .pointer (some ⟨sb, 0, none⟩)), (1, .int .i64 i)]).isSome = true := by kernel_rfl
  obtain ⟨c, hc⟩ := Option.isSome_iff_exists.1 h
  rw [procCells, hc]; rfl
theorem procCells_size (sb : Nat) (i : Int) : (procCells sb i).size = 270 := by kernel_rfl
theorem procCells_next (sb : Nat) (i : Int) : (procCells sb i).getD 2 undef = .pointer none := by kernel_rfl
theorem run_build80 (sb : Nat) (i : Int) (w : World) : (Instr.build 80 #[(0, .pointer (some ⟨sb, 0, none⟩)), (1, .int .i64 i)]).run Yba.prog w = .ok (.agg (procCells sb i)) w := run_build w 80 _ _ (built80 sb i)
theorem wpList_build80 (w : World) {ops : Array Oper} {rest : List Oper} {o : Oper} {a : Act} {Q : Exit → Act → World → Prop} (hgd : o.guard = none) (x y : Operand)
    (ho : o.op = .build 80 #[(0, x), (1, y)]) (sb : Nat) (i : Int) (hx : a.eval x = .pointer (some ⟨sb, 0, none⟩)) (hy : a.eval y = .int .i64 i)
    (h : wpList Yba.prog ops Q rest (a.put o.dst (.agg (procCells sb i))) w) : wpList Yba.prog ops Q (o :: rest) a w := by
  refine wpList_plain hgd fun K hK => ?_
  unfold Oper.wp execOp
  have hr := run_build80 sb i w
  simp [ho, hx, hy, hr]
  exact hK _ _ h
/-- 'box' of the 270 cells. -/
theorem wpList_box80 (w : World) {ops : Array Oper} {rest : List Oper} {o : Oper} {a : Act} {Q : Exit → Act → World → Prop} (hgd : o.guard = none) (x : Operand)
    (ho : o.op = .box 80 x) (cs : Array Value) (hx : a.eval x = .agg cs)
    (h : wpList Yba.prog ops Q rest (a.put o.dst (.pointer (some ⟨w.heap.size, 0, none⟩))) (w.alloc (.cells cs 80))) : wpList Yba.prog ops Q (o :: rest) a w := by
  refine wpList_plain hgd fun K hK => ?_
  unfold Oper.wp execOp
  simp [ho, hx, Instr.box]
  exact hK _ _ h
end Go.Proofs.Ybulkgrw
