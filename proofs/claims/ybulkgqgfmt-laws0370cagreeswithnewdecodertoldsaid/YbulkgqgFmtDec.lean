/-
  THE DECODER IN MEMORY; Realign, Skip.
-/
import Derived.Test.YbulkgqgFmtLeaf
import Derived.Deep.RegionWith
import Derived.Deep.CutRange
namespace Go.Proofs.YbulkgqgFmt
open Go.RowKit Go.Extern.Stop Go.Stop Go.Extern

/-- The ten cells of a cdr.Decoder. -/
def decCells (b o ah : Value) (off : Int) (nw : Bool) : Array Value := #[b, .int .i64 off, o, .int .i64 0, .int .i64 0, ah, .int .i64 0, .bool false, .bool false, .bool nw]

/-- At block D lies a Decoder. -/
def DecAt (w : World) (D : Nat) (b o ah : Value) (off : Int) (nw : Bool) : Prop := w.heap[D]? = some (.cells (decCells b o ah off nw) 49 (0, 0))

/-- Below block number B nothing has turned but block D. -/
structure Near (B D : Nat) (w w' : World) : Prop where
  os : w'.os = w.os
  tape : w'.tape = w.tape
  output : w'.output = w.output
  size : w.heap.size ≤ w'.heap.size
  block : ∀ k, k < B → k ≠ D → w'.heap[k]? = w.heap[k]?

theorem Near.refl (B D : Nat) (w : World) : Near B D w w := ⟨rfl, rfl, rfl, Nat.le_refl _, fun _ _ _ => rfl⟩
theorem Near.trans {B D : Nat} {a b c : World} (h : Near B D a b) (k : Near B D b c) : Near B D a c :=
  ⟨k.os.trans h.os, k.tape.trans h.tape, k.output.trans h.output, Nat.le_trans h.size k.size, fun i hi hn => (k.block i hi hn).trans (h.block i hi hn)⟩
theorem Near.mono {B B' D : Nat} {w w' : World} (h : Near B D w w') (hB : B' ≤ B) : Near B' D w w' := ⟨h.os, h.tape, h.output, h.size, fun k hk => h.block k (Nat.lt_of_lt_of_le hk hB)⟩
theorem Near.drewN {B D : Nat} {w w' : World} (h : Near B D w w') (n : Nat) : Near B D w (w'.drewN n) := ⟨h.os, h.tape, h.output, h.size, h.block⟩
theorem Near.setCell {B D : Nat} {w w' : World} (h : Near B D w w') (i : Nat) (v : Value) : Near B D w (w'.setCell ⟨D, i, none⟩ v) :=
  h.trans ⟨rfl, rfl, rfl, by simp [World.setCell], fun k _ hn => Below.heap_setCell _ _ _ _ hn⟩
theorem Near.ofBelow {B D : Nat} {w w' : World} (h : Below B w w') : Near B D w w' := ⟨h.os, h.tape, h.output, h.size, fun k hk _ => h.block k hk⟩
theorem Near.below {B D B' : Nat} {w w' : World} (h : Near B D w w') (h1 : B' ≤ B) (h2 : B' ≤ D) : Below B' w w' := ⟨h.os, h.tape, h.output, h.size, fun k hk => h.block k (by omega) (by omega)⟩

theorem Ybaf.info55 : (Ybaf.prog.info? 55).map (fun i => (i.zero, i.size, i.bytes)) = some (some (.agg #[.int .i64 0, .int .i64 0]), 2, 16) := by kernel_rfl

theorem DecAt.lt {w : World} {D : Nat} {b o ah : Value} {off : Int} {nw : Bool} (h : DecAt w D b o ah off nw) : D < w.heap.size := by
  rcases Nat.lt_or_ge D w.heap.size with g | g
  · exact g
  · unfold DecAt at h; rw [Array.getElem?_eq_none g] at h; cases h

theorem DecAt.cell {w : World} {D : Nat} {b o ah : Value} {off : Int} {nw : Bool} (h : DecAt w D b o ah off nw) (i : Nat) : w.cell? ⟨D, i, none⟩ = (decCells b o ah off nw)[i]? := by
  unfold DecAt at h
  simp [World.cell?, h]

theorem DecAt.frozen {w : World} {D : Nat} {b o ah : Value} {off : Int} {nw : Bool} (h : DecAt w D b o ah off nw) (i : Nat) : w.frozen? ⟨D, i, none⟩ = false := by
  unfold DecAt at h
  simp [World.frozen?, h]

theorem DecAt.keep {w w' : World} {D B E : Nat} {b o ah : Value} {off : Int} {nw : Bool} (h : DecAt w D b o ah off nw) (hn : Near B E w w') (hB : D < B) (hE : D ≠ E) : DecAt w' D b o ah off nw := by
  unfold DecAt; rw [hn.block D hB hE]; exact h
theorem DecAt.belowKeep {w w' : World} {D B : Nat} {b o ah : Value} {off : Int} {nw : Bool} (h : DecAt w D b o ah off nw) (hn : Below B w w') (hB : D < B) : DecAt w' D b o ah off nw := by
  unfold DecAt; rw [hn.block D hB]; exact h

theorem DecAt.set5 {w : World} {D : Nat} {b o ah : Value} {off : Int} {nw : Bool} (h : DecAt w D b o ah off nw) (v : Value) : DecAt (w.setCell ⟨D, 5, none⟩ v) D b o v off nw := by
  unfold DecAt at *
  simp [World.setCell, Array.getElem?_modify, h, decCells]
theorem DecAt.set1 {w : World} {D : Nat} {b o ah : Value} {off : Int} {nw : Bool} (h : DecAt w D b o ah off nw) (n : Int) : DecAt (w.setCell ⟨D, 1, none⟩ (.int .i64 n)) D b o ah n nw := by
  unfold DecAt at *
  simp [World.setCell, Array.getElem?_modify, h, decCells]
theorem DecAt.set9 {w : World} {D : Nat} {b o ah : Value} {off : Int} {nw : Bool} (h : DecAt w D b o ah off nw) (x : Bool) : DecAt (w.setCell ⟨D, 9, none⟩ (.bool x)) D b o ah off x := by
  unfold DecAt at *
  simp [World.setCell, Array.getElem?_modify, h, decCells]

theorem near_grown {B D : Nat} {w w1 w2 : World} {row : Option Nat} (h : Near B D w w1) (hg : w1.grownBy w2 row) (hB : B ≤ w1.heap.size) (hr : ∀ k, row = some k → B ≤ k) : Near B D w w2 :=
  h.trans ⟨hg.os, hg.tape, hg.output, hg.size, fun k hk _ => hg.block k (by omega) (fun e => by have := hr k e.symm; omega)⟩

theorem own_base {w : World} {base e size n : Nat} {v : Value} {xs : List Value} (h : w.ownsRow base e size v n xs) : ∀ k, v.ownBlock = some k → base ≤ k := by
  intro k hk
  rcases h.2 with ⟨rfl, _⟩ | ⟨g, cap, cur, rfl, hg, _⟩
  · simp [Value.ownBlock] at hk
  · simp [Value.ownBlock] at hk; omega

theorem own_slice {w : World} {base e size n : Nat} {v : Value} {xs : List Value} (h : w.ownsRow base e size v n xs) : ∃ a l c, v = .slice a l c := by
  rcases h.2 with ⟨rfl, _⟩ | ⟨g, cap, cur, rfl, hg, _⟩
  · exact ⟨_, _, _, rfl⟩
  · exact ⟨_, _, _, rfl⟩

set_option maxHeartbeats 400000 in
theorem realign_c (B D : Nat) (b o ah : Value) (off : Int) (nw : Bool) (n : Nat) (xs : List Value) (at_ pos : Int) (w : World) (hd : DecAt w D b o ah off nw) (hown : w.ownsRow B 55 2 ah n xs) (hn : n ≤ 1000) (hDB : D < B) (hB : B ≤ w.heap.size) :
    Calls Ybaf.prog 8 #[.pointer (some ⟨D, 0, none⟩), .int .i64 at_, .int .i64 pos] w fun e w' => e = .returned (.tuple #[]) ∧ Near B D w w' ∧ ∃ ah' xs', DecAt w' D b o ah' off nw ∧ w'.ownsRow B 55 2 ah' (n + 1) xs' := by
  have h5 : w.cell? ⟨D, 5, none⟩ = some ah := by rw [hd.cell]; rfl
  have hlt := hd.lt
  obtain ⟨i0, hi, hz0, hz1, hz2⟩ := info_parts Ybaf.info55
  go_enter Ybaf.func8, Ybaf.ntmps8
  go_wp2_with (first
      | (at_builtin; refine wpList_append_own _ rfl _ _ 47 rfl B 55 i0 (.agg #[.int .i64 0, .int .i64 0]) 2 16 Ybaf.underlying47 hi hz0 hz1 hz2 rfl (by decide) _ _ _ rfl (hown.alloc _) ⟨w.heap.size, 0, none⟩ 1 1 [.int .i64 at_, .int .i64 (Go.RowKit.wrap64 (at_ - pos))] rfl rfl ?c1 ?c2 ?c3 ?c4 ?c5 ?_))
  case c1 =>
    intro j u hj
    match j, hj with
    | 0, hj => simp at hj; subst hj; simp [Addr.add]
    | 1, hj => simp at hj; subst hj; simp [Addr.add]
  case c2 => intro u hu; simp at hu; rcases hu with rfl | rfl <;> rfl
  case c3 => unfold maxLen; omega
  case c4 => omega
  case c5 => simp; omega
  · intro v' w1 hown' hgrow _
    have hN0 : Near B D w (w.alloc (Obj.cells #[Value.int IntKind.i64 at_, Value.int IntKind.i64 (wrap64 (at_ - pos))] 55)) := Near.ofBelow ((Below.refl _ _).alloc hB _)
    have hN : Near B D w w1 := near_grown hN0 hgrow (by simp; omega) (own_base hown)
    have hd1 : DecAt w1 D b o ah off nw := by
      have hd0 : DecAt (w.alloc (Obj.cells #[Value.int IntKind.i64 at_, Value.int IntKind.i64 (wrap64 (at_ - pos))] 55)) D b o ah off nw := hd.belowKeep ((Below.refl _ _).alloc (Nat.le_refl _) _) hlt
      unfold DecAt
      rw [hgrow.block D hd0.lt (fun e => by have := own_base hown D e.symm; omega)]
      exact hd0
    have g5 : w1.cell? ⟨D, 5, none⟩ = some ah := by rw [hd1.cell]; rfl
    have gz := hd1.frozen 5
    clear hgrow
    obtain ⟨sa, sl, sc, hv⟩ := own_slice hown'
    have H : ∃ xs', w1.ownsRow B 55 2 (.slice sa sl sc) (n + 1) xs' := ⟨_, hv ▸ hown'⟩
    rw [hv]
    clear hown' hv
    go_wp2
    go_end0
    obtain ⟨xs', hown'⟩ := H
    exact ⟨rfl, hN.setCell 5 _, _, _, hd1.set5 _, ownsRow_setCell_below hown' (by exact hDB) _⟩

/-- Skip, where the octets are left. -/
theorem skip_ok (D : Nat) (a : Option Addr) (len cap : Nat) (o ah : Value) (off n : Int) (nw : Bool) (w : World) (hd : DecAt w D (.slice a len cap) o ah off nw)
    (hl : (len : Int) ≤ 1024) (ho : 0 ≤ off) (ho2 : off ≤ len) (hn : 0 ≤ n) (hn2 : n ≤ (len : Int) - off) :
    Calls Ybaf.prog 11 #[.pointer (some ⟨D, 0, none⟩), .int .i64 n] w fun e w' => e = .returned .nilIface ∧ Near w.heap.size D w w' ∧ DecAt w' D (.slice a len cap) o ah (off + n) nw := by
  have h0 : w.cell? ⟨D, 0, none⟩ = some (.slice a len cap) := by rw [hd.cell]; rfl
  have h1 : w.cell? ⟨D, 1, none⟩ = some (.int .i64 off) := by rw [hd.cell]; rfl
  have hz := hd.frozen 1
  have hlt := hd.lt
  go_enter Ybaf.func11, Ybaf.ntmps11
  go_wp2_with (go_at_call 13; refine (len_c D a len cap off _ (by exact h0) (by exact h1) hl ho (by omega)).mono ?_; rintro e w' ⟨rfl, nq, rfl⟩)
  go_ret
  exact ⟨rfl, ((Near.refl _ _ _).setCell 1 _).drewN nq, by exact hd.set1 _⟩

theorem bcell {W w1 : World} (hb : Below W.heap.size W w1) : (∀ b o, b < W.heap.size → w1.cell? ⟨b, o, none⟩ = W.cell? ⟨b, o, none⟩) ∧ (∀ b o, b < W.heap.size → w1.frozen? ⟨b, o, none⟩ = W.frozen? ⟨b, o, none⟩) :=
  ⟨fun b o h => hb.cell (p := ⟨b, o, none⟩) h, fun b o h => hb.frozen (p := ⟨b, o, none⟩) h⟩

theorem skip_end {w w1 w2 : World} {k : Nat} {o : Obj} (h1 : Below (w.drewN k).heap.size (w.drewN k) w1) (h2 : Below (w1.alloc o).heap.size (w1.alloc o) w2) : Below w.heap.size w w2 := by
  have h1' : Below w.heap.size w w1 := ⟨h1.os, h1.tape, h1.output, h1.size, h1.block⟩
  exact (h1'.alloc h1'.size o).trans (h2.mono (by have := h1'.size; simp; omega))

set_option maxHeartbeats 1000000 in
theorem skip_no (F : Interp) (D : Nat) (a : Option Addr) (len cap : Nat) (o ah : Value) (off n : Int) (nw : Bool) (w : World) (hF : F.answers w.tape) (hd : DecAt w D (.slice a len cap) o ah off nw)
    (hl : (len : Int) ≤ 1024) (ho : 0 ≤ off) (ho2 : off ≤ len) (hn : 0 ≤ n) (hn2 : ¬ n ≤ (len : Int) - off) :
    Calls Ybaf.prog 11 #[.pointer (some ⟨D, 0, none⟩), .int .i64 n] w fun e w' => (∃ p, e = .returned (.iface 63 (.pointer (some p)))) ∧ Below w.heap.size w w' := by
  have h0 : w.cell? ⟨D, 0, none⟩ = some (.slice a len cap) := by rw [hd.cell]; rfl
  have h1 : w.cell? ⟨D, 1, none⟩ = some (.int .i64 off) := by rw [hd.cell]; rfl
  have hlt := hd.lt
  go_enter Ybaf.func11, Ybaf.ntmps11
  go_wp2_with (go_at_call 13; refine (len_c D a len cap off _ (by exact h0) (by exact h1) hl ho (by omega)).mono ?_; rintro e w' ⟨rfl, nq, rfl⟩)
  go_region_with (first
    | (go_at_call 13; refine (len_c D a len cap off _ (by go_simp) (by go_simp) hl ho (by omega)).mono ?_; rintro e w' ⟨rfl, nr, rfl⟩)
    | (go_at_call 15; refine (plural_c F _ _ _ (by exact hF) (by decide)).mono ?_; rintro e w1 ⟨s, rfl, hb1⟩; have q1 : w1.cell? ⟨D, 1, none⟩ = some (.int .i64 off) := ((bcell hb1).1 D 1 (by exact hlt)).trans (by exact h1))
    | (go_at_call 14; refine (errorf_c F n off s w1.heap.size _ (by show F.answers w1.tape; rw [hb1.tape]; exact hF) (by go_simp) (by go_simp) (by go_simp)).mono ?_; rintro e w2 ⟨⟨p, rfl⟩, hb2⟩))
  all_goals go_wp2
  all_goals go_ret
  all_goals exact ⟨⟨_, rfl⟩, skip_end hb1 hb2⟩
end Go.Proofs.YbulkgqgFmt
