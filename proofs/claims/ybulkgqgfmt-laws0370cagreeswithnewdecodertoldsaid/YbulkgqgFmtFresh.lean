/-
  THE WALK OF LawS0370CFreshEachCall.
-/
import Derived.Test.YbulkgqgFmtWith
import Derived.Laws.CopyOwn
import Derived.LaidEqlPtr
namespace Go.Proofs.YbulkgqgFmt
open Go.RowKit Go.Extern.Stop Go.Stop Go.Extern

/-- A slice of integers that came in. -/
def IsRow (k : IntKind) (w : World) (a : Option Addr) (len cap : Nat) (zs : List Int) : Prop :=
  (a = none ∧ len = 0 ∧ cap = 0 ∧ zs = []) ∨
  ∃ x, a = some x ∧ len ≤ cap ∧ cap ≤ maxLen ∧ zs.length = cap ∧ (∀ i, i < zs.length → w.cell? (x.add i) = some (.int k (zs.getD i 0))) ∧ ∀ n ∈ zs, (Lit.int k n).wf = true

theorem cell_lt {w : World} {a : Addr} {v : Value} (h : w.cell? a = some v) : a.block < w.heap.size := by
  rcases Nat.lt_or_ge a.block w.heap.size with g | g
  · exact g
  · simp [World.cell?, Array.getElem?_eq_none g] at h

theorem IsRow.src {k : IntKind} {w w1 : World} {a : Option Addr} {len cap : Nat} {zs : List Int} (h : IsRow k w a len cap zs) (hb : Below w.heap.size w w1) :
    ∃ cs : List Value, cs.length = len ∧ (0 < cs.length → ∃ ad, a = some ad ∧ ∀ j v, cs[j]? = some v → w1.cell? (ad.add j) = some v) ∧ ∀ v ∈ cs, v.oneCell' = true := by
  rcases h with ⟨rfl, rfl, rfl, rfl⟩ | ⟨x, rfl, hlc, hcm, hz, hc, hw⟩
  · exact ⟨[], rfl, fun h => absurd h (by simp), fun v hv => by simp at hv⟩
  · refine ⟨(zs.take len).map (Value.int k), by simp; omega, fun _ => ⟨x, rfl, fun j v hj => ?_⟩, fun v hv => ?_⟩
    · rw [List.getElem?_map] at hj
      obtain ⟨z, hz1, rfl⟩ := Option.map_eq_some_iff.1 hj
      rw [List.getElem?_take] at hz1
      split at hz1
      · have hj2 : j < zs.length := (List.getElem?_eq_some_iff.1 hz1).1
        have h1 := hc j hj2
        have e : zs.getD j 0 = z := by simp [List.getD, hz1]
        rw [e] at h1
        rw [← h1]
        exact hb.cell (cell_lt h1)
      · cases hz1
    · obtain ⟨z, _, rfl⟩ := List.mem_map.1 hv
      rfl

theorem Ybaf.info5 : (Ybaf.prog.info? 5).map (fun i => (i.zero, i.size, i.bytes)) = some (some (.int .u8 0), 1, 1) := by kernel_rfl
theorem Ybaf.size5 : (Ybaf.prog.info? 5).map (·.size) = some 1 := by kernel_rfl

theorem own_row {w : World} {base e n g c : Nat} {xs : List Value} (h : w.ownsRow base e 1 (.slice (some ⟨g, 0, none⟩) n c) n xs) : ∃ cur : List Value, cur.length = c ∧ w.heap[g]? = some (.cells cur.toArray e (0, 0)) := by
  rcases h.2 with ⟨h1, _⟩ | ⟨g', cap, cur, h1, _, h2, _, _, h3, _⟩
  · cases h1
  · simp at h1
    obtain ⟨rfl, rfl⟩ := h1
    exact ⟨cur.toList, by simp [h3], by simpa using h2⟩

theorem MsgAt.keep {w w' : World} {M B E : Nat} {minor flags : Int} {oc fd : Value} (h : MsgAt w M minor flags oc fd) (hn : Near B E w w') (hB : M < B) (hE : M ≠ E) : MsgAt w' M minor flags oc fd := by
  unfold MsgAt; rw [hn.block M hB hE]; exact h
theorem MsgAt.lt {w : World} {M : Nat} {minor flags : Int} {oc fd : Value} (h : MsgAt w M minor flags oc fd) : M < w.heap.size := by
  rcases Nat.lt_or_ge M w.heap.size with g | g
  · exact g
  · unfold MsgAt at h; rw [Array.getElem?_eq_none g] at h; cases h

theorem MsgAt.cells {w : World} {M : Nat} {minor flags : Int} {oc fd : Value} (h : MsgAt w M minor flags oc fd) :
    w.cell? ⟨M, 0, none⟩ = some (.int .u8 1) ∧ w.cell? ⟨M, 1, none⟩ = some (.int .u8 minor) ∧ w.cell? ⟨M, 2, none⟩ = some (.int .u8 flags) ∧ w.cell? ⟨M, 3, none⟩ = some (.int .u8 0) ∧ w.cell? ⟨M, 4, none⟩ = some (.int .u32 0) ∧ w.cell? ⟨M, 5, none⟩ = some oc ∧ w.cell? ⟨M, 6, none⟩ = some fd ∧ w.cell? ⟨M, 7, none⟩ = some (.int .u64 0) := by
  simp [h.cell, msgCells]

theorem alloc1_at (w : World) (o1 : Obj) : (w.alloc o1).heap[w.heap.size]? = some o1 := by
  show (w.heap.push o1)[w.heap.size]? = _
  simp

theorem Ybaf.size49 : (Ybaf.prog.info? 49).map (·.size) = some 10 := by kernel_rfl
theorem Ybaf.dec49 : ∃ j, Ybaf.prog.info? 49 = some j ∧ j.size ≠ 0 := by
  obtain ⟨j, h1, h2⟩ := Option.map_eq_some_iff.1 Ybaf.size49
  exact ⟨j, h1, by omega⟩

theorem new2 (w : World) (o1 o2 : Obj) : Below w.heap.size w ((w.alloc o1).alloc o2) ∧ ((w.alloc o1).alloc o2).heap[w.heap.size + 1]? = some o2 :=
  ⟨((Below.refl _ _).alloc (Nat.le_refl _) _).alloc (by simp) _, alloc2_at w o1 o2⟩

set_option maxHeartbeats 1000000 in
theorem fresh_far (a0 : Option Addr) (len0 cap0 : Nat) (flags minor : Int) (w : World) (hl : (1024 : Int) < len0) :
    Calls Ybaf.prog 4 #[.slice a0 len0 cap0, .int .u8 flags, .int .u8 minor] w fun e w' => e = .returned (.bool true) ∧ Below w.heap.size w w' := by
  go_enter Ybaf.func4, Ybaf.ntmps4
  go_wp2
  go_ret
  exact ⟨rfl, Below.refl _ _⟩

set_option maxHeartbeats 1000000 in
theorem fresh_near (F : Interp) (a0 : Option Addr) (len0 cap0 : Nat) (z0 : List Int) (flags minor : Int) (w : World) (hF : F.answers w.tape) (w0 : IsRow .u8 w a0 len0 cap0 z0) (hl : (len0 : Int) ≤ 1024) :
    Calls Ybaf.prog 4 #[.slice a0 len0 cap0, .int .u8 flags, .int .u8 minor] w fun e w' => e = .returned (.bool true) ∧ Below w.heap.size w w' := by
  obtain ⟨i0, hi, hz0, hz1, hz2⟩ := info_parts Ybaf.info5
  go_enter Ybaf.func4, Ybaf.ntmps4
  go_wp2_with (at_make; refine wpList_make_full _ rfl _ _ 22 rfl w.heap.size 5 i0 (.int .u8 0) 1 Ybaf.underlying22 hi hz0 hz1 .i64 .i64 _ _ len0 rfl rfl rfl rfl ?c1 ?c2 ?c3 ?_)
  case c1 => rw [hz2]; omega
  case c2 => unfold maxLen; omega
  case c3 => exact Nat.le_refl _
  intro w1 hown1 hg1
  obtain ⟨cur, hcl, hcur⟩ := own_row hown1
  have hB1 : Below w.heap.size w w1 := (Below.refl _ _).grown hg1 (Nat.le_refl _) (fun k h => by cases h)
  obtain ⟨cs, hcs1, hcs2, hcs3⟩ := w0.src hB1
  clear hown1 hg1
  go_wp2_with (refine wpList_copy_splice rfl (.tmp 20) (.tmp 21) 22 22 rfl 5 Ybaf.underlying22 Ybaf.size5 _ _ _ _ _ _ rfl rfl w.heap.size 0 cur 5 hcur cs ?d1 (fun h => ⟨rfl, hcs2 h⟩) ?d2 hcs3 w.heap.size w hB1 (Nat.le_refl _) ?_)
  case d1 => rw [hcs1]; simp
  case d2 => omega
  intro w2 _ hB2
  clear hcs1 hcs2 hcs3 hcur hcl hB1
  go_wp2_with fail
  have hM2 : MsgAt (w2.alloc (.cells (msgCells minor flags (.slice (some ⟨w.heap.size, 0, none⟩) len0 len0) (.slice none 0 0)) 33)) w2.heap.size minor flags (.slice (some ⟨w.heap.size, 0, none⟩) len0 len0) (.slice none 0 0) := alloc1_at w2 _
  refine (decoder_c minor flags _ len0 len0 none 0 0 (fun _ => 0) _ (by omega) (fun k hk => absurd hk (by omega))).mono ?_
  rintro e w3 ⟨hB3, D1, o1, ah1, nw1, rfl, hD1, hd1⟩
  have hB3' : Below w.heap.size w w3 := (hB2.alloc hB2.size _).trans (hB3.mono (by have := hB2.size; simp; omega))
  simp only [World.size_alloc] at hD1
  have hM3 := hM2.keep (Near.ofBelow (D := D1) hB3) hM2.lt (by omega)
  have hMD1 : w2.heap.size < D1 := by omega
  have hz3 := hM3.lt
  have hsz2 := hB2.size
  obtain ⟨m0, m1, m2, m3, m4, m5, m6, m7⟩ := hM3.cells
  clear hB3 hM2 hB2 w0 hD1
  go_wp2_with fail
  refine (decoder_c minor flags _ len0 len0 none 0 0 (fun _ => 0) _ (by omega) (fun k hk => absurd hk (by omega))).mono ?_
  rintro e w4 ⟨hB4, D2, o2, ah2, nw2, rfl, hD2, hd2⟩
  have hB4' : Below w.heap.size w w4 := hB3'.trans (hB4.mono hB3'.size)
  have hM4 := hM3.keep (Near.ofBelow (D := D2) hB4) hM3.lt (by have := hM3.lt; omega)
  have hd14 := hd1.belowKeep hB4 hd1.lt
  have hD12 : D1 < D2 := by have := hd1.lt; omega
  clear m0 m1 m2 m3 m4 m5 m6 m7
  obtain ⟨m0, m1, m2, m3, m4, m5, m6, m7⟩ := hM4.cells
  obtain ⟨jD, hjD, hjs⟩ := Ybaf.dec49
  have heq := run_eql_ptr_other (P := Ybaf.prog) (w := w4) (tp := 34) (te := 49) (j := jD) (a := ⟨D1, 0, none⟩) (b := ⟨D2, 0, none⟩) Ybaf.underlying34 hjD hjs (by intro h; cases h; omega) hd14 hd2
  have hz4 := hM4.lt
  clear hB4 hM3 hD2 hd1 hjD hjs
  go_wp2_with (first
    | (go_at_call 7; refine (order_c _ _ _ _ _ _).mono ?_; rintro e w5 ⟨t5, rfl, rfl⟩)
    | (go_at_call 6; refine (newDecoder_c _ _ _ _ _ _).mono ?_; rintro e w6 ⟨rfl, rfl⟩)
    | (go_at_call 11; fail))
  have hB5 := new2 w4 (.cells #[.int .u8 1, .int .u8 minor, .int .u8 flags, .int .u8 0, .int .u32 0] 30) (.cells (decCells (.slice (some ⟨w.heap.size, 0, none⟩) len0 len0) (.iface t5 (.agg #[])) (.slice none 0 0) 0 false) 49)
  have hr5 : DecAt _ (w4.heap.size + 1) (.slice (some ⟨w.heap.size, 0, none⟩) len0 len0) (.iface t5 (.agg #[])) (.slice none 0 0) 0 false := hB5.2
  have hd15 := hd14.belowKeep hB5.1 hd14.lt
  have hd25 := hd2.belowKeep hB5.1 hd2.lt
  have hM5 := hM4.keep (Near.ofBelow (D := D2) hB5.1) hz4 (by omega)
  have hB5' : Below w.heap.size w _ := hB4'.trans (hB5.1.mono hB4'.size)
  have hR1 : D1 < w4.heap.size := hd14.lt
  have hR2 : D2 < w4.heap.size := hd2.lt
  clear m0 m1 m2 m3 m4 m5 m6 m7 heq hd14 hd2 hM4 hB5
  refine (skip_ok D1 _ len0 len0 o1 ah1 0 len0 nw1 _ hd15 hl (by omega) (by omega) (by omega) (by omega)).mono ?_
  rintro e w7 ⟨rfl, hN7, hd17⟩
  simp only [World.size_alloc] at hN7
  have hr7 := hr5.keep hN7 (by omega) (by omega)
  have hd27 := hd25.keep hN7 (by omega) (by omega)
  have hM7 := hM5.keep hN7 (by omega) (by omega)
  have hB7' := hB5'.trans (hN7.below (B' := w.heap.size) (by omega) (by omega))
  have hs7 := hN7.size
  simp only [World.size_alloc] at hs7
  clear hd15 hd25 hM5 hr5 hN7 hd17 hB5'
  go_wp2_with fail
  refine (skip_ok (w4.heap.size + 1) _ len0 len0 _ _ 0 len0 false _ hr7 hl (by omega) (by omega) (by omega) (by omega)).mono ?_
  rintro e w8 ⟨rfl, hN8, hr8⟩
  have hd28 := hd27.keep hN8 (by omega) (by omega)
  have hM8 := hM7.keep hN8 (by omega) (by omega)
  have hB8' := hB7'.trans (hN8.below (B' := w.heap.size) (by omega) (by omega))
  have hs8 := hN8.size
  obtain ⟨m0, m1, m2, m3, m4, m5, m6, m7⟩ := hM8.cells
  clear hr7 hd27 hM7 hN8 hr8 hB7'
  go_wp2_with (first
    | (go_at_call 10; refine (errsame_n _).mono ?_; rintro e w9 ⟨rfl, nq, rfl⟩)
    | (go_at_call 7; refine (order_c _ _ _ _ _ _).mono ?_; rintro e w5 ⟨t6, rfl, rfl⟩)
    | (go_at_call 6; refine (newDecoder_c _ _ _ _ _ _).mono ?_; rintro e w6 ⟨rfl, rfl⟩)
    | (go_at_call 11; fail))
  have hB8d : Below w.heap.size w (w8.drewN nq) := ⟨hB8'.os, hB8'.tape, hB8'.output, hB8'.size, hB8'.block⟩
  have hd2d : DecAt (w8.drewN nq) D2 (.slice (some ⟨w.heap.size, 0, none⟩) len0 len0) o2 ah2 0 nw2 := hd28
  have hB9 := new2 (w8.drewN nq) (.cells #[.int .u8 1, .int .u8 minor, .int .u8 flags, .int .u8 0, .int .u32 0] 30) (.cells (decCells (.slice (some ⟨w.heap.size, 0, none⟩) len0 len0) (.iface t6 (.agg #[])) (.slice none 0 0) 0 false) 49)
  have hr9 : DecAt _ ((w8.drewN nq).heap.size + 1) (.slice (some ⟨w.heap.size, 0, none⟩) len0 len0) (.iface t6 (.agg #[])) (.slice none 0 0) 0 false := hB9.2
  have hd29 := hd2d.belowKeep hB9.1 hd2d.lt
  have hB9' : Below w.heap.size w _ := hB8d.trans (hB9.1.mono hB8d.size)
  have hl8 : D2 < (w8.drewN nq).heap.size := hd2d.lt
  have hsd : w.heap.size ≤ (w8.drewN nq).heap.size := hB8d.size
  clear m0 m1 m2 m3 m4 m5 m6 m7 hd28 hd2d hB9 hM8 hB8'
  by_cases h1 : (1 : Int) ≤ len0
  · refine (skip_ok D2 _ len0 len0 o2 ah2 0 1 nw2 _ hd29 hl (by omega) (by omega) (by omega) (by omega)).mono ?_
    rintro e w10 ⟨rfl, hN10, hd2x⟩
    simp only [World.size_alloc] at hN10
    have hr10 := hr9.keep hN10 (by omega) (by omega)
    have hB10' := hB9'.trans (hN10.below (B' := w.heap.size) (by omega) (by omega))
    clear hd29 hr9 hB9' hN10 hd2x
    go_wp2_with fail
    refine (skip_ok ((w8.drewN nq).heap.size + 1) _ len0 len0 _ _ 0 1 false _ hr10 hl (by omega) (by omega) (by omega) (by omega)).mono ?_
    rintro e w11 ⟨rfl, hN11, _⟩
    have hB11' := hB10'.trans (hN11.below (B' := w.heap.size) hB10'.size (by omega))
    clear hN11 hr10
    go_wp2_with (go_at_call 10; refine (errsame_n _).mono ?_; rintro e w12 ⟨rfl, nr, rfl⟩)
    go_ret
    exact ⟨rfl, hB11'.os, hB11'.tape, hB11'.output, hB11'.size, hB11'.block⟩
  · refine (skip_no F D2 _ len0 len0 o2 ah2 0 1 nw2 _ (by show F.answers w8.tape; rw [show w8.tape = w.tape from hB8d.tape]; exact hF) hd29 hl (by omega) (by omega) (by omega) (by omega)).mono ?_
    rintro e w10 ⟨⟨p1, rfl⟩, hN10⟩
    have hr10 := hr9.belowKeep hN10 (by simp)
    have hB10' := hB9'.trans (hN10.mono (B' := w.heap.size) hB9'.size)
    clear hd29 hr9 hB9' hN10
    go_wp2_with fail
    refine (skip_no F ((w8.drewN nq).heap.size + 1) _ len0 len0 _ _ 0 1 false _ (by rw [hB10'.tape]; exact hF) hr10 hl (by omega) (by omega) (by omega) (by omega)).mono ?_
    rintro e w11 ⟨⟨p2, rfl⟩, hN11⟩
    have hB11' := hB10'.trans (hN11.mono (B' := w.heap.size) hB10'.size)
    clear hN11 hr10
    go_wp2_with (go_at_call 10; refine (errsame_c _ _ _).mono ?_; rintro e w12 ⟨rfl, nr, rfl⟩)
    go_ret
    exact ⟨rfl, hB11'.os, hB11'.tape, hB11'.output, hB11'.size, hB11'.block⟩
end Go.Proofs.YbulkgqgFmt
