/-
  THE WALK OF LawS0370CAgreesWithNewDecoder.
-/
import Derived.Test.YbulkgqgFmtFresh
import Derived.OpenShut
namespace Go.Proofs.YbulkgqgFmt
open Go.RowKit Go.Extern.Stop Go.Stop Go.Extern

/-- What Skip hands back. -/
def IsErr (v : Value) (ok : Bool) : Prop := (ok = true ∧ v = .nilIface) ∨ (ok = false ∧ ∃ p, v = .iface 63 (.pointer (some p)))
/-- Where Skip leaves the offset. -/
def skOff (len off n : Int) : Int := if n ≤ len - off then off + n else off
def skOk (len off n : Int) : Bool := decide (n ≤ len - off)
theorem skOff_bd {len off n : Int} (h0 : 0 ≤ off) (h1 : off ≤ len) (hn : 0 ≤ n) : 0 ≤ skOff len off n ∧ skOff len off n ≤ len := by
  unfold skOff; split <;> omega

theorem skip_any (F : Interp) (D : Nat) (a : Option Addr) (len cap : Nat) (o ah : Value) (off n : Int) (nw : Bool) (w : World) (hF : F.answers w.tape) (hd : DecAt w D (.slice a len cap) o ah off nw)
    (hl : (len : Int) ≤ 1024) (ho : 0 ≤ off) (ho2 : off ≤ len) (hn : 0 ≤ n) :
    Calls Ybaf.prog 11 #[.pointer (some ⟨D, 0, none⟩), .int .i64 n] w fun e w' => ∃ v, e = .returned v ∧ IsErr v (skOk len off n) ∧ Near w.heap.size D w w' ∧ DecAt w' D (.slice a len cap) o ah (skOff len off n) nw := by
  by_cases h : n ≤ (len : Int) - off
  · refine (skip_ok D a len cap o ah off n nw w hd hl ho ho2 hn h).mono ?_
    rintro e w' ⟨rfl, hN, hd'⟩
    exact ⟨_, rfl, .inl ⟨by simp [skOk, h], rfl⟩, hN, by rw [skOff, if_pos h]; exact hd'⟩
  · refine (skip_no F D a len cap o ah off n nw w hF hd hl ho ho2 hn h).mono ?_
    rintro e w' ⟨⟨p, rfl⟩, hb⟩
    exact ⟨_, rfl, .inr ⟨by simp [skOk, h], p, rfl⟩, Near.ofBelow hb, by rw [skOff, if_neg h]; exact hd.belowKeep hb hd.lt⟩

theorem errsame_any (v1 v2 : Value) (ok : Bool) (w : World) (h1 : IsErr v1 ok) (h2 : IsErr v2 ok) :
    Calls Ybaf.prog 10 #[v1, v2] w fun e w' => e = .returned (.bool true) ∧ ∃ n, w' = w.drewN n := by
  rcases h1 with ⟨rfl, rfl⟩ | ⟨rfl, p, rfl⟩
  · rcases h2 with ⟨_, rfl⟩ | ⟨h, _⟩
    · exact errsame_n w
    · cases h
  · rcases h2 with ⟨h, _⟩ | ⟨_, q, rfl⟩
    · cases h
    · exact errsame_c w p q

theorem IsRow.at {k : IntKind} {w : World} {a : Option Addr} {len cap : Nat} {zs : List Int} (h : IsRow k w a len cap zs) (hpos : 0 < len) :
    ∃ b off, a = some ⟨b, off, none⟩ ∧ b < w.heap.size ∧ ∀ i, i < len → w.cell? ⟨b, off + i, none⟩ = some (.int k (zs.getD i 0)) ∧ (Lit.int k (zs.getD i 0)).wf = true := by
  rcases h with ⟨rfl, rfl, rfl, rfl⟩ | ⟨x, rfl, hlc, hcm, hz, hc, hw⟩
  · omega
  · obtain ⟨b, off, rfl, hc'⟩ := ints_at hc (by omega)
    refine ⟨b, off, rfl, cell_lt (hc 0 (by omega)), fun i hi => ⟨hc' i (by omega), ?_⟩⟩
    have hi' : i < zs.length := by omega
    have : zs.getD i 0 = zs[i] := by simp [List.getD, hi']
    rw [this]
    exact hw _ (List.getElem_mem hi')

theorem Ybaf.info3 : (Ybaf.prog.info? 3).map (fun i => (i.zero, i.size, i.bytes)) = some (some (.int .i64 0), 1, 8) := by kernel_rfl

theorem own_ints {w : World} {base n : Nat} {v : Value} {ys : List Int} (h : w.ownsRow base 3 1 v n (ys.map (Value.int .i64))) :
    ∃ af cf, v = .slice af n cf ∧ ∀ k, k < n → ∃ g, af = some ⟨g, 0, none⟩ ∧ g < w.heap.size ∧ w.cell? ⟨g, k, none⟩ = some (.int .i64 (ys.getD k 0)) := by
  obtain ⟨hl, h⟩ := h
  simp at hl
  rcases h with ⟨rfl, rfl⟩ | ⟨g, cap, cur, rfl, hg, hh, hnc, hcm, hcs, htk⟩
  · exact ⟨none, 0, rfl, fun k hk => by omega⟩
  · refine ⟨_, cap, rfl, fun k hk => ⟨g, rfl, ?_, ?_⟩⟩
    · rcases Nat.lt_or_ge g w.heap.size with q | q
      · exact q
      · rw [Array.getElem?_eq_none q] at hh; cases hh
    · have h1 : (cur.toList.take (n * 1))[k]? = (ys.map (Value.int .i64))[k]? := by rw [htk]
      rw [List.getElem?_take, if_pos (by omega), List.getElem?_map] at h1
      have hk' : k < ys.length := by omega
      simp only [World.cell?, hh]
      simp at h1 ⊢
      rw [h1]
      simp [hk']

set_option maxHeartbeats 1000000 in
theorem agree_far1 (a0 a3 : Option Addr) (len0 cap0 len3 cap3 : Nat) (flags minor a b : Int) (w : World) (hl : (1024 : Int) < len0) :
    Calls Ybaf.prog 3 #[.slice a0 len0 cap0, .int .u8 flags, .int .u8 minor, .slice a3 len3 cap3, .int .u16 a, .int .u16 b] w fun e w' => e = .returned (.bool true) ∧ Below w.heap.size w w' := by
  go_enter Ybaf.func3, Ybaf.ntmps3
  go_wp2
  go_ret
  exact ⟨rfl, Below.refl _ _⟩

set_option maxHeartbeats 1000000 in
theorem agree_far2 (a0 a3 : Option Addr) (len0 cap0 len3 cap3 : Nat) (flags minor a b : Int) (w : World) (hl : (len0 : Int) ≤ 1024) (hl3 : (1024 : Int) < len3) :
    Calls Ybaf.prog 3 #[.slice a0 len0 cap0, .int .u8 flags, .int .u8 minor, .slice a3 len3 cap3, .int .u16 a, .int .u16 b] w fun e w' => e = .returned (.bool true) ∧ Below w.heap.size w w' := by
  go_enter Ybaf.func3, Ybaf.ntmps3
  go_wp2
  go_ret
  exact ⟨rfl, Below.refl _ _⟩

theorem refuse_n (D : Nat) (b o ah : Value) (off : Int) (nw : Bool) (w : World) (hd : DecAt w D b o ah off nw) :
    Calls Ybaf.prog 9 #[.pointer (some ⟨D, 0, none⟩)] w fun e w' => e = .returned (.tuple #[]) ∧ Near w.heap.size D w w' ∧ DecAt w' D b o ah off true := by
  refine (refuse_c D _ w (by rw [hd.cell]; rfl) (hd.frozen 9)).mono ?_
  rintro e w' ⟨rfl, rfl⟩
  exact ⟨rfl, (Near.refl _ _ _).setCell 9 _, hd.set9 true⟩

set_option maxHeartbeats 2000000 in
theorem agree_near (F : Interp) (a0 a3 : Option Addr) (len0 cap0 len3 cap3 : Nat) (z0 z3 : List Int) (flags minor a b : Int) (w : World) (hF : F.answers w.tape) (w0 : IsRow .u8 w a0 len0 cap0 z0) (w3 : IsRow .u8 w a3 len3 cap3 z3)
    (ha : 0 ≤ a) (ha2 : a ≤ 65535) (hb : 0 ≤ b) (hb2 : b ≤ 65535) (hl : (len0 : Int) ≤ 1024) (hl3 : (len3 : Int) ≤ 1024) :
    Calls Ybaf.prog 3 #[.slice a0 len0 cap0, .int .u8 flags, .int .u8 minor, .slice a3 len3 cap3, .int .u16 a, .int .u16 b] w fun e w' => e = .returned (.bool true) ∧ Below w.heap.size w w' := by
  obtain ⟨i0, hi, hz0, hz1, hz2⟩ := info_parts Ybaf.info5
  obtain ⟨i3, hi3, hy0, hy1, hy2⟩ := info_parts Ybaf.info3
  go_enter Ybaf.func3, Ybaf.ntmps3
  go_wp2_with (at_make; refine wpList_make_full _ rfl _ _ 22 rfl w.heap.size 5 i0 (.int .u8 0) 1 Ybaf.underlying22 hi hz0 hz1 .i64 .i64 _ _ len0 rfl rfl rfl rfl ?c1 ?c2 ?c3 ?_)
  case c1 => rw [hz2]; omega
  case c2 => unfold maxLen; omega
  case c3 => exact Nat.le_refl _
  intro w1 hown1 hg1
  obtain ⟨cur, hcl, hcur⟩ := own_row hown1
  have hB1 : Below w.heap.size w w1 := (Below.refl _ _).grown hg1 (Nat.le_refl _) (fun k h => by cases h)
  obtain ⟨cs, hcs1, hcs2, hcs3⟩ := w0.src hB1
  clear hown1 hg1
  go_wp2_with (refine wpList_copy_splice rfl (.tmp 35) (.tmp 36) 22 22 rfl 5 Ybaf.underlying22 Ybaf.size5 _ _ _ _ _ _ rfl rfl w.heap.size 0 cur 5 hcur cs ?d1 (fun h => ⟨rfl, hcs2 h⟩) ?d2 hcs3 w.heap.size w hB1 (Nat.le_refl _) ?_)
  case d1 => rw [hcs1]; simp
  case d2 => omega
  intro w2 _ hB2
  clear hcs1 hcs2 hcs3 hcur hcl hB1 hi hz0 hz1 hz2 w0
  go_wp2
  go_loopw [14, 15, 16] (fun v t i wr => ∃ (k : Nat) (ys : List Int) (tt : Int), k ≤ len3 ∧ k ≤ 16 ∧ i = .int .i64 k ∧ t = .int .i64 tt ∧ 0 ≤ tt ∧ tt ≤ 255 * k ∧ wr.ownsRow w.heap.size 3 1 v k (ys.map (Value.int .i64)) ∧ Below w.heap.size w wr) (fun _ _ i _ => len3 - (intOf i).toNat)
  case atStart => exact ⟨0, [], 0, by omega, by omega, rfl, rfl, by omega, by omega, World.ownsRow_nil _ _ _ _, hB2⟩
  case round =>
    obtain ⟨k, ys, tt, hk1, hk2, rfl, rfl, ht1, ht2, hown, hBr⟩ := hrel
    by_cases hc : k < len3 ∧ k < 16
    · obtain ⟨hk3, hk4⟩ := hc
      obtain ⟨bb, bo, rfl, hbl, hcell⟩ := w3.at (by omega)
      obtain ⟨hck, hwk⟩ := hcell k hk3
      have hzb := bounds_u8 hwk
      obtain ⟨zk, hzk⟩ : ∃ z, z = z3.getD k 0 := ⟨_, rfl⟩
      rw [← hzk] at hck hzb
      have hcr : wr.cell? ⟨bb, bo + k, none⟩ = some (.int .u8 zk) := (hBr.cell (p := ⟨bb, bo + k, none⟩) hbl).trans hck
      have HC : Hid (∀ i, i < len3 → w.cell? ⟨bb, bo + i, none⟩ = some (.int .u8 (z3.getD i 0)) ∧ (Lit.int .u8 (z3.getD i 0)).wf = true) := hcell
      clear hcell hwk hck hzk
      have hk3' : (k : Int) < len3 := by omega
      have hk4' : (k : Int) < 16 := by omega
      go_wp2_with (at_builtin; refine wpList_append_own _ rfl _ _ 24 rfl w.heap.size 3 i3 (.int .i64 0) 1 8 Ybaf.underlying24 hi3 hy0 hy1 hy2 rfl (by decide) _ _ _ rfl (hown.alloc _) ⟨wr.heap.size, 0, none⟩ 1 1 [.int .i64 (tt + zk)] rfl rfl ?c1 ?c2 ?c3 ?c4 ?c5 ?_)
      case c1 =>
        intro j u hj
        match j, hj with
        | 0, hj => simp at hj; subst hj; simp [Addr.add]
      case c2 => intro u hu; simp at hu; subst hu; rfl
      case c3 => unfold maxLen; omega
      case c4 => omega
      case c5 => have := hBr.size; simp; omega
      · intro v' w4 hown' hgrow _
        have hB4 : Below w.heap.size w w4 := (hBr.alloc hBr.size _).grown hgrow (by have := hBr.size; simp; omega) (own_base hown)
        have hown2 : w4.ownsRow w.heap.size 3 1 v' (k + 1) ((ys ++ [tt + zk]).map (Value.int .i64)) := by simpa using hown'
        clear hown' hgrow hown hcr
        go_wp2
        go_roundw
        case rel => exact ⟨k + 1, _, tt + zk, by omega, by omega, by go_num, rfl, by omega, by omega, hown2, hB4⟩
        case measure => simp [intOf]; omega
    · obtain ⟨af, cf, rfl, hcells⟩ := own_ints hown
      have HC : Hid (∀ j, j < k → ∃ g, af = some ⟨g, 0, none⟩ ∧ g < wr.heap.size ∧ wr.cell? ⟨g, j, none⟩ = some (.int .i64 (ys.getD j 0))) := hcells
      clear hcells hown hi3 hy0 hy1 hy2 w3
      have hs0 := hBr.size
      by_cases hk3 : (k : Int) < len3
      all_goals
        go_wp2_with fail
        have hM2 : MsgAt (wr.alloc (.cells (msgCells minor flags (.slice (some ⟨w.heap.size, 0, none⟩) len0 len0) (.slice af k cf)) 33)) wr.heap.size minor flags (.slice (some ⟨w.heap.size, 0, none⟩) len0 len0) (.slice af k cf) := alloc1_at wr _
        refine (decoder_c minor flags _ len0 len0 af k cf (fun j => ys.getD j 0) _ (by omega) ?fdc).mono ?_
        case fdc =>
          intro j hj
          obtain ⟨g, e1, e2, e3⟩ := HC.out j hj
          exact ⟨g, e1, by simp; omega, (Below.cell ((Below.refl _ _).alloc (Nat.le_refl _) _) (p := ⟨g, j, none⟩) e2).trans e3⟩
        rintro e w5 ⟨hB5, D1, o1, ah1, nw1, rfl, hD1, hd1⟩
        have hB5' : Below w.heap.size w w5 := (hBr.alloc hBr.size _).trans (hB5.mono (by simp; omega))
        have hBrw : Below wr.heap.size wr w5 := ((Below.refl _ _).alloc (Nat.le_refl _) _).trans (hB5.mono (by simp))
        simp only [World.size_alloc] at hD1
        have hM5 := hM2.keep (Near.ofBelow (D := D1) hB5) hM2.lt (by omega)
        have hMD1 : wr.heap.size < D1 := by omega
        have hz5 := hM5.lt
        have hlt1 := hd1.lt
        obtain ⟨m0, m1, m2, m3, m4, m5, m6, m7⟩ := hM5.cells
        clear hB5 hM2 hD1
        go_wp2_with (first
          | (go_at_call 7; refine (order_c _ _ _ _ _ _).mono ?_; rintro e w6 ⟨t5, rfl, rfl⟩)
          | (go_at_call 6; refine (newDecoder_c _ _ _ _ _ _).mono ?_; rintro e w7 ⟨rfl, rfl⟩))
        have hB6 := new2 w5 (.cells #[.int .u8 1, .int .u8 minor, .int .u8 flags, .int .u8 0, .int .u32 0] 30) (.cells (decCells (.slice (some ⟨w.heap.size, 0, none⟩) len0 len0) (.iface t5 (.agg #[])) (.slice none 0 0) 0 false) 49)
        have hr6 : DecAt _ (w5.heap.size + 1) (.slice (some ⟨w.heap.size, 0, none⟩) len0 len0) (.iface t5 (.agg #[])) (.slice none 0 0) 0 false := hB6.2
        have hN6 := Near.ofBelow (D := w5.heap.size + 1) hB6.1
        clear m0 m1 m2 m3 m4 m5 m6 m7 hM5 hB6
        go_loopw [20] (fun i wq => ∃ j : Nat, j ≤ k ∧ i = .int .i64 j ∧ Near w5.heap.size (w5.heap.size + 1) w5 wq ∧ w5.heap.size + 2 ≤ wq.heap.size ∧ ∃ ah xs, DecAt wq (w5.heap.size + 1) (.slice (some ⟨w.heap.size, 0, none⟩) len0 len0) (.iface t5 (.agg #[])) ah 0 false ∧ wq.ownsRow (w5.heap.size + 2) 55 2 ah j xs) (fun i _ => k - (intOf i).toNat)
        case atStart => exact ⟨0, by omega, rfl, hN6, by simp, _, _, hr6, World.ownsRow_nil _ _ _ _⟩
        case round =>
          obtain ⟨j, hj, rfl, hNq, hsq, ah, xs, hdq, hownq⟩ := hrel
          clear hr6 hN6
          by_cases hjk : j < k
          · obtain ⟨g, rfl, hg, hc⟩ := HC.out j hjk
            have hs5 := hBrw.size
            have hcq : wr.cell? ⟨g, j, none⟩ = some (.int .i64 (ys.getD j 0)) := by
              have e2 : wr.cell? ⟨g, j, none⟩ = w5.cell? ⟨g, j, none⟩ := World.cell?_of_block (hNq.block g (by omega) (by omega))
              rw [e2, hBrw.cell (p := ⟨g, j, none⟩) hg]; exact hc
            clear hc
            have hjk' : (j : Int) < k := by omega
            go_wp2_with (go_at_call 8; refine (realign_c (w5.heap.size + 2) (w5.heap.size + 1) _ _ _ _ _ j _ _ _ _ hdq hownq (by omega) (by omega) hsq).mono ?_; rintro e w' ⟨rfl, hN2, ah', xs', hd2, hown2⟩)
            go_roundw
            case rel => exact ⟨j + 1, by omega, by go_num, hNq.trans (hN2.mono (by omega)), by have := hN2.size; omega, ah', xs', hd2, hown2⟩
            case measure => simp [intOf]; omega
          · have hd1q := hd1.keep hNq hlt1 (by omega)
            have hB5q := hB5'.trans (hNq.below (B' := w.heap.size) hB5'.size (by have := hB5'.size; omega))
            have hs5 := hB5'.size
            clear hNq hownq hd1
            by_cases hmin : minor < 2
            all_goals
              go_wp2_with (first
                | (go_at_call 9; refine (refuse_n (w5.heap.size + 1) _ _ _ _ _ _ hdq).mono ?_; rintro e w8 ⟨rfl, hN8, hdq8⟩; have hd18 := hd1q.keep hN8 hd1q.lt (by omega); have hB58 := hB5q.trans (hN8.below (B' := w.heap.size) (by omega) (by omega)))
                | (go_at_call 11; fail))
              have hn1 : 0 ≤ a % ((len0 : Int) + 8) := Int.emod_nonneg _ (by omega)
              have hn2 : 0 ≤ b % ((len0 : Int) + 8) := Int.emod_nonneg _ (by omega)
              have hD1w : w.heap.size ≤ D1 := by omega
              refine (skip_any F D1 _ len0 len0 o1 ah1 0 (a % ((len0 : Int) + 8)) nw1 _ (by first | (rw [hB58.tape]; exact hF) | (rw [hB5q.tape]; exact hF)) (by first | exact hd18 | exact hd1q) hl (by omega) (by omega) hn1).mono ?_
              rintro e w9 ⟨v1, rfl, he1, hN9, hd19⟩
              obtain ⟨nwr, hdr9⟩ : ∃ nwr, DecAt w9 (w5.heap.size + 1) (.slice (some ⟨w.heap.size, 0, none⟩) len0 len0) (.iface t5 (.agg #[])) ah 0 nwr := by
                first | exact ⟨_, hdq8.keep hN9 hdq8.lt (by omega)⟩ | exact ⟨_, hdq.keep hN9 hdq.lt (by omega)⟩
              have hB9 : Below w.heap.size w w9 := by first | exact hB58.trans (hN9.below hB58.size hD1w) | exact hB5q.trans (hN9.below hB5q.size hD1w)
              have hl1 := hd19.lt
              clear hN9
              try clear hdq8 hd18 hB58
              clear hdq hd1q hB5q
              go_wp2_with fail
              refine (skip_any F (w5.heap.size + 1) _ len0 len0 _ _ 0 (a % ((len0 : Int) + 8)) nwr _ (by rw [hB9.tape]; exact hF) hdr9 hl (by omega) (by omega) hn1).mono ?_
              rintro e w10 ⟨v2, rfl, he2, hN10, hdr10⟩
              have hd110 := hd19.keep hN10 hl1 (by omega)
              have hB10 := hB9.trans (hN10.below hB9.size (by omega))
              obtain ⟨hk1, hk2⟩ := skOff_bd (len := (len0 : Int)) (off := 0) (n := a % ((len0 : Int) + 8)) (by omega) (by omega) hn1
              generalize skOff (len0 : Int) 0 (a % ((len0 : Int) + 8)) = q at hd110 hdr10 hk1 hk2
              clear hN10 hdr9 hd19 hB9
              go_wp2_with (first
                | (go_at_call 10; refine (errsame_any v1 v2 _ _ he1 he2).mono ?_; rintro e w11 ⟨rfl, nq, rfl⟩)
                | (go_at_call 11; fail))
              have hB11 : Below w.heap.size w (w10.drewN nq) := ⟨hB10.os, hB10.tape, hB10.output, hB10.size, hB10.block⟩
              have hd111 : DecAt (w10.drewN nq) D1 _ _ _ _ _ := hd110
              have hdr11 : DecAt (w10.drewN nq) (w5.heap.size + 1) _ _ _ _ _ := hdr10
              clear hd110 hdr10 hB10 he1 he2
              refine (skip_any F D1 _ len0 len0 o1 ah1 q (b % ((len0 : Int) + 8)) nw1 _ (by rw [hB11.tape]; exact hF) hd111 hl hk1 hk2 hn2).mono ?_
              rintro e w12 ⟨v3, rfl, he3, hN12, hd112⟩
              have hdr12 := hdr11.keep hN12 hdr11.lt (by omega)
              have hB12 := hB11.trans (hN12.below hB11.size hD1w)
              clear hN12 hdr11 hd111 hB11 hd112
              go_wp2_with fail
              refine (skip_any F (w5.heap.size + 1) _ len0 len0 _ _ q (b % ((len0 : Int) + 8)) nwr _ (by rw [hB12.tape]; exact hF) hdr12 hl hk1 hk2 hn2).mono ?_
              rintro e w13 ⟨v4, rfl, he4, hN13, hdr13⟩
              have hB13 := hB12.trans (hN13.below hB12.size (by omega))
              clear hN13 hdr12 hdr13 hB12
              go_wp2_with (go_at_call 10; refine (errsame_any v3 v4 _ _ he3 he4).mono ?_; rintro e w14 ⟨rfl, nr, rfl⟩)
              go_ret
              exact ⟨rfl, hB13.os, hB13.tape, hB13.output, hB13.size, hB13.block⟩
end Go.Proofs.YbulkgqgFmt
