/-
  THE LOGGING YIELD of LawS0372BWalk: its closure by contract; zzs0372beq.
-/
import Derived.Test.YbulkgriExt
namespace Go.Proofs.Ybulkgri
open Go.RowKit

theorem Yba.info5 : (Yba.prog.info? 5).map (fun i => (i.zero, i.size, i.bytes)) = some (some (.int .u8 0), 1, 1) := by kernel_rfl
theorem Yba.info23 : (Yba.prog.info? 23).map (fun i => (i.zero, i.size, i.bytes)) = some (some (.slice none 0 0), 1, 24) := by kernel_rfl

/-- The four captured variables (limit at B, types at B + 1, conts at B + 2, calls at B + 3) and what has been logged. -/
structure Log (w : World) (B : Nat) (lim : Int) (n : Nat) (ts cs : List Value) : Prop where
  lim : w.heap[B]? = some (.cells #[.int .i64 lim] 3 (0, 0))
  typ : ∃ v, w.heap[B + 1]? = some (.cells #[v] 23 (0, 0)) ∧ w.ownsRow (B + 4) 5 1 v n ts
  con : ∃ v, w.heap[B + 2]? = some (.cells #[v] 34 (0, 0)) ∧ w.ownsRow (B + 4) 23 1 v n cs
  cal : w.heap[B + 3]? = some (.cells #[.int .i64 n] 3 (0, 0))

theorem heap_lt {w : World} {k : Nat} {o : Obj} (h : w.heap[k]? = some o) : k < w.heap.size := by
  rcases Nat.lt_or_ge k w.heap.size with g | g
  · exact g
  · rw [Array.getElem?_eq_none g] at h; cases h

theorem cell_of {w : World} {k i : Nat} {c : Array Value} {t : TypeId} (h : w.heap[k]? = some (.cells c t (0, 0))) : w.cell? ⟨k, i, none⟩ = c[i]? := by simp [World.cell?, h]
theorem frozen_of {w : World} {k i : Nat} {c : Array Value} {t : TypeId} (h : w.heap[k]? = some (.cells c t (0, 0))) : w.frozen? ⟨k, i, none⟩ = false := by simp [World.frozen?, h]
theorem set_of {w : World} {k : Nat} {u v : Value} {t : TypeId} (h : w.heap[k]? = some (.cells #[u] t (0, 0))) : (w.setCell ⟨k, 0, none⟩ v).heap[k]? = some (.cells #[v] t (0, 0)) := by
  simp [World.setCell, Array.getElem?_modify, h]
theorem set_far {w : World} {k j : Nat} {v : Value} (h : k ≠ j) : (w.setCell ⟨j, 0, none⟩ v).heap[k]? = w.heap[k]? := Below.heap_setCell _ _ _ _ h

theorem own_base {w : World} {base e size n : Nat} {v : Value} {xs : List Value} (h : w.ownsRow base e size v n xs) : ∀ k, v.ownBlock = some k → base ≤ k ∧ ∃ c, w.heap[k]? = some (.cells c e (0, 0)) := by
  intro k hk
  rcases h.2 with ⟨rfl, _⟩ | ⟨g, cap, cur, rfl, hg, hh, _⟩
  · simp [Value.ownBlock] at hk
  · simp [Value.ownBlock] at hk; subst hk; exact ⟨hg, cur, hh⟩
theorem own_slice {w : World} {base e size n : Nat} {v : Value} {xs : List Value} (h : w.ownsRow base e size v n xs) : ∃ a l c, v = .slice a l c := by
  rcases h.2 with ⟨rfl, _⟩ | ⟨g, cap, cur, rfl, hg, _⟩
  · exact ⟨_, _, _, rfl⟩
  · exact ⟨_, _, _, rfl⟩
/-- A row stays owned where its block stays. -/
theorem own_keep {w w' : World} {base e size n : Nat} {v : Value} {xs : List Value} (h : w.ownsRow base e size v n xs) (hk : ∀ k, v.ownBlock = some k → w'.heap[k]? = w.heap[k]?) : w'.ownsRow base e size v n xs := by
  obtain ⟨h1, h2⟩ := h
  refine ⟨h1, ?_⟩
  rcases h2 with h2 | ⟨g, cap, cur, rfl, hg, hh, r⟩
  · exact .inl h2
  · exact .inr ⟨g, cap, cur, rfl, hg, by rw [hk g rfl]; exact hh, r⟩

theorem two_at (w : World) (o1 o2 : Obj) : ((w.alloc o1).alloc o2).heap[w.heap.size]? = some o1 := by
  show ((w.heap.push o1).push o2)[w.heap.size]? = _
  rw [Array.getElem?_push, if_neg (by simp)]
  simp

set_option maxHeartbeats 1000000 in
theorem yield_c (B : Nat) (lim : Int) (n : Nat) (ts cs : List Value) (t : Int) (a : Option Addr) (l c : Nat) (w : World) (h : Log w B lim n ts cs) (hn : n ≤ 1024) :
    Calls Yba.prog 8 #[.agg #[.int .u8 t, .slice a l c], .pointer (some ⟨B + 1, 0, none⟩), .pointer (some ⟨B + 2, 0, none⟩), .pointer (some ⟨B + 3, 0, none⟩), .pointer (some ⟨B, 0, none⟩)] w fun e w' =>
      e = .returned (.bool ((n : Int) + 1 != lim)) ∧ Below B w w' ∧ Log w' B lim (n + 1) (ts ++ [.int .u8 t]) (cs ++ [.slice a l c]) := by
  obtain ⟨hlim, ⟨v1, ht, hto⟩, ⟨v2, hc, hco⟩, hcal⟩ := h
  have z0 := heap_lt hlim
  have z3 := heap_lt hcal
  obtain ⟨i5, hi5, p0, p1, p2⟩ := info_parts Yba.info5
  obtain ⟨i23, hi23, q0, q1, q2⟩ := info_parts Yba.info23
  -- the box of e
  have hBx : Below w.heap.size w (w.alloc (.cells #[.int .u8 t, .slice a l c] 36)) := (Below.refl _ _).alloc (Nat.le_refl _) _
  have x1 : w.cell? ⟨B + 1, 0, none⟩ = some v1 := by rw [cell_of ht]; rfl
  have hz1 : B + 1 < w.heap.size := by omega
  go_enter Yba.func8, Yba.ntmps8
  go_wp2_with (at_builtin; refine wpList_append_own _ rfl (.tmp 7) (.tmp 10) 23 rfl (B + 4) 5 i5 (.int .u8 0) 1 1 Yba.underlying23 hi5 p0 p1 p2 rfl (by decide) _ _ _ rfl ((hto.alloc _).alloc _) ⟨w.heap.size + 1, 0, none⟩ 1 1 [.int .u8 t] rfl rfl ?c1 ?c2 ?c3 ?c4 ?c5 ?_)
  case c1 =>
    intro j u hj
    match j, hj with
    | 0, hj => simp at hj; subst hj; simp [Addr.add]
  case c2 => intro u hu; simp at hu; subst hu; rfl
  case c3 => unfold maxLen; omega
  case c4 => omega
  case c5 => simp; omega
  intro v1' w1 hto1 hg1 _
  obtain ⟨a1, l1, c1, hv1⟩ := own_slice hto1
  rw [hv1]
  rw [hv1] at hto1
  clear hv1
  have hB1 : Below (B + 4) w w1 := (((Below.refl _ _).alloc (by omega) _).alloc (by simp; omega) _).grown hg1 (by simp; omega) (fun k hk => (own_base hto k hk).1)
  have hbox : w1.heap[w.heap.size]? = some (.cells #[.int .u8 t, .slice a l c] 36 (0, 0)) := by
    rw [hg1.block _ (by simp; omega) (fun e => by have := heap_lt (own_base hto _ e.symm).2.choose_spec; omega)]
    exact two_at w _ _
  have hco1 : w1.ownsRow (B + 4) 23 1 v2 n cs := own_keep hco (fun k hk => by
    obtain ⟨hk1, cc, hk2⟩ := own_base hco k hk
    have hkl := heap_lt hk2
    rw [hg1.block k (by simp; omega) (fun e => by
      obtain ⟨_, cc', hk3⟩ := own_base hto k e.symm
      rw [hk2] at hk3; simp at hk3)]
    exact (hBx.trans (((Below.refl _ _).alloc (Nat.le_refl _) _).mono (by simp))).block k hkl)
  have hlim1 : w1.heap[B]? = _ := (hB1.block B (by omega)).trans hlim
  have ht1 : w1.heap[B + 1]? = _ := (hB1.block (B + 1) (by omega)).trans ht
  have hc1 : w1.heap[B + 2]? = _ := (hB1.block (B + 2) (by omega)).trans hc
  have hcal1 : w1.heap[B + 3]? = _ := (hB1.block (B + 3) (by omega)).trans hcal
  have y1 : w1.cell? ⟨B + 1, 0, none⟩ = some v1 := by rw [cell_of ht1]; rfl
  have y2 : w1.cell? ⟨B + 2, 0, none⟩ = some v2 := by rw [cell_of hc1]; rfl
  have y3 : w1.cell? ⟨w.heap.size, 1, none⟩ = some (.slice a l c) := by rw [cell_of hbox]; rfl
  have f1 := frozen_of (i := 0) ht1
  have hne : ¬ w.heap.size = B + 1 := by omega
  clear hg1 x1 hto hco hlim ht hc hcal hi5 p0 p1 p2
  obtain ⟨w2, hw2⟩ : ∃ w2, w2 = w1.setCell ⟨B + 1, 0, none⟩ (.slice a1 l1 c1) := ⟨_, rfl⟩
  have hs1 := hB1.size
  have hs2 : w2.heap.size = w1.heap.size := by rw [hw2]; simp [World.setCell]
  have hB2 : Below B w w2 := by rw [hw2]; exact (hB1.mono (by omega)).setCell (by simp) _
  have hlim2 : w2.heap[B]? = some (.cells #[.int .i64 lim] 3 (0, 0)) := by rw [hw2, set_far (by omega)]; exact hlim1
  have ht2 : w2.heap[B + 1]? = some (.cells #[.slice a1 l1 c1] 23 (0, 0)) := by rw [hw2]; exact set_of ht1
  have hc2 : w2.heap[B + 2]? = some (.cells #[v2] 34 (0, 0)) := by rw [hw2, set_far (by omega)]; exact hc1
  have hcal2 : w2.heap[B + 3]? = some (.cells #[.int .i64 n] 3 (0, 0)) := by rw [hw2, set_far (by omega)]; exact hcal1
  have hto2 : w2.ownsRow (B + 4) 5 1 (.slice a1 l1 c1) (n + 1) (ts ++ [.int .u8 t]) := by rw [hw2]; exact ownsRow_setCell_below hto1 (by simp) _
  have hco2 : w2.ownsRow (B + 4) 23 1 v2 n cs := by rw [hw2]; exact ownsRow_setCell_below hco1 (by simp) _
  have HW : Hid (w2 = w1.setCell ⟨B + 1, 0, none⟩ (.slice a1 l1 c1)) := hw2
  clear hw2 hto1 hco1 hlim1 ht1 hc1 hcal1 hB1
  go_wp2_with (at_builtin; refine wpList_append_own _ rfl (.tmp 12) (.tmp 15) 34 rfl (B + 4) 23 i23 (.slice none 0 0) 1 24 Yba.underlying34 hi23 q0 q1 q2 rfl (by decide) _ _ _ rfl (by rw [← HW.out]; exact hco2.alloc _) ⟨w1.heap.size, 0, none⟩ 1 1 [.slice a l c] rfl rfl ?e1 ?e2 ?e3 ?e4 ?e5 ?_)
  case e1 =>
    intro j u hj
    match j, hj with
    | 0, hj =>
      simp at hj; subst hj
      rw [← HW.out, ← hs2]
      simp [Addr.add]
  case e2 => intro u hu; simp at hu; subst hu; rfl
  case e3 => unfold maxLen; omega
  case e4 => omega
  case e5 => rw [← HW.out]; simp; omega
  intro v2' w3 hco3 hg3 _
  rw [← HW.out] at hg3
  obtain ⟨a2, l2, c2, hv2⟩ := own_slice hco3
  rw [hv2]
  rw [hv2] at hco3
  clear hv2 HW y1 y2 y3 f1
  have hBy : Below w2.heap.size w2 (w2.alloc (.cells #[.slice a l c] 23)) := (Below.refl _ _).alloc (Nat.le_refl _) _
  have hB3 : Below (B + 4) w2 w3 := ((Below.refl _ _).alloc (by omega) _).grown hg3 (by simp; omega) (fun k hk => (own_base hco2 k hk).1)
  have hto3 : w3.ownsRow (B + 4) 5 1 (.slice a1 l1 c1) (n + 1) (ts ++ [.int .u8 t]) := own_keep hto2 (fun k hk => by
    obtain ⟨hk1, cc, hk2⟩ := own_base hto2 k hk
    have hkl := heap_lt hk2
    rw [hg3.block k (by simp; omega) (fun e => by
      obtain ⟨_, cc', hk3⟩ := own_base hco2 k e.symm
      rw [hk2] at hk3; simp at hk3)]
    exact hBy.block k hkl)
  have hlim3 : w3.heap[B]? = _ := (hB3.block B (by omega)).trans hlim2
  have ht3 : w3.heap[B + 1]? = _ := (hB3.block (B + 1) (by omega)).trans ht2
  have hc3 : w3.heap[B + 2]? = _ := (hB3.block (B + 2) (by omega)).trans hc2
  have hcal3 : w3.heap[B + 3]? = _ := (hB3.block (B + 3) (by omega)).trans hcal2
  have k0 : w3.cell? ⟨B, 0, none⟩ = some (.int .i64 lim) := by rw [cell_of hlim3]; rfl
  have k2 : w3.cell? ⟨B + 2, 0, none⟩ = some v2 := by rw [cell_of hc3]; rfl
  have k3 : w3.cell? ⟨B + 3, 0, none⟩ = some (.int .i64 n) := by rw [cell_of hcal3]; rfl
  have g2 := frozen_of (i := 0) hc3
  have g3 := frozen_of (i := 0) hcal3
  have hBw : Below B w w3 := hB2.trans (hB3.mono (by omega))
  have hfin : Log ((w3.setCell ⟨B + 2, 0, none⟩ (.slice a2 l2 c2)).setCell ⟨B + 3, 0, none⟩ (.int .i64 ((n : Int) + 1))) B lim (n + 1) (ts ++ [.int .u8 t]) (cs ++ [.slice a l c]) := by
    refine ⟨?_, ⟨_, ?_, ownsRow_setCell_below (ownsRow_setCell_below hto3 (by simp) _) (by simp) _⟩, ⟨_, ?_, ownsRow_setCell_below (ownsRow_setCell_below hco3 (by simp) _) (by simp) _⟩, ?_⟩
    · rw [set_far (by omega), set_far (by omega)]; exact hlim3
    · rw [set_far (by omega), set_far (by omega)]; exact ht3
    · rw [set_far (by omega)]; exact set_of hc3
    · exact set_of ((set_far (by omega)).trans hcal3)
  clear hg3 hto2 hco2 hlim2 ht2 hc2 hcal2 hlim3 ht3 hc3 hcal3 hto3 hco3 hB3 hBy hi23 q0 q1 q2
  go_wp2
  go_ret
  exact ⟨rfl, (hBw.setCell (by simp) _).setCell (by simp) _, hfin⟩
end Go.Proofs.Ybulkgri
