/-
  decodeWith, decoder.
-/
import Derived.Test.YbulkgqgFmtDec
namespace Go.Proofs.YbulkgqgFmt
open Go.RowKit Go.Extern.Stop Go.Stop Go.Extern

/-- The eight cells of a giop.Message. -/
def msgCells (minor flags : Int) (oc fd : Value) : Array Value := #[.int .u8 1, .int .u8 minor, .int .u8 flags, .int .u8 0, .int .u32 0, oc, fd, .int .u64 0]
def MsgAt (w : World) (M : Nat) (minor flags : Int) (oc fd : Value) : Prop := w.heap[M]? = some (.cells (msgCells minor flags oc fd) 33 (0, 0))
theorem MsgAt.cell {w : World} {M : Nat} {minor flags : Int} {oc fd : Value} (h : MsgAt w M minor flags oc fd) (i : Nat) : w.cell? ⟨M, i, none⟩ = (msgCells minor flags oc fd)[i]? := by
  unfold MsgAt at h
  simp [World.cell?, h]

theorem all_set {w : World} {D : Nat} {c0 c1 c2 c3 c4 c5 c6 c7 c8 c9 : Value} {t : TypeId} (h : w.heap[D]? = some (.cells #[c0, c1, c2, c3, c4, c5, c6, c7, c8, c9] t (0, 0))) (v0 v1 v2 v3 v4 v5 v6 v7 v8 v9 : Value) :
    ((((((((((w.setCell ⟨D, 0, none⟩ v0).setCell ⟨D, 1, none⟩ v1).setCell ⟨D, 2, none⟩ v2).setCell ⟨D, 3, none⟩ v3).setCell ⟨D, 4, none⟩ v4).setCell ⟨D, 5, none⟩ v5).setCell ⟨D, 6, none⟩ v6).setCell ⟨D, 7, none⟩ v7).setCell ⟨D, 8, none⟩ v8).setCell ⟨D, 9, none⟩ v9).heap[D]? = some (.cells #[v0, v1, v2, v3, v4, v5, v6, v7, v8, v9] t (0, 0)) := by
  simp [World.setCell, Array.getElem?_modify, h]

theorem with_meet {w : World} {D : Nat} (hd : DecAt w D (.slice none 0 0) .nilIface (.slice none 0 0) 0 false) (minor flags : Int) (b fd o : Value) (O2 O3 : Obj) :
    Near w.heap.size D w ((((((((((((((w.setCell ⟨D, 0, none⟩ b).setCell ⟨D, 1, none⟩ (.int .i64 0)).setCell ⟨D, 2, none⟩ o).setCell ⟨D, 3, none⟩ (.int .i64 0)).setCell ⟨D, 4, none⟩ (.int .i64 0)).setCell ⟨D, 5, none⟩ (.slice none 0 0)).setCell ⟨D, 6, none⟩ (.int .i64 0)).setCell ⟨D, 7, none⟩ (.bool false)).setCell ⟨D, 8, none⟩ (.bool false)).setCell ⟨D, 9, none⟩ (.bool false)).alloc (.cells (msgCells minor flags b fd) 33)).alloc O2).alloc O3).drew) ∧
    MsgAt ((((((((((((((w.setCell ⟨D, 0, none⟩ b).setCell ⟨D, 1, none⟩ (.int .i64 0)).setCell ⟨D, 2, none⟩ o).setCell ⟨D, 3, none⟩ (.int .i64 0)).setCell ⟨D, 4, none⟩ (.int .i64 0)).setCell ⟨D, 5, none⟩ (.slice none 0 0)).setCell ⟨D, 6, none⟩ (.int .i64 0)).setCell ⟨D, 7, none⟩ (.bool false)).setCell ⟨D, 8, none⟩ (.bool false)).setCell ⟨D, 9, none⟩ (.bool false)).alloc (.cells (msgCells minor flags b fd) 33)).alloc O2).alloc O3).drew) w.heap.size minor flags b fd ∧
    w.heap.size < ((((((((((((((w.setCell ⟨D, 0, none⟩ b).setCell ⟨D, 1, none⟩ (.int .i64 0)).setCell ⟨D, 2, none⟩ o).setCell ⟨D, 3, none⟩ (.int .i64 0)).setCell ⟨D, 4, none⟩ (.int .i64 0)).setCell ⟨D, 5, none⟩ (.slice none 0 0)).setCell ⟨D, 6, none⟩ (.int .i64 0)).setCell ⟨D, 7, none⟩ (.bool false)).setCell ⟨D, 8, none⟩ (.bool false)).setCell ⟨D, 9, none⟩ (.bool false)).alloc (.cells (msgCells minor flags b fd) 33)).alloc O2).alloc O3).drew).heap.size ∧
    ∃ o', DecAt ((((((((((((((w.setCell ⟨D, 0, none⟩ b).setCell ⟨D, 1, none⟩ (.int .i64 0)).setCell ⟨D, 2, none⟩ o).setCell ⟨D, 3, none⟩ (.int .i64 0)).setCell ⟨D, 4, none⟩ (.int .i64 0)).setCell ⟨D, 5, none⟩ (.slice none 0 0)).setCell ⟨D, 6, none⟩ (.int .i64 0)).setCell ⟨D, 7, none⟩ (.bool false)).setCell ⟨D, 8, none⟩ (.bool false)).setCell ⟨D, 9, none⟩ (.bool false)).alloc (.cells (msgCells minor flags b fd) 33)).alloc O2).alloc O3).drew) D b o' (.slice none 0 0) 0 false := by
  have hs := all_set hd b (.int .i64 0) o (.int .i64 0) (.int .i64 0) (.slice none 0 0) (.int .i64 0) (.bool false) (.bool false) (.bool false)
  have hN := (((((((((((Near.refl w.heap.size D w).setCell 0 b).setCell 1 (.int .i64 0)).setCell 2 o).setCell 3 (.int .i64 0)).setCell 4 (.int .i64 0)).setCell 5 (.slice none 0 0)).setCell 6 (.int .i64 0)).setCell 7 (.bool false)).setCell 8 (.bool false)).setCell 9 (.bool false))
  have hz : ((((((((((w.setCell ⟨D, 0, none⟩ b).setCell ⟨D, 1, none⟩ (.int .i64 0)).setCell ⟨D, 2, none⟩ o).setCell ⟨D, 3, none⟩ (.int .i64 0)).setCell ⟨D, 4, none⟩ (.int .i64 0)).setCell ⟨D, 5, none⟩ (.slice none 0 0)).setCell ⟨D, 6, none⟩ (.int .i64 0)).setCell ⟨D, 7, none⟩ (.bool false)).setCell ⟨D, 8, none⟩ (.bool false)).setCell ⟨D, 9, none⟩ (.bool false)).heap.size = w.heap.size := by simp [World.setCell]
  have hlt := hd.lt
  generalize ((((((((((w.setCell ⟨D, 0, none⟩ b).setCell ⟨D, 1, none⟩ (.int .i64 0)).setCell ⟨D, 2, none⟩ o).setCell ⟨D, 3, none⟩ (.int .i64 0)).setCell ⟨D, 4, none⟩ (.int .i64 0)).setCell ⟨D, 5, none⟩ (.slice none 0 0)).setCell ⟨D, 6, none⟩ (.int .i64 0)).setCell ⟨D, 7, none⟩ (.bool false)).setCell ⟨D, 8, none⟩ (.bool false)).setCell ⟨D, 9, none⟩ (.bool false)) = W at *
  have hB : Below w.heap.size W ((((W.alloc (.cells (msgCells minor flags b fd) 33)).alloc O2).alloc O3).drew) := ((((Below.refl _ _).alloc (by omega) _).alloc (by simp; omega) _).alloc (by simp; omega) _).drew
  refine ⟨hN.trans (Near.ofBelow hB), ?_, by have := hB.size; simp; omega, o, ?_⟩
  · unfold MsgAt
    show (((W.heap.push _).push _).push _)[w.heap.size]? = _
    rw [← hz]
    simp [Array.getElem?_push]
    omega
  · unfold DecAt
    rw [hB.block D hlt]
    exact hs

set_option maxHeartbeats 1000000 in
theorem decodeWith_c (D : Nat) (minor flags : Int) (ob : Option Addr) (ol oc : Nat) (af : Option Addr) (nf cf : Nat) (x : Nat → Int) (w : World) (hd : DecAt w D (.slice none 0 0) .nilIface (.slice none 0 0) 0 false)
    (hnf : nf ≤ 1000) (hfd : ∀ k, k < nf → ∃ g, af = some ⟨g, 0, none⟩ ∧ g < D ∧ w.cell? ⟨g, k, none⟩ = some (.int .i64 (x k))) :
    Calls Ybaf.prog 12 #[.agg #[.int .u8 1, .int .u8 minor, .int .u8 flags, .int .u8 0, .int .u32 0, .slice ob ol oc, .slice af nf cf, .int .u64 0], .pointer (some ⟨D, 0, none⟩)] w fun e w' => e = .returned (.tuple #[]) ∧ Near w.heap.size D w w' ∧ ∃ o ah nw, DecAt w' D (.slice ob ol oc) o ah 0 nw := by
  have hlt := hd.lt
  have hlt1 : D < w.heap.size + 1 := by omega
  have hlt2 : D < w.heap.size + 1 + 1 := by omega
  have hlt3 : D < w.heap.size + 1 + 1 + 1 := by omega
  have c0 : w.cell? ⟨D, 0, none⟩ = some (.slice none 0 0) := by rw [hd.cell]; rfl
  have c1 : w.cell? ⟨D, 1, none⟩ = some (.int .i64 0) := by rw [hd.cell]; rfl
  have c2 : w.cell? ⟨D, 2, none⟩ = some .nilIface := by rw [hd.cell]; rfl
  have c3 : w.cell? ⟨D, 3, none⟩ = some (.int .i64 0) := by rw [hd.cell]; rfl
  have c4 : w.cell? ⟨D, 4, none⟩ = some (.int .i64 0) := by rw [hd.cell]; rfl
  have c5 : w.cell? ⟨D, 5, none⟩ = some (.slice none 0 0) := by rw [hd.cell]; rfl
  have c6 : w.cell? ⟨D, 6, none⟩ = some (.int .i64 0) := by rw [hd.cell]; rfl
  have c7 : w.cell? ⟨D, 7, none⟩ = some (.bool false) := by rw [hd.cell]; rfl
  have c8 : w.cell? ⟨D, 8, none⟩ = some (.bool false) := by rw [hd.cell]; rfl
  have c9 : w.cell? ⟨D, 9, none⟩ = some (.bool false) := by rw [hd.cell]; rfl
  have fz : ∀ i, w.frozen? ⟨D, i, none⟩ = false := hd.frozen
  have HF : Hid (∀ k, k < nf → ∃ g, af = some ⟨g, 0, none⟩ ∧ g < D ∧ w.cell? ⟨g, k, none⟩ = some (.int .i64 (x k))) := hfd
  clear hfd
  go_enter Ybaf.func12, Ybaf.ntmps12
  go_upto_region 1 with fail
  go_cut [] from 6 to 15 (fun wx => Near w.heap.size D w wx ∧ MsgAt wx w.heap.size minor flags (.slice ob ol oc) (.slice af nf cf) ∧ w.heap.size < wx.heap.size ∧ ∃ o, DecAt wx D (.slice ob ol oc) o (.slice none 0 0) 0 false)
  case first =>
    go_region_with (first | (go_at_call 7; refine (order_c _ _ _ _ _ _).mono ?_; rintro e w' ⟨t, rfl, rfl⟩) | (go_at_call 6; refine (newDecoder_c _ _ _ _ _ _).mono ?_; rintro e w' ⟨rfl, rfl⟩))
    all_goals (go_wp2_with fail; go_meet; exact with_meet hd minor flags _ _ _ _ _)
  case rest =>
    obtain ⟨hN, hM, hsz, o, hd'⟩ := hcut
    clear hd c0 c1 c2 c3 c4 c5 c6 c7 c8 c9 fz hlt1 hlt2 hlt3
    have m6 : wc.cell? ⟨w.heap.size, 6, none⟩ = some (.slice af nf cf) := by rw [hM.cell]; rfl
    have hMlt : w.heap.size ≠ D := by omega
    go_wp2
    go_loopw [19] (fun i wr => ∃ k : Nat, k ≤ nf ∧ i = .int .i64 k ∧ Near wc.heap.size D wc wr ∧ ∃ ah xs, DecAt wr D (.slice ob ol oc) o ah 0 false ∧ wr.ownsRow wc.heap.size 55 2 ah k xs) (fun i _ => nf - (intOf i).toNat)
    case atStart => exact ⟨0, Nat.zero_le _, rfl, Near.refl _ _ _, _, _, hd', World.ownsRow_nil _ _ _ _⟩
    case round =>
      obtain ⟨k, hk, rfl, hNr, ah, xs, hdr, hown⟩ := hrel
      by_cases hkn : k < nf
      · obtain ⟨g, rfl, hg, hc⟩ := HF.out k hkn
        have hcr : wr.cell? ⟨g, k, none⟩ = some (.int .i64 (x k)) := by
          have e1 : wc.cell? ⟨g, k, none⟩ = w.cell? ⟨g, k, none⟩ := World.cell?_of_block (hN.block g (by omega) (by omega))
          have e2 : wr.cell? ⟨g, k, none⟩ = wc.cell? ⟨g, k, none⟩ := World.cell?_of_block (hNr.block g (by omega) (by omega))
          rw [e2, e1]; exact hc
        clear hc
        go_wp2_with (go_at_call 8; refine (realign_c wc.heap.size D _ _ _ _ _ k _ _ _ _ hdr hown (by omega) hd'.lt hNr.size).mono ?_; rintro e w' ⟨rfl, hN2, ah', xs', hd2, hown2⟩)
        go_roundw
        case rel => exact ⟨k + 1, by omega, by go_num, hNr.trans hN2, ah', xs', hd2, hown2⟩
        case measure => simp [intOf]; omega
      · have hMr : MsgAt wr w.heap.size minor flags (.slice ob ol oc) (.slice af nf cf) := by
          unfold MsgAt; rw [hNr.block _ hsz hMlt]; exact hM
        have m1 : wr.cell? ⟨w.heap.size, 1, none⟩ = some (.int .u8 minor) := by rw [hMr.cell]; rfl
        have d9 : wr.cell? ⟨D, 9, none⟩ = some (.bool false) := by rw [hdr.cell]; rfl
        have f9 := hdr.frozen 9
        have hfin : Near w.heap.size D w wr := hN.trans (hNr.mono (by omega))
        go_wp2_with (go_at_call 9; refine (refuse_c D _ _ (by exact d9) (by exact f9)).mono ?_; rintro e w' ⟨rfl, rfl⟩)
        · go_end0
          exact ⟨rfl, hfin.setCell 9 _, _, _, _, hdr.set9 _⟩
        · go_end0
          exact ⟨rfl, hfin, _, _, _, hdr⟩

theorem alloc2_at (w : World) (o1 o2 : Obj) : ((w.alloc o1).alloc o2).heap[w.heap.size + 1]? = some o2 := by
  show ((w.heap.push o1).push o2)[w.heap.size + 1]? = _
  rw [Array.getElem?_push]
  simp

set_option maxHeartbeats 1000000 in
theorem decoder_c (minor flags : Int) (ob : Option Addr) (ol oc : Nat) (af : Option Addr) (nf cf : Nat) (x : Nat → Int) (w : World)
    (hnf : nf ≤ 1000) (hfd : ∀ k, k < nf → ∃ g, af = some ⟨g, 0, none⟩ ∧ g < w.heap.size ∧ w.cell? ⟨g, k, none⟩ = some (.int .i64 (x k))) :
    Calls Ybaf.prog 5 #[.agg #[.int .u8 1, .int .u8 minor, .int .u8 flags, .int .u8 0, .int .u32 0, .slice ob ol oc, .slice af nf cf, .int .u64 0]] w fun e w' => Below w.heap.size w w' ∧ ∃ D o ah nw, e = .returned (.pointer (some ⟨D, 0, none⟩)) ∧ w.heap.size ≤ D ∧ DecAt w' D (.slice ob ol oc) o ah 0 nw := by
  have HF : Hid (∀ k, k < nf → ∃ g, af = some ⟨g, 0, none⟩ ∧ g < w.heap.size ∧ w.cell? ⟨g, k, none⟩ = some (.int .i64 (x k))) := hfd
  clear hfd
  go_enter Ybaf.func5, Ybaf.ntmps5
  go_wp2_with fail
  have hd0 : DecAt ((w.alloc (.cells #[.int .u8 1, .int .u8 minor, .int .u8 flags, .int .u8 0, .int .u32 0, .slice ob ol oc, .slice af nf cf, .int .u64 0] 33)).alloc (.cells #[.slice none 0 0, .int .i64 0, .nilIface, .int .i64 0, .int .i64 0, .slice none 0 0, .int .i64 0, .bool false, .bool false, .bool false] 49)) (w.heap.size + 1) (.slice none 0 0) .nilIface (.slice none 0 0) 0 false := by
    exact alloc2_at w _ _
  have hB : Below w.heap.size w ((w.alloc (.cells #[.int .u8 1, .int .u8 minor, .int .u8 flags, .int .u8 0, .int .u32 0, .slice ob ol oc, .slice af nf cf, .int .u64 0] 33)).alloc (.cells #[.slice none 0 0, .int .i64 0, .nilIface, .int .i64 0, .int .i64 0, .slice none 0 0, .int .i64 0, .bool false, .bool false, .bool false] 49)) := ((Below.refl _ _).alloc (Nat.le_refl _) _).alloc (by simp) _
  refine (decodeWith_c (w.heap.size + 1) minor flags ob ol oc af nf cf x _ hd0 hnf (fun k hk => ?_)).mono ?_
  · obtain ⟨g, e1, e2, e3⟩ := HF.out k hk
    exact ⟨g, e1, by omega, (hB.cell (p := ⟨g, k, none⟩) e2).trans e3⟩
  · rintro e w' ⟨rfl, hN, o, ah, nw, hdd⟩
    have hB2 : Below w.heap.size w w' := hB.trans (hN.below (by simp; omega) (by omega))
    go_wp2
    go_ret
    exact ⟨hB2, _, _, _, _, rfl, by omega, hdd⟩
end Go.Proofs.YbulkgqgFmt
