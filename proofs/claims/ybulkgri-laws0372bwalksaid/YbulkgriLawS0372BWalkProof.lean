/-
  THE SHELL OF A PROOF OF 'Rows.LawS0372BWalkSaid' ('example.com/tunnelweave/tunnelweave/gtpv1.LawS0372BWalk'), WRITTEN BY PROGRAM (proof-skeleton.mjs, third state) off the guide's own print for that function. Not trusted: Lean checks it.
  THE WALK IS OURS; ALL ELSE IS THE GUIDE's OWN WAY (howto/template/XProofs.lean; Derived/Test/ChunkProofs.lean for 'Below') at this function's number and types: leave it.
-/
import Derived.Test.YbulkgriRows
import Derived.Test.YbulkgriWalkLog
import Derived.WalkKit
import Derived.ProofKit
import Derived.OpenShut
import Derived.ShutString
import Derived.ChangeOld
import Derived.Below
namespace Go.Proofs.Ybulkgri.lawS0372BWalk
open Go.ChangeShapes Go.WideShapes Go.ChangeAt Go.RowKit
open Go.ChangeMaps (open_string shut_string)
set_option linter.unusedVariables false

theorem own : ownKnob Yba.prog.godebug = none := by kernel_rfl
theorem laidOut : laidOutB Yba.prog = true := by kernel_rfl

/-- WHAT THE WALK IS TOLD OF A SLICE OF INTEGERS THAT CAME IN: it is nil; or it leads to a row of 'cap' cells, the numbers 'zs' (the first 'len' are its elements, the rest its spare room), each fitting its kind. -/
def IsRow (k : IntKind) (w : World) (a : Option Addr) (len cap : Nat) (zs : List Int) : Prop :=
  (a = none ∧ len = 0 ∧ cap = 0 ∧ zs = []) ∨
  ∃ x, a = some x ∧ len ≤ cap ∧ cap ≤ maxLen ∧ zs.length = cap ∧ (∀ i, i < zs.length → w.cell? (x.add i) = some (.int k (zs.getD i 0))) ∧ ∀ n ∈ zs, (Lit.int k n).wf = true

/-! ### STEP 1: THE WALK: the Go text returns true, AND WRITES NOTHING THAT WAS THERE: 'Below w.heap.size w w'' (Derived/Below.lean: '.refl', '.alloc', '.drew', '.setCell' at a new block, '.trans'). Open each 'IsRow' by 'rcases' AHEAD of 'go_enter'; part every test ahead of the walk. -/
theorem row_at {w : World} {a : Option Addr} {len cap : Nat} {zs : List Int} (h : IsRow .u8 w a len cap zs) (hpos : 0 < len) :
    ∃ b off, a = some ⟨b, off, none⟩ ∧ b < w.heap.size ∧ len ≤ cap ∧ cap ≤ maxLen ∧ (∀ i, i < len → w.cell? ⟨b, off + i, none⟩ = some (.int .u8 (zs.getD i 0))) ∧ ∀ i, 0 ≤ zs.getD i 0 ∧ zs.getD i 0 ≤ 255 := by
  rcases h with ⟨rfl, rfl, rfl, rfl⟩ | ⟨x, rfl, hlc, hcm, hz, hc, hw⟩
  · omega
  · obtain ⟨b, off, rfl, hc'⟩ := ints_at hc (by omega)
    refine ⟨b, off, rfl, ?_, hlc, hcm, fun i hi => hc' i (by omega), fun i => ?_⟩
    · have h0 := hc' 0 (by omega)
      rcases Nat.lt_or_ge b w.heap.size with g | g
      · exact g
      · simp [World.cell?, Array.getElem?_eq_none g] at h0
    · have := range_u8 hw i
      simpa [List.getD] using this

set_option maxHeartbeats 1000000 in
theorem walk_far (a0 : Option Addr) (len0 cap0 : Nat) (a1 a2 : Int) (w : World) (hl : (1024 : Int) < len0) :
    Calls Yba.prog 4 #[.slice a0 len0 cap0, .int .u16 a1, .int .u8 a2] w fun e w' => e = .returned (.bool true) ∧ Below w.heap.size w w' := by
  go_enter Yba.func4, Yba.ntmps4
  go_wp2
  go_ret
  exact ⟨rfl, Below.refl _ _⟩

set_option maxHeartbeats 1000000 in
theorem walk_zero (a0 : Option Addr) (cap0 : Nat) (a1 a2 : Int) (w : World) :
    Calls Yba.prog 4 #[.slice a0 0 cap0, .int .u16 a1, .int .u8 a2] w fun e w' => e = .returned (.bool true) ∧ Below w.heap.size w w' := by
  go_enter Yba.func4, Yba.ntmps4
  go_wp2
  go_ret
  exact ⟨rfl, Below.refl _ _⟩

theorem own_at {w : World} {base e n k : Nat} {v u : Value} {xs : List Value} (h : w.ownsRow base e 1 v n xs) (hk : xs[k]? = some u) : ∃ g c, v = .slice (some ⟨g, 0, none⟩) n c ∧ w.cell? ⟨g, k, none⟩ = some u := by
  obtain ⟨hl, h⟩ := h
  have hkl : k < xs.length := (List.getElem?_eq_some_iff.1 hk).1
  rcases h with ⟨rfl, rfl⟩ | ⟨g, cap, cur, rfl, hg, hh, hnc, hcm, hcs, htk⟩
  · omega
  · refine ⟨g, cap, rfl, ?_⟩
    rw [← htk, List.getElem?_take, if_pos (by omega)] at hk
    rw [cell_of hh]
    simpa using hk

theorem four_at (h : Array Obj) (a b c d : Obj) : ((((h.push a).push b).push c).push d)[h.size]? = some a ∧ ((((h.push a).push b).push c).push d)[h.size + 1]? = some b ∧ ((((h.push a).push b).push c).push d)[h.size + 2]? = some c ∧ ((((h.push a).push b).push c).push d)[h.size + 3]? = some d := by
  refine ⟨?_, ?_, ?_, ?_⟩ <;> grind

theorem start_log (w : World) (lim : Int) : Below w.heap.size w ((((w.alloc (.cells #[.int .i64 lim] 3)).alloc (.cells #[.slice none 0 0] 23)).alloc (.cells #[.slice none 0 0] 34)).alloc (.cells #[.int .i64 0] 3)) ∧
    Log ((((w.alloc (.cells #[.int .i64 lim] 3)).alloc (.cells #[.slice none 0 0] 23)).alloc (.cells #[.slice none 0 0] 34)).alloc (.cells #[.int .i64 0] 3)) w.heap.size lim 0 [] [] := by
  refine ⟨((((Below.refl _ _).alloc (Nat.le_refl _) _).alloc (by simp) _).alloc (by simp; omega) _).alloc (by simp; omega) _, ?_, ⟨_, ?_, World.ownsRow_nil _ _ _ _⟩, ⟨_, ?_, World.ownsRow_nil _ _ _ _⟩, ?_⟩
  · exact (four_at w.heap _ _ _ _).1
  · exact (four_at w.heap _ _ _ _).2.1
  · exact (four_at w.heap _ _ _ _).2.2.1
  · exact (four_at w.heap _ _ _ _).2.2.2

theorem own_len {w : World} {base e size n : Nat} {v : Value} {xs : List Value} (h : w.ownsRow base e size v n xs) : ∃ a c, v = .slice a n c := by
  rcases h.2 with ⟨rfl, rfl⟩ | ⟨g, cap, cur, rfl, hg, _⟩
  · exact ⟨_, _, rfl⟩
  · exact ⟨_, _, rfl⟩

set_option maxHeartbeats 2000000 in
set_option maxRecDepth 100000 in
theorem walk_near (b off len cap : Nat) (x : Nat → Int) (a1 a2 : Int) (w : World) (hb : b < w.heap.size) (hc : ∀ i, i < len → w.cell? ⟨b, off + i, none⟩ = some (.int .u8 (x i))) (hx : ∀ i, 0 ≤ x i ∧ x i ≤ 255)
    (hl : len ≤ 1024) (hlc : len ≤ cap) (hcap : cap ≤ 9223372036854775807) (hp : 0 < len) (h0 : 0 ≤ a1) (h1 : a1 ≤ 65535) (h2 : 0 ≤ a2) (h3 : a2 ≤ 255) :
    Calls Yba.prog 4 #[.slice (some ⟨b, off, none⟩) len cap, .int .u16 a1, .int .u8 a2] w fun e w' => e = .returned (.bool true) ∧ Below w.heap.size w w' := by
  have HX : Hid (∀ i, 0 ≤ x i ∧ x i ≤ 255) := hx
  have HC : Hid (∀ i, i < len → w.cell? ⟨b, off + i, none⟩ = some (.int .u8 (x i))) := hc
  clear hx hc
  have t1 : ((len : Int) == 0) = false := by rw [beq_eq_false_iff_ne]; omega
  have hm0 : 0 ≤ a1 % (len : Int) := Int.emod_nonneg _ (by omega)
  have hm1 : a1 % (len : Int) < len := Int.emod_lt_of_pos _ (by omega)
  go_enter Yba.func4, Yba.ntmps4
  go_wp2_with fail
  obtain ⟨q0, hq0⟩ : ∃ q0 : Nat, a1 % (len : Int) = q0 := ⟨(a1 % (len : Int)).toNat, by omega⟩
  rw [show 1 + a1 % (len : Int) = (q0 : Int) + 1 by omega]
  have hq1 : q0 + 1 ≤ len := by omega
  clear hq0 hm0 hm1 h0 h1
  generalize hlm : a2 % 8 = lim
  clear hlm h2 h3
  obtain ⟨hBs, hLs⟩ := start_log w lim
  refine (walk_log b off len cap x q0 w.heap.size lim _ hb (fun i hi => (hBs.cell (p := ⟨b, off + i, none⟩) hb).trans (HC.out i hi)) HX.out hl hlc hcap hq1 hLs).mono ?_
  rintro e w1 ⟨n, hR, rfl, hB1, hL1⟩
  have hB : Below w.heap.size w w1 := hBs.trans hB1
  obtain ⟨hn1, hn2⟩ := pos_le (fun i => (HX.out i).1) hq1 n hR.ok
  obtain ⟨hlim, ⟨v1, ht, hto⟩, ⟨v2, hco, hcown⟩, hcal⟩ := hL1
  have HR : Hid (Ran x len q0 lim n) := hR
  obtain ⟨s1, s2, hs⟩ := own_len hto
  obtain ⟨u1, u2, hu⟩ := own_len hcown
  subst hs hu
  have k1 : w1.cell? ⟨w.heap.size + 1, 0, none⟩ = some (.slice s1 n s2) := by rw [cell_of ht]; rfl
  have k2 : w1.cell? ⟨w.heap.size + 1 + 1, 0, none⟩ = some (.slice u1 n u2) := by rw [cell_of hco]; rfl
  have k0 : w1.cell? ⟨w.heap.size, 0, none⟩ = some (.int .i64 lim) := by rw [cell_of hlim]; rfl
  have k3 : w1.cell? ⟨w.heap.size + 1 + 1 + 1, 0, none⟩ = some (.int .i64 n) := by rw [cell_of hcal]; rfl
  have HT : Hid (w1.ownsRow (w.heap.size + 4) 5 1 (.slice s1 n s2) n (typOf x q0 n)) := hto
  have HN : Hid (w1.ownsRow (w.heap.size + 4) 23 1 (.slice u1 n u2) n (conOf b off cap x q0 n)) := hcown
  clear hBs hLs hB1 hR hlim hcal ht hto hco hcown
  go_wp2
  go_loopw [14, 15] (fun kk p wr => ∃ k : Nat, k ≤ n ∧ kk = .int .i64 k ∧ p = .int .i64 ((posOf x q0 k : Int) + 1) ∧ (k = 0 ∨ (k : Int) ≠ lim) ∧ ∃ m, wr = w1.drewN m) (fun _ p _ => len - (intOf p).toNat)
  case atStart => exact ⟨0, by omega, rfl, rfl, .inl rfl, 0, rfl⟩
  case round =>
    obtain ⟨k, hkn, rfl, rfl, hkl, m, hwr⟩ := hrel
    have HW : Hid (wr = w1.drewN m) := hwr
    have k0 : wr.cell? ⟨w.heap.size, 0, none⟩ = some (.int .i64 lim) := by rw [hwr]; exact k0
    have k1 : wr.cell? ⟨w.heap.size + 1, 0, none⟩ = some (.slice s1 n s2) := by rw [hwr]; exact k1
    have k2 : wr.cell? ⟨w.heap.size + 1 + 1, 0, none⟩ = some (.slice u1 n u2) := by rw [hwr]; exact k2
    have k3 : wr.cell? ⟨w.heap.size + 1 + 1 + 1, 0, none⟩ = some (.int .i64 n) := by rw [hwr]; exact k3
    have hBr : Below w.heap.size w wr := by rw [hwr]; exact ⟨hB.os, hB.tape, hB.output, hB.size, hB.block⟩
    clear hwr
    have HKL : Hid (k = 0 ∨ (k : Int) ≠ lim) := hkl
    clear hkl
    obtain ⟨hp1, hp2⟩ := pos_le (fun i => (HX.out i).1) hq1 k (fun j hj => HR.out.ok j (by omega))
    have HPS : Hid (posOf x q0 (k + 1) = posOf x q0 k + 4 * (x (posOf x q0 k + 1)).toNat) := rfl
    obtain ⟨q, hqd⟩ : ∃ q, q = posOf x q0 k := ⟨_, rfl⟩
    rw [← hqd] at hp1 hp2 ⊢
    have HQ : Hid (q = posOf x q0 k) := hqd
    clear hqd
    have hxq := HX.out q
    have hxq1 := HX.out (q + 1)
    have c1 : wr.cell? ⟨b, off + q, none⟩ = some (.int .u8 (x q)) := (hBr.cell (p := ⟨b, off + q, none⟩) hb).trans (HC.out q (by omega))
    have c2 : q + 1 < len → wr.cell? ⟨b, off + (q + 1), none⟩ = some (.int .u8 (x (q + 1))) := fun h => (hBr.cell (p := ⟨b, off + (q + 1), none⟩) hb).trans (HC.out (q + 1) h)
    by_cases hok : okAt x len q = true
    · obtain ⟨g1, g2, g3, g4⟩ := okAt_iff.1 hok
      have c2' := c2 g2
      clear c2
      have hkn' : k < n := by
        rcases Nat.lt_or_ge k n with r | r
        · exact r
        · have e : k = n := by omega
          rcases HR.out.stop with s | ⟨s, s'⟩
          · rw [← e, ← HQ.out, hok] at s; cases s
          · rcases HKL.out with r | r
            · omega
            · exfalso; apply r; rw [e]; exact s
      obtain ⟨gt, ct, et, hct⟩ := own_at (k := k) (u := .int .u8 (x q)) HT.out (by rw [HQ.out]; simp [typOf, hkn'])
      obtain ⟨gc, cc, ec, hcc⟩ := own_at (k := k) (u := contV b off cap x q) HN.out (by rw [HQ.out]; simp [conOf, hkn'])
      rw [contV] at hcc
      replace hct : wr.cell? ⟨gt, k, none⟩ = some (.int .u8 (x q)) := by rw [HW.out]; exact hct
      replace hcc : wr.cell? ⟨gc, k, none⟩ = some (.slice (some ⟨b, off + (q + 1 + 1), none⟩) (4 * (x (q + 1)).toNat - 2) (cap - (q + 1 + 1))) := by rw [HW.out]; exact hcc
      obtain ⟨rfl, rfl⟩ : s1 = some ⟨gt, 0, none⟩ ∧ s2 = ct := by cases et; exact ⟨rfl, rfl⟩
      obtain ⟨rfl, rfl⟩ : u1 = some ⟨gc, 0, none⟩ ∧ u2 = cc := by cases ec; exact ⟨rfl, rfl⟩
      clear et ec
      obtain ⟨y, hy⟩ : ∃ y, y = x (q + 1) := ⟨_, rfl⟩
      rw [← hy] at c2' hxq1 g3 g4 hcc
      have HY : Hid (y = x (q + 1)) := hy
      clear hy
      have e1 : (x q != 0) = true := by rw [bne_iff_ne]; exact g1
      have e2 : (y * 4 == 0) = false := by rw [beq_eq_false_iff_ne]; omega
      have e3 : (q : Int) + 1 < len := by omega
      have e4 : ¬ (len : Int) < (q : Int) + 1 + y * 4 := by omega
      have e5 : ¬ cap = q + 1 + 1 := by omega
      have e6 : (q : Int) + 1 + 1 ≤ (q : Int) + 1 + y * 4 - 1 := by omega
      have e7 : (q : Int) + 1 + y * 4 - 1 ≤ (cap : Int) := by omega
      have e8 : 0 ≤ (q : Int) + 1 + 1 := by omega
      have e9 : decide (n ≤ k) = false := by simp; omega
      have e10 : (k : Int) < n := by omega
      have e11 : (q : Int) < len := by omega
      go_wp2
      have hbq : ∀ nn : Nat, Calls Yba.prog 10 #[.slice (some ⟨b, off + (q + 1 + 1), none⟩) (4 * y.toNat - 2) (cap - (q + 1 + 1)), .slice (some ⟨b, off + (q + 1 + 1), none⟩) (((q : Int) + 1 + y * 4).toNat - 1 - (q + 1 + 1)) (cap - (q + 1 + 1))] (wr.drewN nn) fun e w' => e = .returned (.bool true) ∧ ∃ n', w' = wr.drewN n' := fun nn =>
        (beq_c b _ _ _ _ _ _ (fun i => x (q + 1 + 1 + i)) (wr.drewN nn) rfl (by omega) (by omega) (fun i hi => by
          have := (hBr.cell (p := ⟨b, off + (q + 1 + 1 + i), none⟩) hb).trans (HC.out (q + 1 + 1 + i) (by omega))
          rw [show off + (q + 1 + 1) + i = off + (q + 1 + 1 + i) by omega]
          exact this)).mono fun e w' ⟨he, n', hn'⟩ => ⟨he, nn + n', by rw [hn', World.drewN_drewN]⟩
      have HBQ : Hid _ := hbq
      clear hbq
      go_quiet ((go_at_call 10; exact HBQ.out _))
      have hpos1 : posOf x q0 (k + 1) = q + 4 * y.toNat := by rw [HPS.out, ← HQ.out, HY.out]
      have HP1 : Hid (posOf x q0 (k + 1) = q + 4 * y.toNat) := hpos1
      clear hpos1 HBQ
      by_cases hlm : (k : Int) + 1 = lim
      · have t5 : ((k : Int) + 1 == lim) = true := by rw [beq_iff_eq]; exact hlm
        have hkk : k + 1 = n := by
          rcases Nat.lt_or_ge (k + 1) n with r | r
          · exact absurd (by omega) (HR.out.go (k + 1) (by omega) r)
          · omega
        have hpn : posOf x q0 n = q + 4 * y.toNat := by rw [← hkk]; exact HP1.out
        have t6 : ((posOf x q0 n : Int) + 1 == (q : Int) + 1 + y * 4) = true := by rw [beq_iff_eq, hpn]; omega
        have t7 : ((k : Int) + 1 == (n : Int)) = true := by rw [beq_iff_eq]; omega
        clear hlm hkk hpn
        go_wp2
        go_ret
        exact ⟨rfl, hBr.os, hBr.tape, hBr.output, hBr.size, hBr.block⟩
      · have t5 : ((k : Int) + 1 == lim) = false := by rw [beq_eq_false_iff_ne]; exact hlm
        have HLM : Hid (¬ (k : Int) + 1 = lim) := hlm
        clear hlm
        go_wp2
        go_roundw
        case rel => exact ⟨k + 1, by omega, by go_num, int_eq (by rw [HP1.out]; omega), .inr (by have := HLM.out; omega), m + nq, by rw [HW.out, World.drewN_drewN]⟩
        case measure => simp [intOf]; omega
    · have hkk : k = n := by
        rcases Nat.lt_or_ge k n with r | r
        · have := HR.out.ok k r
          rw [← HQ.out] at this
          exact absurd this hok
        · omega
      have hpn : posOf x q0 n = q := by rw [← hkk]; exact HQ.out.symm
      have t6 : ((posOf x q0 n : Int) + 1 == (q : Int) + 1) = true := by rw [beq_iff_eq, hpn]
      have t7 : ((k : Int) == (n : Int)) = true := by rw [beq_iff_eq]; omega
      clear hkk hpn
      by_cases h2 : q + 1 < len
      · have c2' := c2 h2
        clear c2
        have e3 : (q : Int) + 1 < len := by omega
        by_cases h1 : x q = 0
        · have e1 : (x q != 0) = false := by simp [h1]
          clear h1 hok
          go_wp2
          go_ret
          exact ⟨rfl, hBr⟩
        · have e1 : (x q != 0) = true := by rw [bne_iff_ne]; exact h1
          have hnn : x (q + 1) = 0 ∨ len < q + 1 + 4 * (x (q + 1)).toNat := by
            by_cases h3 : x (q + 1) = 0
            · exact .inl h3
            · right
              rcases Nat.lt_or_ge len (q + 1 + 4 * (x (q + 1)).toNat) with g | g
              · exact g
              · exact absurd (okAt_iff.2 ⟨h1, h2, h3, g⟩) hok
          obtain ⟨y, hy⟩ : ∃ y, y = x (q + 1) := ⟨_, rfl⟩
          rw [← hy] at c2' hxq1 hnn
          clear hy hok h1
          by_cases h3 : y = 0
          · have e2 : (y * 4 == 0) = true := by rw [beq_iff_eq]; omega
            clear h3 hnn
            go_wp2
            go_ret
            exact ⟨rfl, hBr⟩
          · have e2 : (y * 4 == 0) = false := by rw [beq_eq_false_iff_ne]; omega
            have e4 : (len : Int) < (q : Int) + 1 + y * 4 := by omega
            clear h3 hnn
            go_wp2
            go_ret
            exact ⟨rfl, hBr⟩
      · have e3 : ¬ (q : Int) + 1 < len := by omega
        clear hok c2
        go_wp2
        go_ret
        exact ⟨rfl, hBr⟩

theorem walk (a0 : Option Addr) (len0 cap0 : Nat) (z0 : List Int) (a1 : Int) (a2 : Int) (w : World) (w0 : IsRow .u8 w a0 len0 cap0 z0) (w1 : (Lit.int .u16 a1).wf = true) (w2 : (Lit.int .u8 a2).wf = true) :
    Calls Yba.prog 4 #[.slice a0 len0 cap0, .int .u16 a1, .int .u8 a2] w fun e w' => e = .returned (.bool true) ∧ Below w.heap.size w w' := by
  have hu : 0 ≤ a1 ∧ a1 ≤ 65535 := by
    simp [Lit.wf, IntKind.min, IntKind.max, IntKind.signed, IntKind.bits] at w1
    omega
  have hv := bounds_u8 w2
  by_cases hl : len0 ≤ 1024
  · rcases Nat.eq_zero_or_pos len0 with rfl | hp
    · exact walk_zero a0 cap0 a1 a2 w
    · obtain ⟨b, off, rfl, hb, hlc, hcm, hc, hx⟩ := row_at w0 hp
      exact walk_near b off len0 cap0 (fun i => z0.getD i 0) a1 a2 w hb hc hx hl hlc (by unfold maxLen at hcm; omega) hp hu.1 hu.2 hv.1 hv.2
  · exact walk_far a0 len0 cap0 a1 a2 w (by omega)

/-! ### THE ROW's STEP: WRITTEN OUT: LEAVE IT -/
set_option maxRecDepth 100000 in
theorem lifted (os : Os) (started : os.Started) (H : Type) (enc : TypeId × Value → H) :
    ReturnsInHanded {} Yba.checked os 4 .any (Rows.lawS0372BWalkSpec.pre6 enc Yba.prog Yba.f4 Rows.lawS0372BWalkRow.domain false) (Rows.lawS0372BWalkSpec.post enc Yba.prog Yba.f4 false true false false) := by
  refine returnsInHanded_of_change (C := Yba.checked) own started (by kernel_rfl) Yba.func4
    (ChangeSpec.witness6 (enc := enc) (C := Yba.checked) false ⟨#[], #[.slice none 0 0, .int .u16 0, .int .u8 0], []⟩ 8 (by kernel_rfl) (by kernel_rfl) (by kernel_rfl) (by kernel_rfl)) ?_
  intro W base args ds gs before hval0 hW hcnd _
  have hval : ∀ (j : Nat) t v, Yba.f4.params[j]? = some t → args[j]? = some v → Value.okWide Yba.prog W .any base t v := hval0
  have hW' := hW
  obtain ⟨p, q, hA0, hV, rfl, hfz, hnd⟩ := hW
  have hA : DataW.TrodAll enc Yba.prog W 0 (fun _ => true) true Yba.f4.params.toList args.toList ds p := hA0
  rw [Yba.params4] at hA hval
  obtain ⟨v0, vs0, d0, ds0, p0, q0, hargs, rfl, rfl, h0, r0⟩ := trodAll_cons hA
  obtain ⟨v1, vs1, d1, ds1, p1, q1, rfl, rfl, rfl, h1, r1⟩ := trodAll_cons r0
  obtain ⟨v2, vs2, d2, ds2, p2, q2, rfl, rfl, rfl, h2, r2⟩ := trodAll_cons r1
  obtain ⟨rfl, rfl, rfl⟩ := trodAll_nil r2
  obtain rfl : args = #[v0, v1, v2] := by cases args; simp_all
  obtain ⟨rfl, rfl⟩ := trodVars_none hV
  obtain ⟨a0, len0, cap0, rfl⟩ := okWide_slice Yba.underlying23 (hval 0 23 v0 rfl rfl)
  have k0 := h0
  have lt0 : ∀ x ∈ p0, x.block < W.heap.size := by obtain ⟨m, hm⟩ := k0; exact DataW.trod_lt m _ _ _ hm
  obtain ⟨z0, w0⟩ : ∃ zs, IsRow .u8 W a0 len0 cap0 zs := by
    obtain ⟨fuel, hf⟩ := h0
    rcases open_ints Yba.underlying23 Yba.underlying5 (by kernel_rfl) hf with ⟨hcs, _⟩ | ⟨x, l, c, zs, hcs, _, hl, hm, hz, _, hcell, hwz⟩
    · simp [Value.cells] at hcs
      obtain ⟨rfl, rfl, rfl⟩ := hcs
      exact ⟨[], .inl ⟨rfl, rfl, rfl, rfl⟩⟩
    · simp [Value.cells] at hcs
      obtain ⟨rfl, rfl, rfl⟩ := hcs
      exact ⟨zs, .inr ⟨_, rfl, hl, hm, by simpa using hz, hcell, hwz⟩⟩
  obtain ⟨a1, rfl, rfl, rfl, w1⟩ := open_int Yba.underlying33 (hval 1 33 v1 rfl rfl) h1
  obtain ⟨a2, rfl, rfl, rfl, w2⟩ := open_int Yba.underlying5 (hval 2 5 v2 rfl rfl) h2
  clear hA0 hval0
  refine (walk a0 len0 cap0 z0 a1 a2 W w0 w1 w2).mono fun e W' ⟨he, bel⟩ => ?_
  subst he
  exact ⟨_, rfl, _, _, _, [], _, [], hW', trodAll_mk1 (shut_bool Yba.underlying4 _), (trodAll_cons_mk (Below.trod laidOut (by kernel_rfl) (of_decide_eq_true (by kernel_rfl)) k0 bel lt0) (trodAll_cons_mk (shut_int Yba.underlying33 w1) (trodAll_cons_mk (shut_int Yba.underlying5 w2) trodAll_mk0))), rfl, bel.frame _, fun h => by cases h⟩

theorem over : Rows.lawS0372BWalkRow.holds Yba.pinned (OpenSpec.ofChange Rows.lawS0372BWalkSpec) :=
  OpenClaim.holds_of_wide 4 Yba.f4 rfl rfl rfl rfl rfl rfl rfl ⟨rfl, rfl, rfl, rfl, rfl⟩ rfl rfl rfl rfl rfl (by kernel_rfl) Yba.func4 (by kernel_rfl)
    (of_decide_eq_true (by kernel_rfl)) (by unfold Func.isWrapper; first | (rw [if_pos (by decide +kernel)]; kernel_rfl) | (rw [if_neg (by decide +kernel)]; exact ⟨rfl, rfl⟩))
    (fun os started H enc _ => lifted os started H enc)

/-- ████ THE STATEMENT ████ -/
theorem proved : Rows.LawS0372BWalkSaid := over
#print axioms proved
end Go.Proofs.Ybulkgri.lawS0372BWalk
