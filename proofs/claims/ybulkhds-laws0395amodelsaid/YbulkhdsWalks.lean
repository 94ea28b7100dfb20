/-
  THE WALKS: distinct[string], only, zzs0395aallsame.
-/
import Derived.Test.YbulkhdsRows
import Derived.Test.YbulkhdsPlain
import Derived.WalkKit
import Derived.WalkSpells
import Derived.WalkLawsBesides
import Derived.Deep.QuietTactic
import Derived.BigQuiet
import Derived.Maps.OwnOps
import Derived.Maps.Views
import Derived.Laws.IdiomStrings
import Derived.StringKeys
namespace Go.Proofs.Ybulkhds
open Go.RowKit Go.Maps

theorem plainElem_bool_inv {H : Type} {P : Program} {e : TypeId} (he : P.underlying e = some .bool) {v : Value} {z : DataW H × List MemPlace} (h : plainElem P e v = some z) : ∃ x, v = .bool x ∧ z = (.lit (.bool x), []) := by
  unfold plainElem at h
  rw [he] at h
  cases v <;> simp at h
  exact ⟨_, rfl, h.symm⟩

theorem wpList_lookup_own_bool {H : Type} {P : Program} (w : World) {ops : Array Oper} {rest : List Oper} {o : Oper} {a : Act} {Q : Exit → Act → World → Prop}
    (hg : o.guard = none) (m x : Operand) (t : TypeId) (hop : o.op = Op.lookup t m x false)
    (k e : TypeId) (K : Keyed P k) (ht : P.underlying t = some (.map k e)) (he : P.underlying e = some .bool) (hz : (zeroValue e).run P w = .ok (.bool false) w) (b n : Nat) (D : DataW H)
    (hm : a.eval m = .map (some b)) (hown : w.ownsMap P k (plainElem P e) b n D) (key : Value) (kl : Lit) (hx : a.eval x = key) (hkey : keyOf P k key = some kl) (c : Bool) (hat : D.atKey kl (.lit (.bool false)) = .lit (.bool c))
    (hK : wpList P ops Q rest (a.put o.dst (.bool c)) w) :
    wpList P ops Q (o :: rest) a w := by
  refine wpList_plain hg fun K' hK' => ?_
  obtain ⟨v, ps, hrun, hv⟩ := hown.lookup K ht hz (plainElem_bool he false) hkey
  obtain ⟨c', rfl, hc⟩ := plainElem_bool_inv he hv
  simp only [Prod.mk.injEq] at hc
  rw [hat] at hc
  have hcc : c' = c := by
    have := hc.1
    simp at this
    exact this.symm
  subst hcc
  unfold Oper.wp
  simp [execOp, hop, hm, hx, hrun, Result.andThen]
  exact hK' _ _ hK

theorem heap_lt {w : World} {k : Nat} {o : Obj} (h : w.heap[k]? = some o) : k < w.heap.size := by
  rcases Nat.lt_or_ge k w.heap.size with g | g
  · exact g
  · rw [Array.getElem?_eq_none g] at h; cases h
theorem own_base {w : World} {base e size n : Nat} {v : Value} {xs : List Value} (h : w.ownsRow base e size v n xs) : ∀ k, v.ownBlock = some k → base ≤ k ∧ ∃ c, w.heap[k]? = some (.cells c e (0, 0)) := by
  intro k hk
  rcases h.2 with ⟨rfl, _⟩ | ⟨g, cap, cur, rfl, hg, hh, _⟩
  · simp [Value.ownBlock] at hk
  · simp [Value.ownBlock] at hk; subst hk; exact ⟨hg, cur, hh⟩
theorem own_slice {w : World} {base e size n : Nat} {v : Value} {xs : List Value} (h : w.ownsRow base e size v n xs) : ∃ a l c, v = .slice a l c := by
  rcases h.2 with ⟨rfl, _⟩ | ⟨g, cap, cur, rfl, hg, _⟩
  · exact ⟨_, _, _, rfl⟩
  · exact ⟨_, _, _, rfl⟩
theorem own_keep {w w' : World} {base e size n : Nat} {v : Value} {xs : List Value} (h : w.ownsRow base e size v n xs) (hk : ∀ k, v.ownBlock = some k → w'.heap[k]? = w.heap[k]?) : w'.ownsRow base e size v n xs := by
  obtain ⟨h1, h2⟩ := h
  refine ⟨h1, ?_⟩
  rcases h2 with h2 | ⟨g, cap, cur, rfl, hg, hh, r⟩
  · exact .inl h2
  · exact .inr ⟨g, cap, cur, rfl, hg, by rw [hk g rfl]; exact hh, r⟩

theorem own_len {w : World} {base e size n : Nat} {v : Value} {xs : List Value} (h : w.ownsRow base e size v n xs) : ∃ a c, v = .slice a n c := by
  rcases h.2 with ⟨rfl, rfl⟩ | ⟨g, cap, cur, rfl, hg, _⟩
  · exact ⟨_, _, rfl⟩
  · exact ⟨_, _, rfl⟩
theorem own_at {w : World} {base e n k : Nat} {v u : Value} {xs : List Value} (h : w.ownsRow base e 1 v n xs) (hk : xs[k]? = some u) : ∃ g c, v = .slice (some ⟨g, 0, none⟩) n c ∧ w.cell? ⟨g, k, none⟩ = some u := by
  obtain ⟨hl, h⟩ := h
  have hkl : k < xs.length := (List.getElem?_eq_some_iff.1 hk).1
  rcases h with ⟨rfl, rfl⟩ | ⟨g, cap, cur, rfl, hg, hh, hnc, hcm, hcs, htk⟩
  · omega
  · refine ⟨g, cap, rfl, ?_⟩
    rw [← htk, List.getElem?_take, if_pos (by omega)] at hk
    simp only [World.cell?, hh]
    simpa using hk

theorem law : Keyed Yba.prog 9 := string_keyed Yba.underlying9
theorem zero4 (w : World) : (zeroValue 4).run Yba.prog w = .ok (.bool false) w := by kernel_rfl
theorem Yba.info9 : (Yba.prog.info? 9).map (fun i => (i.zero, i.size, i.bytes)) = some (some (.string ⟨#[]⟩), 1, 16) := by kernel_rfl

/-- The strings that came in. -/
def InSs (w : World) (a0 : Option Addr) (len : Nat) (ss : Nat → ByteArray) : Prop :=
  ∀ i, i < len → ∃ b o, a0 = some ⟨b, o, none⟩ ∧ b < w.heap.size ∧ w.cell? ⟨b, o + i, none⟩ = some (.string (ss i)) ∧ (ss i).size ≤ maxLen

/-- The map's datum says of each string whether it has been seen. -/
def Seen (D : DataW Unit) (l : List ByteArray) : Prop := IsMap D ∧ ∀ s : ByteArray, D.atKey (.string s.data.toList) (.lit (.bool false)) = .lit (.bool (memB s l))

theorem Seen.start : Seen (.map []) [] := ⟨isMap_empty, fun _ => atKey_of_not_has (H := Unit) (D := .map []) rfl _⟩
theorem Seen.put {D : DataW Unit} {l : List ByteArray} (h : Seen D l) (x : ByteArray) : Seen (D.put (.string x.data.toList) (.lit (.bool true))) (l ++ [x]) := by
  refine ⟨h.1.put _ _, fun s => ?_⟩
  by_cases e : s = x
  · subst e
    rw [atKey_put_same h.1 (by simp [WideAt.IsKeyLit])]
    simp [memB]
  · have hne : (Lit.string s.data.toList) ≠ .string x.data.toList := by
      intro he
      apply e
      simp only [Lit.string.injEq] at he
      exact bytes_ext he
    rw [atKey_put_other hne, h.2 s]
    have : memB s (l ++ [x]) = memB s l := by
      rw [Bool.eq_iff_iff, memB_iff, memB_iff]
      simp [e]
    rw [this]

set_option maxHeartbeats 1000000 in
theorem distinct_c (a0 : Option Addr) (len cap0 : Nat) (ss : Nat → ByteArray) (w : World) (hin : InSs w a0 len ss) (hl : len ≤ 1024) :
    Calls Yba.prog 7 #[.slice a0 len cap0] w fun e w' => ∃ v, e = .returned v ∧ Below w.heap.size w w' ∧ w'.ownsRow w.heap.size 9 1 v (dist ss len).length ((dist ss len).map Value.string) := by
  have HI : Hid (InSs w a0 len ss) := hin
  clear hin
  obtain ⟨i9, hi9, p0, p1, p2⟩ := info_parts Yba.info9
  have hmm : ∀ w : World, (Instr.makeMap 27 (some (.int .i64 (len : Int)))).run Yba.prog w = .ok (.map (some w.heap.size)) (w.alloc (.map #[] 0)) := fun w => by kernel_rfl
  go_enter Yba.func7, Yba.ntmps7
  go_wp2_with (at_make; refine wpList_make_own _ rfl _ _ 22 rfl (w.heap.size + 1) 9 i9 (.string ⟨#[]⟩) 1 Yba.underlying22 hi9 p0 p1 .i64 .i64 _ len rfl rfl rfl ?c1 ?c2 ?c3 ?_)
  case c1 => first | omega | (rw [p2]; omega)
  case c2 => unfold maxLen; omega
  case c3 => simp
  intro w1 hown1 hg1
  have hB1 : Below (w.heap.size + 1) (w.alloc (.map #[] 0)) w1 := (Below.refl _ _).grown hg1 (by simp) (fun k h => by cases h)
  have hmap1 : w1.ownsMap Yba.prog 9 (plainElem (H := Unit) Yba.prog 4) w.heap.size 0 (.map []) := (World.ownsMap_made w Yba.prog 9 _).kept hg1 (by simp)
  have hBw1 : Below w.heap.size w w1 := ((Below.refl _ _).alloc (Nat.le_refl _) _).trans (hB1.mono (by omega))
  clear hg1 hB1
  go_wp2
  go_loopw [4, 15] (fun v i wr => ∃ (k : Nat) (D : DataW Unit), k ≤ len ∧ i = .int .i64 k ∧ Hid (Seen D (dist ss k)) ∧ wr.ownsMap Yba.prog 9 (plainElem Yba.prog 4) w.heap.size k D ∧ wr.ownsRow (w.heap.size + 1) 9 1 v (dist ss k).length ((dist ss k).map Value.string) ∧ Below w.heap.size w wr) (fun _ i _ => len - (intOf i).toNat)
  case atStart => exact ⟨0, _, by omega, rfl, Seen.start, hmap1, hown1, hBw1⟩
  case round =>
    obtain ⟨k, D, hk, rfl, HS, hmap, hrow, hBr⟩ := hrel
    clear hown1 hmap1 hBw1
    rename World => wa
    have hdl := dist_le ss k
    by_cases hkl : k < len
    · obtain ⟨pb, po, rfl, hpb, d0, hsz⟩ := HI.out k hkl
      have hkey : keyOf Yba.prog 9 (.string (ss k)) = some (.string (ss k).data.toList) := Go.WideMaps.keyOf_string_mk Yba.underlying9 hsz
      have r0 : wa.cell? ⟨pb, po + k, none⟩ = some (.string (ss k)) := (hBr.cell (p := ⟨pb, po + k, none⟩) hpb).trans d0
      have hkl' : (k : Int) < len := by omega
      have hat := HS.out.2 (ss k)
      have HD : Hid (dist ss (k + 1) = if memB (ss k) (dist ss k) then dist ss k else dist ss k ++ [ss k]) := rfl
      obtain ⟨s, hs⟩ : ∃ s, s = ss k := ⟨_, rfl⟩
      rw [← hs] at hkey r0 hat hsz
      have HSS : Hid (s = ss k) := hs
      have HKEY : Hid (keyOf Yba.prog 9 (.string s) = some (.string s.data.toList)) := hkey
      have HAT : Hid (D.atKey (.string s.data.toList) (.lit (.bool false)) = .lit (.bool (memB s (dist ss k)))) := hat
      clear hs hkey hat d0
      by_cases hmem : memB s (dist ss k) = true
      · rw [hmem] at HAT
        have hd1 : dist ss (k + 1) = dist ss k := by rw [HD.out, ← HSS.out, if_pos hmem]
        have HD1 : Hid (dist ss (k + 1) = dist ss k) := hd1
        have HM : Hid (wa.ownsMap Yba.prog 9 (plainElem (H := Unit) Yba.prog 4) w.heap.size k D) := hmap
        have HR : Hid (wa.ownsRow (w.heap.size + 1) 9 1 _ (dist ss k).length ((dist ss k).map Value.string)) := hrow
        clear hmem hd1 hmap hrow
        go_wp2_with (at_lookup; refine wpList_lookup_own_bool (H := Unit) _ rfl _ _ 27 rfl 9 4 law Yba.underlying27 Yba.underlying4 (zero4 _) w.heap.size k D rfl HM.out _ _ rfl HKEY.out true HAT.out ?_)
        go_roundw
        case rel => exact ⟨k + 1, D, by omega, by go_num, (by rw [HD1.out]; exact HS), HM.out.mono (by omega), (by rw [HD1.out]; exact HR.out), hBr⟩
        case measure => simp [intOf]; omega
      · have hmf : memB s (dist ss k) = false := by simpa using hmem
        rw [hmf] at HAT
        have hd1 : dist ss (k + 1) = dist ss k ++ [s] := by rw [HD.out, ← HSS.out, if_neg hmem]
        have HD1 : Hid (dist ss (k + 1) = dist ss k ++ [s]) := hd1
        clear hmem hmf hd1
        go_wp2_with (first
          | (at_lookup; refine wpList_lookup_own_bool (H := Unit) _ rfl _ _ 27 rfl 9 4 law Yba.underlying27 Yba.underlying4 (zero4 _) w.heap.size k D rfl hmap _ _ rfl HKEY.out false HAT.out ?_)
          | (at_mapUpdate; refine wpList_mapUpdate_own (H := Unit) _ rfl _ _ _ 27 rfl 9 4 law Yba.underlying27 _ w.heap.size k D rfl hmap (by unfold maxLen; omega) _ _ _ rfl rfl HKEY.out _ [] (plainElem_bool Yba.underlying4 true) ?_))
        intro w2 hmap2 hg2
        have hrow2 : w2.ownsRow (w.heap.size + 1) 9 1 _ (dist ss k).length ((dist ss k).map Value.string) := own_keep hrow (fun j hj => by
          obtain ⟨hj1, cc, hj2⟩ := own_base hrow j hj
          exact hg2.block j (heap_lt hj2) (fun e => by cases e; omega))
        have hB2 : Below w.heap.size w w2 := hBr.grown hg2 hBr.size (fun j hj => by cases hj; exact Nat.le_refl _)
        have hlt2 := hmap2.lt
        clear hg2 hrow hmap
        go_wp2_with (at_builtin; refine wpList_append_own _ rfl (.tmp 25) (.tmp 27) 22 rfl (w.heap.size + 1) 9 i9 (.string ⟨#[]⟩) 1 16 Yba.underlying22 hi9 p0 p1 p2 rfl (by decide) _ _ _ rfl (hrow2.alloc _) ⟨w2.heap.size, 0, none⟩ 1 1 [.string s] rfl rfl ?e1 ?e2 ?e3 ?e4 ?e5 ?_)
        case e1 =>
          intro j u hj
          match j, hj with
          | 0, hj => simp at hj; subst hj; simp [Addr.add]
        case e2 => intro u hu; simp at hu; subst hu; rfl
        case e3 => unfold maxLen; omega
        case e4 => omega
        case e5 => simp; omega
        intro v' w3 hrow3 hg3 _
        have hmap3 : w3.ownsMap Yba.prog 9 (plainElem (H := Unit) Yba.prog 4) w.heap.size (k + 1) (D.put (.string s.data.toList) (.lit (.bool true))) := (hmap2.alloc _).kept hg3 (fun e => by have := (own_base hrow2 _ e.symm).1; omega)
        have hB3 : Below w.heap.size w w3 := (hB2.alloc hB2.size _).grown hg3 (by have := hB2.size; simp; omega) (fun j hj => by have := (own_base hrow2 j hj).1; omega)
        have hrow4 : w3.ownsRow (w.heap.size + 1) 9 1 v' (dist ss (k + 1)).length ((dist ss (k + 1)).map Value.string) := by
          rw [HD1.out]
          simpa using hrow3
        have HR4 : Hid (w3.ownsRow (w.heap.size + 1) 9 1 v' (dist ss (k + 1)).length ((dist ss (k + 1)).map Value.string)) := hrow4
        have HM3 : Hid _ := hmap3
        clear hrow3 hg3 hmap3 hrow4 hmap2 hrow2
        go_wp2
        go_roundw
        case rel => exact ⟨k + 1, _, by omega, by go_num, (by rw [HD1.out]; exact HS.out.put s), HM3.out, HR4.out, hB3⟩
        case measure => simp [intOf]; omega
    · have hkk : k = len := by omega
      subst hkk
      obtain ⟨va, vl, vc, hv⟩ := own_slice hrow
      have HR : Hid (wa.ownsRow (w.heap.size + 1) 9 1 _ (dist ss k).length ((dist ss k).map Value.string)) := hrow
      clear hrow hmap
      go_wp2
      go_ret
      refine ⟨_, rfl, hBr, ?_⟩
      obtain ⟨h1, h2⟩ := HR.out
      refine ⟨h1, ?_⟩
      rcases h2 with h2 | ⟨g, cap, cur, e1, e2, r⟩
      · exact .inl h2
      · exact .inr ⟨g, cap, cur, e1, by omega, r⟩

set_option maxHeartbeats 1000000 in
theorem allsame_yes (b o len cap0 : Nat) (ss : Nat → ByteArray) (w : World) (hc : ∀ i, i < len → w.cell? ⟨b, o + i, none⟩ = some (.string (ss i))) (hl : len ≤ 1024) (hs : same ss len) :
    Calls Yba.prog 6 #[.slice (some ⟨b, o, none⟩) len cap0] w fun e w' => e = .returned (.bool true) ∧ ∃ n, w' = w.drewN n := by
  have HC : Hid (∀ i, i < len → w.cell? ⟨b, o + i, none⟩ = some (.string (ss i))) := hc
  have HS : Hid (same ss len) := hs
  clear hc hs
  go_enter Yba.func6, Yba.ntmps6
  go_wp2
  go_loopw [3] (fun i wr => ∃ k : Nat, 1 ≤ k ∧ i = .int .i64 k ∧ ∃ n, wr = w.drewN n) (fun i _ => len - (intOf i).toNat)
  case atStart => exact ⟨1, by omega, rfl, 0, rfl⟩
  case round =>
    obtain ⟨k, hk, rfl, nq, hw⟩ := hrel
    by_cases hkl : k < len
    · have c1 : wr.cell? ⟨b, o + k, none⟩ = some (.string (ss 0)) := by rw [hw, ← HS.out k hkl]; exact HC.out k hkl
      have c0 : wr.cell? ⟨b, o, none⟩ = some (.string (ss 0)) := by rw [hw]; exact HC.out 0 (by omega)
      have HW : Hid (wr = w.drewN nq) := hw
      have hkl' : (k : Int) < len := by omega
      have h0 : (0 : Int) < len := by omega
      clear hw
      go_wp2
      go_quiet (fail)
      go_wp2
      go_roundw
      case rel => exact ⟨k + 1, by omega, by go_num, _, by rw [HW.out, World.drewN_drewN]⟩
      case measure => simp [intOf]; omega
    · go_wp2
      go_ret
      exact ⟨rfl, nq, rfl⟩

set_option maxHeartbeats 1000000 in
theorem allsame_no (b o len cap0 : Nat) (ss : Nat → ByteArray) (w : World) (hc : ∀ i, i < len → w.cell? ⟨b, o + i, none⟩ = some (.string (ss i))) (hl : len ≤ 1024) (hs : ¬ same ss len) :
    Calls Yba.prog 6 #[.slice (some ⟨b, o, none⟩) len cap0] w fun e w' => e = .returned (.bool false) ∧ ∃ n, w' = w.drewN n := by
  have HC : Hid (∀ i, i < len → w.cell? ⟨b, o + i, none⟩ = some (.string (ss i))) := hc
  have HS : Hid (¬ same ss len) := hs
  clear hc hs
  go_enter Yba.func6, Yba.ntmps6
  go_wp2
  go_loopw [3] (fun i wr => ∃ k : Nat, 1 ≤ k ∧ i = .int .i64 k ∧ Hid (∀ i, i < k → i < len → ss i = ss 0) ∧ ∃ n, wr = w.drewN n) (fun i _ => len - (intOf i).toNat)
  case atStart => exact ⟨1, by omega, rfl, (fun i hi _ => by rw [show i = 0 by omega]), 0, rfl⟩
  case round =>
    obtain ⟨k, hk, rfl, HK, nq, hw⟩ := hrel
    by_cases hkl : k < len
    · have c1 : wr.cell? ⟨b, o + k, none⟩ = some (.string (ss k)) := by rw [hw]; exact HC.out k hkl
      have c0 : wr.cell? ⟨b, o, none⟩ = some (.string (ss 0)) := by rw [hw]; exact HC.out 0 (by omega)
      have HW : Hid (wr = w.drewN nq) := hw
      have hkl' : (k : Int) < len := by omega
      have h0 : (0 : Int) < len := by omega
      clear hw
      by_cases he : ss k = ss 0
      · rw [he] at c1
        have HE : Hid (ss k = ss 0) := he
        clear he
        go_wp2
        go_quiet (fail)
        go_wp2
        go_roundw
        case rel => exact ⟨k + 1, by omega, by go_num, (fun i hi hi2 => by
          rcases Nat.lt_or_ge i k with g | g
          · exact HK.out i g hi2
          · rw [show i = k by omega]; exact HE.out), _, by rw [HW.out, World.drewN_drewN]⟩
        case measure => simp [intOf]; omega
      · have hne : ((ss k).toList == (ss 0).toList) = false := by
          rw [beq_eq_false_iff_ne, ByteArray.toList_eq, ByteArray.toList_eq]
          exact fun e => he (bytes_ext e)
        clear he
        go_wp2
        go_quiet (fail)
        go_wp2
        go_ret
        exact ⟨rfl, _, by rw [HW.out, World.drewN_drewN]⟩
    · exact absurd (fun i hi => HK.out i (by omega) hi) HS.out

set_option maxHeartbeats 1000000 in
theorem only_no (a0 : Option Addr) (len cap0 : Nat) (ss : Nat → ByteArray) (w : World) (hin : InSs w a0 len ss) (hl : len ≤ 1024) (hs : ¬ (0 < len ∧ same ss len)) :
    Calls Yba.prog 5 #[.slice a0 len cap0] w fun e w' => e = .returned (.slice none 0 0) ∧ Below w.heap.size w w' := by
  have hd := dist_other hs
  have hdl := dist_le ss len
  go_enter Yba.func5, Yba.ntmps5
  go_wp2_with fail
  refine (distinct_c a0 len cap0 ss w hin hl).mono ?_
  rintro e w1 ⟨v, rfl, hB, hrow⟩
  obtain ⟨va, vc, hv⟩ := own_len hrow
  rw [hv]
  clear hv hrow
  generalize (dist ss len).length = n at hd hdl ⊢
  have t1 : ((n : Int) != 1) = true := by rw [bne_iff_ne]; omega
  clear hd hin
  go_wp2
  go_ret
  exact ⟨rfl, hB⟩

theorem bytes_back (w W : World) (s : ByteArray) (cap cc : Nat) (fr : Nat × Nat) (hW : ∀ j, W.cell? ⟨w.heap.size, j, none⟩ = (w.alloc (.cells (bytesRow s cap) 5 fr)).cell? ⟨w.heap.size, j, none⟩) :
    (convert 23 9 (.slice (some ⟨w.heap.size, 0, none⟩) s.size cc)).run Yba.prog W = .ok (.string s) W := by
  have hl : s.data.toList.length = s.size := by simp
  have h := run_convert_bytes_back (P := Yba.prog) W 23 9 5 ⟨w.heap.size, 0, none⟩ cc s.data.toList Yba.underlying23 Yba.underlying5 Yba.underlying9 (fun j hj => by
    rw [Go.WideShapes.add_plain, Nat.zero_add, hW j, World.cell?_alloc_mark]
    have hj' : j < s.data.size := by simpa using hj
    have hj2 : j < s.size := hj'
    simp only [bytesRow, Array.getElem?_append, Array.size_map]
    rw [if_pos hj', Array.getElem?_map]
    simp [hj2])
  rw [hl] at h
  rw [h]

set_option maxHeartbeats 1000000 in
theorem only_yes (a0 : Option Addr) (len cap0 : Nat) (ss : Nat → ByteArray) (w : World) (hin : InSs w a0 len ss) (hl : len ≤ 1024) (hp : 0 < len) (hs : same ss len) :
    Calls Yba.prog 5 #[.slice a0 len cap0] w fun e w' => Below w.heap.size w w' ∧ ∃ a c, e = .returned (.slice (some a) (ss 0).size c) ∧ ∀ n, (convert 23 9 (.slice (some a) (ss 0).size c)).run Yba.prog (w'.drewN n) = .ok (.string (ss 0)) (w'.drewN n) := by
  have hd := dist_same hp hs
  go_enter Yba.func5, Yba.ntmps5
  go_wp2_with fail
  refine (distinct_c a0 len cap0 ss w hin hl).mono ?_
  rintro e w1 ⟨v, rfl, hB, hrow⟩
  rw [hd] at hrow
  obtain ⟨g, c, hv, hc0⟩ := own_at (k := 0) (u := .string (ss 0)) hrow (by simp)
  rw [hv]
  simp only [List.length_singleton]
  have hcv := fun (w : World) => run_bytes_of_string (P := Yba.prog) w 9 23 5 (ss 0) Yba.underlying9 Yba.underlying23 Yba.underlying5
  have HCV : Hid (∀ w : World, (convert 9 23 (.string (ss 0))).run Yba.prog w = _) := hcv
  clear hv hrow hd hin hs
  go_wp2
  go_ret
  refine ⟨(hB.alloc hB.size _).drew, _, _, rfl, fun n => ?_⟩
  exact bytes_back w1 _ (ss 0) _ _ _ (fun j => rfl)
end Go.Proofs.Ybulkhds
