/-
  OCTETS IN MEMORY; append of whatever octets onto a row of the call's own; bytes.Equal of slices that read alike; the plain sums.
-/
import Derived.Test.YbulkgriLog
import Derived.Laws.BytesArg
import Derived.Deep.Upon
namespace Go.Proofs.Ybulkgri
open Go.RowKit

/-- The value v is a slice of octets that reads zs. -/
def RB (w : World) (v : Value) (zs : List Int) : Prop :=
  ∃ a c, v = .slice a zs.length c ∧ (0 < zs.length → ∃ b o, a = some ⟨b, o, none⟩ ∧ ∀ j, j < zs.length → w.cell? ⟨b, o + j, none⟩ = some (.int .u8 (zs.getD j 0)))

theorem cell_lt {w : World} {a : Addr} {v : Value} (h : w.cell? a = some v) : a.block < w.heap.size := by
  rcases Nat.lt_or_ge a.block w.heap.size with g | g
  · exact g
  · simp [World.cell?, Array.getElem?_eq_none g] at h

theorem RB.keep {w w' : World} {v : Value} {zs : List Int} (h : RB w v zs) (hb : Below w.heap.size w w') : RB w' v zs := by
  obtain ⟨a, c, rfl, h⟩ := h
  refine ⟨a, c, rfl, fun hp => ?_⟩
  obtain ⟨b, o, rfl, hc⟩ := h hp
  exact ⟨b, o, rfl, fun j hj => (hb.cell (cell_lt (hc j hj))).trans (hc j hj)⟩

theorem own_RB {w : World} {base n : Nat} {v : Value} {zs : List Int} (h : w.ownsRow base 5 1 v n (zs.map (Value.int .u8))) : RB w v zs ∧ zs.length = n := by
  obtain ⟨hl, h⟩ := h
  simp at hl
  refine ⟨?_, hl⟩
  rcases h with ⟨rfl, rfl⟩ | ⟨g, cap, cur, rfl, hg, hh, hnc, hcm, hcs, htk⟩
  · have : zs = [] := List.eq_nil_of_length_eq_zero hl
    subst this
    exact ⟨none, 0, rfl, fun hp => absurd hp (by simp)⟩
  · refine ⟨some ⟨g, 0, none⟩, cap, by rw [hl], fun _ => ⟨g, 0, rfl, fun j hj => ?_⟩⟩
    rw [cell_of hh]
    have h1 : (cur.toList.take (n * 1))[j]? = (zs.map (Value.int .u8))[j]? := by rw [htk]
    rw [List.getElem?_take, if_pos (by omega), List.getElem?_map] at h1
    simp at h1 ⊢
    rw [h1]
    simp [hj]

theorem u8_info : ∃ i : TypeInfo, Yba.prog.info? 5 = some i ∧ i.zero = some (.int .u8 0) ∧ i.size = 1 ∧ i.bytes = 1 := by
  obtain ⟨i, h1, h2, h3, h4⟩ := info_parts Yba.info5
  exact ⟨i, h1, h2, h3, h4⟩

/-- 'append(row, octets...)', the octets wherever they lie, nil too. -/
theorem wpList_append_bytes (w : World) {ops : Array Oper} {rest : List Oper} {o : Oper} {a : Act} {Q : Exit → Act → World → Prop} (hgd : o.guard = none) (s x : Operand)
    (ho : o.op = .call { callee := .builtin .append, args := #[s, x], argTypes := #[23, 23] }) (base : Nat) (v : Value) (n : Nat) (xs : List Value) (hs : a.eval s = v) (hown : w.ownsRow base 5 1 v n xs)
    (u : Value) (zs : List Int) (hx : a.eval x = u) (hu : RB w u zs) (h63 : n + zs.length ≤ 1000000000) (hbase : base ≤ w.heap.size)
    (h : ∀ v' w', w'.ownsRow base 5 1 v' (n + zs.length) (xs ++ zs.map (Value.int .u8)) → w.grownBy w' v.ownBlock → (v' = .slice none 0 0 ↔ v = .slice none 0 0 ∧ zs.length = 0) → wpList Yba.prog ops Q rest (a.put o.dst v') w') : wpList Yba.prog ops Q (o :: rest) a w := by
  obtain ⟨i, hi, hz0, hz1, hz2⟩ := u8_info
  obtain ⟨ad, c, rfl, hc⟩ := hu
  cases ad with
  | some ad =>
    refine wpList_append_own (P := Yba.prog) w hgd s x 23 ho base 5 i (.int .u8 0) 1 1 Yba.underlying23 hi hz0 hz1 hz2 rfl (by decide) v n xs hs hown ad zs.length c (zs.map (Value.int .u8)) hx (by simp) ?_ (fun y hy => by obtain ⟨z, _, rfl⟩ := List.mem_map.1 hy; rfl) (by unfold maxLen; omega) (by omega) hbase h
    intro j y hj
    rw [List.getElem?_map] at hj
    obtain ⟨z, hz, rfl⟩ := Option.map_eq_some_iff.1 hj
    have hjl : j < zs.length := (List.getElem?_eq_some_iff.1 hz).1
    obtain ⟨b, o', e, hcell⟩ := hc (by omega)
    cases e
    have := hcell j hjl
    rw [show zs.getD j 0 = z by simp [List.getD, hz]] at this
    rw [Go.WideShapes.add_plain]
    exact this
  | none =>
    have hz : zs = [] := by
      cases zs with
      | nil => rfl
      | cons z zs => obtain ⟨b, o', e, _⟩ := hc (by simp); cases e
    subst hz
    have hlc : ∃ va vc, v = .slice va n vc ∧ n ≤ vc := by
      rcases hown.2 with ⟨rfl, rfl⟩ | ⟨g, cap, cur, rfl, _, _, hnc, _⟩
      · exact ⟨none, 0, rfl, Nat.le_refl _⟩
      · exact ⟨_, cap, rfl, hnc⟩
    obtain ⟨va, vc, rfl, hnc⟩ := hlc
    have hrun := run_append_nothing (P := Yba.prog) w 23 23 o.type 5 i Yba.underlying23 hi va n vc hnc (.slice none 0 c) (Src.ofNil w Yba.underlying23 c)
    have hfin := h (.slice va n vc) w (by simpa using hown) (World.grownBy.refl _ _) ⟨fun e => ⟨e, rfl⟩, fun e => e.1⟩
    refine wpList_plain hgd fun K hK => ?_
    unfold Oper.wp execOp
    simp only [ho, resolve, invoke, builtin, Sem.run_bind, Sem.run_pure, Result.andThen_ok, List.map_toArray, List.map_cons, List.map_nil, hs, hx, List.length_nil, hrun]
    exact hK _ _ hfin

/-- What 'string(v)' gives. -/
theorem RB.convert {w : World} {v : Value} {zs : List Int} (h : RB w v zs) : (convert 23 9 v).run Yba.prog w = .ok (.string (strOfNums zs)) w := by
  obtain ⟨a, c, rfl, hc⟩ := h
  rcases Nat.eq_zero_or_pos zs.length with h0 | hp
  · have : zs = [] := List.eq_nil_of_length_eq_zero h0
    subst this
    cases a with
    | none => exact run_convert_bytes_nil w 23 5 Yba.underlying23 Yba.underlying5 0 c 9 Yba.underlying9
    | some ad =>
      simp only [List.length_nil]
      rw [run_convert_bytes_string w 23 9 5 (some ad) 0 c Yba.underlying23 Yba.underlying5 Yba.underlying9]
      have hl : (loadCells ad 0).run Yba.prog w = .ok (([] : List Int).map (Value.int .u8)).toArray w := run_loadCells_list (P := Yba.prog) w ad [] (fun j v hj => by simp at hj)
      rw [run_bytesToString w ad 0 c [] hl]
      rfl
  · obtain ⟨b, o, rfl, hcell⟩ := hc hp
    exact run_convert_bytes_arg w 23 5 Yba.underlying23 Yba.underlying5 b o zs.length c zs rfl hcell 9 Yba.underlying9

set_option maxHeartbeats 400000 in
theorem equal_c (v1 v2 : Value) (zs : List Int) (w : World) (h1 : RB w v1 zs) (h2 : RB w v2 zs) :
    Calls Yba.prog 7 #[v1, v2] w fun e w' => e = .returned (.bool true) ∧ w' = w := by
  have e1 := h1.convert
  have e2 := h2.convert
  clear h1 h2
  generalize strOfNums zs = s at e1 e2
  go_enter Yba.func7, Yba.ntmps7
  go_wp2
  go_ret
  exact ⟨by simp, rfl⟩

/-! ### the plain sums -/
def sumL (bs : Nat → List Int) : Nat → Nat
  | 0 => 0
  | k + 1 => sumL bs k + (bs k).length
def catB (bs : Nat → List Int) : Nat → List Int
  | 0 => []
  | k + 1 => catB bs k ++ bs k
theorem catB_length (bs : Nat → List Int) : ∀ k, (catB bs k).length = sumL bs k
  | 0 => rfl
  | k + 1 => by simp [catB, sumL, catB_length bs k]
theorem sumL_mono (bs : Nat → List Int) {i k : Nat} (h : i ≤ k) : sumL bs i ≤ sumL bs k := by
  induction k with
  | zero => rw [show i = 0 by omega]; exact Nat.le_refl _
  | succ k ih =>
    rcases Nat.lt_or_ge i (k + 1) with g | g
    · have := ih (by omega); simp only [sumL]; omega
    · rw [show i = k + 1 by omega]; exact Nat.le_refl _

/-- How many pieces hold the start. -/
structure Held (bs : Nat → List Int) (off : Nat → Int) (len K : Nat) : Prop where
  ok : ∀ i, i < K → off i = sumL bs i
  le : K ≤ len
  stop : K = len ∨ off K ≠ sumL bs K
theorem Held.one {bs : Nat → List Int} {off : Nat → Int} {len K K' : Nat} (h : Held bs off len K) (h' : Held bs off len K') : K = K' := by
  rcases Nat.lt_trichotomy K K' with g | g | g
  · rcases h.stop with s | s
    · have := h'.le; omega
    · exact absurd (h'.ok K g) s
  · exact g
  · rcases h'.stop with s | s
    · have := h.le; omega
    · exact absurd (h.ok K' g) s
end Go.Proofs.Ybulkgri
