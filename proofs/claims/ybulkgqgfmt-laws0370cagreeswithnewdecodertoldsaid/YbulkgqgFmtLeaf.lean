/-
  THE LEAVES: Len, plural, fmt.Errorf, RefuseWideChars, NewDecoder, Order, errsame: each by its contract.
-/
import Derived.Test.YbulkgqgFmtFacts
import Derived.WalkKit
import Derived.WalkSpells
import Derived.WalkLawsBesides
import Derived.Deep.QuietTactic
import Derived.BigQuiet
namespace Go.Proofs.YbulkgqgFmt
open Go.RowKit Go.Extern.Stop Go.Stop Go.Extern

set_option maxHeartbeats 400000 in
theorem len_c (B : Nat) (a : Option Addr) (len cap : Nat) (off : Int) (w : World) (h0 : w.cell? ⟨B, 0, none⟩ = some (.slice a len cap)) (h1 : w.cell? ⟨B, 1, none⟩ = some (.int .i64 off))
    (hl : (len : Int) ≤ 1024) (ho : 0 ≤ off) (ho2 : off ≤ 1024) :
    Calls Ybaf.prog 13 #[.pointer (some ⟨B, 0, none⟩)] w fun e w' => e = .returned (.int .i64 ((len : Int) - off)) ∧ ∃ n, w' = w.drewN n := by
  go_enter Ybaf.func13, Ybaf.ntmps13
  go_wp2
  go_quiet (fail)
  go_wp2
  go_ret
  exact ⟨rfl, _, rfl⟩

set_option maxHeartbeats 400000 in
theorem plural_c (F : Interp) (n : Int) (u : ByteArray) (w : World) (hF : F.answers w.tape) (hu : u.size ≤ 16) :
    Calls Ybaf.prog 15 #[.int .u64 n, .string u] w fun e w' => ∃ s, e = .returned (.string s) ∧ Below w.heap.size w w' := by
  have hF' := answers_open hF
  go_enter Ybaf.func15, Ybaf.ntmps15
  go_wp2
  all_goals go_ret
  · exact ⟨_, rfl, Below.refl _ _⟩
  · exact ⟨_, rfl, ((Below.refl _ _).alloc (Nat.le_refl _) _).drew⟩

set_option maxHeartbeats 400000 in
theorem errorf_c (F : Interp) (n off : Int) (s : ByteArray) (blk : Nat) (w : World) (hF : F.answers w.tape)
    (hc0 : w.cell? ⟨blk, 0, none⟩ = some (.iface 3 (.int .i64 n))) (hc1 : w.cell? ⟨blk, 1, none⟩ = some (.iface 3 (.int .i64 off))) (hc2 : w.cell? ⟨blk, 2, none⟩ = some (.iface 9 (.string s))) :
    Calls Ybaf.prog 14 #[.string ⟨#[99, 97, 110, 110, 111, 116, 32, 115, 107, 105, 112, 32, 37, 100, 32, 111, 99, 116, 101, 116, 115, 32, 97, 116, 32, 111, 102, 102, 115, 101, 116, 32, 37, 100, 44, 32, 37, 115, 32, 108, 101, 102, 116]⟩, .slice (some ⟨blk, 0, none⟩) 3 3] w fun e w' =>
      (∃ p, e = .returned (.iface 63 (.pointer (some p)))) ∧ Below w.heap.size w w' := by
  have hF' := answers_open hF
  go_enter Ybaf.func14, Ybaf.ntmps14
  go_wp2
  go_ret
  exact ⟨⟨_, rfl⟩, ((Below.refl _ _).alloc (Nat.le_refl _) _).drew⟩

set_option maxHeartbeats 400000 in
theorem refuse_c (B : Nat) (v : Value) (w : World) (h9 : w.cell? ⟨B, 9, none⟩ = some v) (hf : w.frozen? ⟨B, 9, none⟩ = false) :
    Calls Ybaf.prog 9 #[.pointer (some ⟨B, 0, none⟩)] w fun e w' => e = .returned (.tuple #[]) ∧ w' = w.setCell ⟨B, 9, none⟩ (.bool true) := by
  go_enter Ybaf.func9, Ybaf.ntmps9
  go_wp2
  go_end0
  exact ⟨rfl, rfl⟩

set_option maxHeartbeats 400000 in
theorem newDecoder_c (a : Option Addr) (len cap : Nat) (t : TypeId) (v : Value) (w : World) :
    Calls Ybaf.prog 6 #[.slice a len cap, .iface t v] w fun e w' => e = .returned (.pointer (some ⟨w.heap.size, 0, none⟩)) ∧ w' = w.alloc (.cells #[.slice a len cap, .int .i64 0, .iface t v, .int .i64 0, .int .i64 0, .slice none 0 0, .int .i64 0, .bool false, .bool false, .bool false] 49) := by
  go_enter Ybaf.func6, Ybaf.ntmps6
  go_wp2
  go_ret
  exact ⟨rfl, rfl⟩

set_option maxHeartbeats 400000 in
theorem order_c (x0 x1 x2 x3 x4 : Int) (w : World) :
    Calls Ybaf.prog 7 #[.agg #[.int .u8 x0, .int .u8 x1, .int .u8 x2, .int .u8 x3, .int .u32 x4]] w fun e w' => ∃ t, e = .returned (.iface t (.agg #[])) ∧ w' = w.alloc (.cells #[.int .u8 x0, .int .u8 x1, .int .u8 x2, .int .u8 x3, .int .u32 x4] 30) := by
  go_enter Ybaf.func7, Ybaf.ntmps7
  go_wp2
  all_goals go_ret
  all_goals exact ⟨_, rfl, rfl⟩

set_option maxHeartbeats 400000 in
theorem errsame_c (w : World) (p q : Addr) :
    Calls Ybaf.prog 10 #[.iface 63 (.pointer (some p)), .iface 63 (.pointer (some q))] w fun e w' => e = .returned (.bool true) ∧ ∃ n, w' = w.drewN n := by
  go_enter Ybaf.func10, Ybaf.ntmps10
  go_wp2
  go_quiet (fail)
  go_wp2
  go_ret
  exact ⟨rfl, _, rfl⟩

set_option maxHeartbeats 400000 in
theorem errsame_n (w : World) :
    Calls Ybaf.prog 10 #[.nilIface, .nilIface] w fun e w' => e = .returned (.bool true) ∧ ∃ n, w' = w.drewN n := by
  go_enter Ybaf.func10, Ybaf.ntmps10
  go_wp2
  go_quiet (fail)
  go_wp2
  go_ret
  exact ⟨rfl, _, rfl⟩
end Go.Proofs.YbulkgqgFmt
