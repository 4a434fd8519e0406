import Derived.Test.YbulkabaqRows
import Derived.WalkKit
import Derived.WalkSpells
import Derived.Test.YbulkabaqFr
import Derived.BigQuiet
import Derived.Deep.QuietTactic
import Derived.Deep.RegionWith
namespace Go.Proofs.Ybulkabaq
open Go.RowKit

theorem eql26 (w : World) (a : Option Addr) (n c : Nat) : (binOp .eql 26 (.slice a n c) (.slice none 0 0)).run Yba.prog w = .ok (.bool a.isNone) w := Lib.run_eql_slice_nil w 26 _ a n c 0 0 Yba.underlying26
theorem neq26 (w : World) (a : Option Addr) (n c : Nat) : (binOp .neq 26 (.slice a n c) (.slice none 0 0)).run Yba.prog w = .ok (.bool (!a.isNone)) w := run_neq_slice_nil_any w 26 _ a n c 0 0 Yba.underlying26
attribute [local go_sem] eql26 neq26

set_option maxRecDepth 100000 in
set_option maxHeartbeats 400000 in
theorem seated_any (w : World) :
    Calls Yba.prog 32 #[.agg #[.int .i64 0, .int .i64 0, .slice none 0 0, .slice none 0 0], .int .i64 0] w fun e w' => e = .returned (.bool false) ∧ w' = w.alloc (.cells #[.int .i64 0, .int .i64 0, .slice none 0 0, .slice none 0 0] 40) := by
  go_enter Yba.func32, Yba.ntmps32
  go_wp2
  go_ret
  exact ⟨rfl, rfl⟩


set_option maxRecDepth 100000 in
set_option maxHeartbeats 400000 in
theorem follows_any (w : World) (b : Nat) (h0 : w.cell? ⟨b, 0, none⟩ = some (.int .i64 0)) (h1 : w.cell? ⟨b, 1, none⟩ = some (.int .i64 0)) (h2 : w.cell? ⟨b, 2, none⟩ = some (.slice none 0 0)) (h3 : w.cell? ⟨b, 3, none⟩ = some (.slice none 0 0)) (h4 : w.cell? ⟨b, 4, none⟩ = some (.int .i64 0)) :
    Calls Yba.prog 20 #[.pointer (some ⟨b, 0, none⟩)] w fun e w' => e = .returned (.bool true) ∧ w' = (w.alloc (.cells #[.int .i64 0, .int .i64 0, .slice none 0 0, .slice none 0 0] 40)).drew := by
  go_enter Yba.func20, Yba.ntmps20
  go_wp2
  go_region_with (go_at_call 32; refine (seated_any _).mono ?_; rintro e w' ⟨rfl, rfl⟩)
  all_goals go_wp2
  all_goals go_ret
  all_goals exact ⟨rfl, rfl⟩

set_option maxRecDepth 100000 in
set_option maxHeartbeats 400000 in
theorem propose_any (w : World) (b : Nat) (h0 : w.cell? ⟨b, 0, none⟩ = some (.int .i64 0)) (h1 : w.cell? ⟨b, 1, none⟩ = some (.int .i64 0)) (h2 : w.cell? ⟨b, 2, none⟩ = some (.slice none 0 0)) (h3 : w.cell? ⟨b, 3, none⟩ = some (.slice none 0 0)) (h4 : w.cell? ⟨b, 4, none⟩ = some (.int .i64 0)) :
    Calls Yba.prog 17 #[.pointer (some ⟨b, 0, none⟩)] w fun e w' => e = .returned (.tuple #[]) ∧ w' = (w.alloc (.cells #[.int .i64 0, .int .i64 0, .slice none 0 0, .slice none 0 0] 40)).drew := by
  go_enter Yba.func17, Yba.ntmps17
  go_wp2_with (go_at_call 20; refine (follows_any _ b h0 h1 h2 h3 h4).mono ?_; rintro e w' ⟨rfl, rfl⟩)
  first | go_end0 | refine bodyPost_ret (results_none rfl _ _ _) rfl ?_
  exact ⟨rfl, rfl⟩

set_option maxRecDepth 100000 in
set_option maxHeartbeats 400000 in
theorem settle_any (w : World) (b : Nat) (k : Nat) (hk : k ≤ 300) (h0 : w.cell? ⟨b, 0, none⟩ = some (.int .i64 0)) (h1 : w.cell? ⟨b, 1, none⟩ = some (.int .i64 0)) (h2 : w.cell? ⟨b, 2, none⟩ = some (.slice none 0 0)) (h3 : w.cell? ⟨b, 3, none⟩ = some (.slice none 0 0)) (h4 : w.cell? ⟨b, 4, none⟩ = some (.int .i64 0))
    (h17 : w.cell? ⟨b, 17, none⟩ = some (.int .i64 k)) (hf : w.frozen? ⟨b, 17, none⟩ = false) :
    Calls Yba.prog 10 #[.pointer (some ⟨b, 0, none⟩), .int .i64 k, .slice none 0 0] w fun e w' => e = .returned (.tuple #[]) ∧ w' = ((w.setCell ⟨b, 17, none⟩ (.int .i64 (k + 1))).alloc (.cells #[.int .i64 0, .int .i64 0, .slice none 0 0, .slice none 0 0] 40)).drew := by
  have hs0 := World.cell?_setCell_other w ⟨b, 17, none⟩ ⟨b, 0, none⟩ (.int .i64 (k + 1)) (by simp)
  have hs1 := World.cell?_setCell_other w ⟨b, 17, none⟩ ⟨b, 1, none⟩ (.int .i64 (k + 1)) (by simp)
  have hs2 := World.cell?_setCell_other w ⟨b, 17, none⟩ ⟨b, 2, none⟩ (.int .i64 (k + 1)) (by simp)
  have hs3 := World.cell?_setCell_other w ⟨b, 17, none⟩ ⟨b, 3, none⟩ (.int .i64 (k + 1)) (by simp)
  have hs4 := World.cell?_setCell_other w ⟨b, 17, none⟩ ⟨b, 4, none⟩ (.int .i64 (k + 1)) (by simp)
  have H := hid (propose_any (w.setCell ⟨b, 17, none⟩ (.int .i64 (k + 1))) b (hs0.trans h0) (hs1.trans h1) (hs2.trans h2) (hs3.trans h3) (hs4.trans h4))
  clear hs0 hs1 hs2 hs3 hs4
  go_enter Yba.func10, Yba.ntmps10
  go_wp2_with (go_at_call 17; refine H.out.mono ?_; rintro e w' ⟨rfl, rfl⟩)
  first | go_end0 | refine bodyPost_ret (results_none rfl _ _ _) rfl ?_
  exact ⟨rfl, rfl⟩

end Go.Proofs.Ybulkabaq
