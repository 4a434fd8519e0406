import Derived.Test.YbulkabaqBa
namespace Go.Proofs.Ybulkabaq
open Go.RowKit
attribute [local go_sem] eql26 neq26

set_option maxRecDepth 100000 in
set_option maxHeartbeats 400000 in
theorem round_zero (w : World) (b : Nat) (h17 : w.cell? ⟨b, 17, none⟩ = some (.int .i64 0)) :
    Calls Yba.prog 13 #[.pointer (some ⟨b, 0, none⟩)] w fun e w' => e = .returned (.tuple #[.int .i64 0, .slice none 0 0, .bool false]) ∧ w' = w := by
  go_enter Yba.func13, Yba.ntmps13
  go_wp2
  go_ret3
  exact ⟨rfl, rfl⟩

set_option maxRecDepth 100000 in
set_option maxHeartbeats 400000 in
theorem round_pos (w : World) (b : Nat) (k : Int) (hk : (k == 0) = false) (h0 : w.cell? ⟨b, 0, none⟩ = some (.int .i64 0)) (h1 : w.cell? ⟨b, 1, none⟩ = some (.int .i64 0)) (h2 : w.cell? ⟨b, 2, none⟩ = some (.slice none 0 0)) (h3 : w.cell? ⟨b, 3, none⟩ = some (.slice none 0 0)) (h4 : w.cell? ⟨b, 4, none⟩ = some (.int .i64 0))
    (h17 : w.cell? ⟨b, 17, none⟩ = some (.int .i64 k)) :
    Calls Yba.prog 13 #[.pointer (some ⟨b, 0, none⟩)] w fun e w' => e = .returned (.tuple #[.int .i64 k, .slice none 0 0, .bool true]) ∧ w' = (w.alloc (.cells #[.int .i64 0, .int .i64 0, .slice none 0 0, .slice none 0 0] 40)).drew := by
  have hb := World.block_lt_of_cell? _ _ h17
  have ha : ∀ o, (w.alloc o).cell? ⟨b, 17, none⟩ = some (.int .i64 k) := fun o => (World.cell?_alloc_lt _ _ _ (by exact hb)).trans h17
  go_enter Yba.func13, Yba.ntmps13
  go_wp2_with (go_at_call 20; refine (follows_any _ b h0 h1 h2 h3 h4).mono ?_; rintro e w' ⟨rfl, rfl⟩)
  go_ret3
  exact ⟨rfl, rfl⟩

set_option maxRecDepth 100000 in
set_option maxHeartbeats 400000 in
theorem outcome_any (w : World) (b : Nat) (h0 : w.cell? ⟨b, 152, none⟩ = some (.bool false)) (h1 : w.cell? ⟨b, 153, none⟩ = some (.slice none 0 0)) (h2 : w.cell? ⟨b, 154, none⟩ = some (.int .i64 0)) :
    Calls Yba.prog 19 #[.pointer (some ⟨b, 0, none⟩)] w fun e w' => e = .returned (.agg #[.bool false, .slice none 0 0, .int .i64 0]) ∧ w' = w.alloc (.cells #[.bool false, .slice none 0 0, .int .i64 0] 120) := by
  have hb := World.block_lt_of_cell? _ _ h0
  have h0a : ∀ o, (w.alloc o).cell? ⟨b, 152, none⟩ = some (.bool false) := fun o => (World.cell?_alloc_lt _ _ _ (by exact hb)).trans h0
  have h1a : ∀ o, (w.alloc o).cell? ⟨b, 153, none⟩ = some (.slice none 0 0) := fun o => (World.cell?_alloc_lt _ _ _ (by exact hb)).trans h1
  have h2a : ∀ o, (w.alloc o).cell? ⟨b, 154, none⟩ = some (.int .i64 0) := fun o => (World.cell?_alloc_lt _ _ _ (by exact hb)).trans h2
  go_enter Yba.func19, Yba.ntmps19
  go_wp2
  exact bodyPost_ret (v := .agg #[.bool false, .slice none 0 0, .int .i64 0]) (by simp [results, Yba.results19, go_sem]) rfl ⟨rfl, rfl⟩

end Go.Proofs.Ybulkabaq
