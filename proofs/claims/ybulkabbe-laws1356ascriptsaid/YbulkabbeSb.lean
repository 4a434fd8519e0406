import Derived.Test.YbulkabbeSa
namespace Go.Proofs.Ybulkabbe
open Go.RowKit
set_option linter.unusedVariables false
attribute [local go_sem] eql25

set_option maxRecDepth 100000 in
set_option maxHeartbeats 400000 in
theorem gaps_nil (w : World) : Calls Yba.prog 33 #[.slice none 0 0] w fun e w' => e = .returned (.int .i64 0) ∧ w' = w := by
  go_enter Yba.func33, Yba.ntmps33
  go_wp2
  refine wp_loop_rounds 1 ?_
  rw [rounds_succ]
  go_wp2
  go_ret
  exact ⟨rfl, rfl⟩

set_option maxRecDepth 100000 in
set_option maxHeartbeats 400000 in
theorem before_nil (w : World) (SB : Nat) (h4 : w.cell? ⟨SB, 4, none⟩ = some (.slice none 0 0)) (h5 : w.cell? ⟨SB, 5, none⟩ = some (.int .i64 0)) :
    Calls Yba.prog 21 #[.pointer (some ⟨SB, 4, none⟩), .int .i64 0] w fun e w' => e = .returned (.int .i64 0) ∧ ∃ q, w' = w.drewN q := by
  go_enter Yba.func21, Yba.ntmps21
  go_wp2
  go_quiet ((go_at_call 33; exact Calls.quiet_of_same (gaps_nil _)))
  go_wp2
  go_ret
  exact ⟨rfl, _, rfl⟩

set_option maxRecDepth 100000 in
set_option maxHeartbeats 400000 in
theorem cut_nil (w : World) (SB : Nat) (h4 : w.cell? ⟨SB, 4, none⟩ = some (.slice none 0 0)) (h5 : w.cell? ⟨SB, 5, none⟩ = some (.int .i64 0)) (f4 : w.frozen? ⟨SB, 4, none⟩ = false) (f5 : w.frozen? ⟨SB, 5, none⟩ = false) :
    Calls Yba.prog 17 #[.pointer (some ⟨SB, 4, none⟩), .int .i64 0] w fun e w' => e = .returned (.tuple #[]) ∧ ∃ q, w' = ((w.drewN q).setCell ⟨SB, 5, none⟩ (.int .i64 0)).setCell ⟨SB, 4, none⟩ (.slice none 0 0) := by
  go_enter Yba.func17, Yba.ntmps17
  go_wp2_with (go_at_call 21; refine (before_nil _ SB h4 h5).mono ?_; rintro e w' ⟨rfl, q, rfl⟩)
  go_end0
  exact ⟨rfl, _, rfl⟩

set_option maxRecDepth 100000 in
set_option maxHeartbeats 400000 in
theorem forget_any (w : World) (SB : Nat) (a : Option Addr) (n c : Nat) (h6 : w.cell? ⟨SB, 6, none⟩ = some (.slice a n c)) (f6 : w.frozen? ⟨SB, 6, none⟩ = false) :
    Calls Yba.prog 31 #[.pointer (some ⟨SB, 4, none⟩)] w fun e w' => e = .returned (.tuple #[]) ∧ w' = w.setCell ⟨SB, 6, none⟩ (.slice a 0 c) := by
  go_enter Yba.func31, Yba.ntmps31
  go_wp2
  go_end0
  exact ⟨rfl, rfl⟩

set_option maxRecDepth 100000 in
set_option maxHeartbeats 400000 in
theorem forgetEnds_any (w : World) (SB : Nat) (lex whole items last trials arith : Value) (a a' : Option Addr) (n c n' c' : Nat) (looks : Int) (h : Lx w SB lex whole items last (.slice a n c) trials arith (.slice a' n' c') (.int .i64 looks)) :
    Calls Yba.prog 19 #[.pointer (some ⟨SB, 0, none⟩)] w fun e w' => e = .returned (.tuple #[]) ∧ Lx w' SB lex whole items last (.slice a 0 c) trials arith (.slice a' 0 c') (.int .i64 (wrap64 (looks + 1))) ∧ Fr (· = SB) w w' := by
  have h10 := h.c10
  have h18 := h.c1803
  have h6 := h.c6
  have f10 := h.free 10
  have f18 := h.free 1803
  have f6 := h.free 6
  have h18' : (w.setCell ⟨SB, 10, none⟩ (.slice a' 0 c')).cell? ⟨SB, 1803, none⟩ = some (.int .i64 looks) := (h.set10 _).c1803
  have HL := hid ((h.set10 (.slice a' 0 c')).set1803 (.int .i64 (wrap64 (looks + 1))))
  clear h
  go_enter Yba.func19, Yba.ntmps19
  go_wp2_with (go_at_call 31; refine (forget_any _ SB a n c (by exact HL.out.c6) (by exact HL.out.free 6)).mono ?_; rintro e w' ⟨rfl, rfl⟩)
  go_end0
  exact ⟨rfl, HL.out.set6 _, ((Lx.frS w SB 10 _).trans (Lx.frS _ SB 1803 _)).trans (Lx.frS _ SB 6 _)⟩

def byteOf (h : Nat → Bool) (j : Nat) : Int := cond (h (4 * j)) 3 0 + cond (h (4 * j + 1)) 12 0 + cond (h (4 * j + 2)) 48 0 + cond (h (4 * j + 3)) 192 0

theorem or12 : bits BinOp.or IntKind.u8 1 2 = 3 := by decide +kernel

set_option maxRecDepth 100000 in
set_option maxHeartbeats 400000 in
theorem decide_row (w : World) (SB AB p j n : Nat) (x r s mk : Int) (hp : p ≤ 1024) (hn : j < n) (hn2 : n ≤ 1000) (h9 : w.cell? ⟨SB, 9, none⟩ = some (.slice (some ⟨AB, 0, none⟩) n n)) (ha : w.cell? ⟨AB, j, none⟩ = some (.int .u8 x)) (fa : w.frozen? ⟨AB, j, none⟩ = false)
   (e3 : (p : Int).tdiv 4 = j) (e4 : (p : Int).tmod 4 = r) (e5 : IntKind.i64.wrap (j : Int) = j) (e6 : IntKind.i64.wrap (r * 2) = s) (hsh : ∀ w, (Op.shift BinOp.shl IntKind.u8 3 IntKind.i64 s).run Yba.prog w = .ok (.int .u8 mk) w) :
    Calls Yba.prog 18 #[.pointer (some ⟨SB, 0, none⟩), .int .i64 p, .bool true] w fun e w' => e = .returned (.tuple #[]) ∧ w' = (w.setCell ⟨AB, j, none⟩ (.int .u8 (bits BinOp.or IntKind.u8 x mk))).drew := by
  have hi : (j : Int) < (n : Int) := by omega
  have hi0 : (0 : Int) ≤ (j : Int) := by omega
  have ho := or12
  go_enter Yba.func18, Yba.ntmps18
  go_wp2
  go_big_region
  all_goals go_wp2
  all_goals go_end0
  all_goals exact ⟨rfl, rfl⟩

end Go.Proofs.Ybulkabbe
