import Derived.Test.YbulkabaqRows
import Derived.Test.YbulkabaqMp
import Derived.Defers
import Derived.Laws.LoneSync
namespace Go.Proofs.Ybulkabaq
open Go.RowKit
set_option linter.unusedVariables false

theorem disable (w : World) : (callFunc 22 #[]).run Yba.prog w = .ok (.value (.tuple #[])) w := run_call_mark0 Yba.func22 (by kernel_rfl) (by kernel_rfl) (by kernel_rfl) .disable (by kernel_rfl) w
theorem enable (w : World) : (callFunc 23 #[]).run Yba.prog w = .ok (.value (.tuple #[])) w := run_call_mark0 Yba.func23 (by kernel_rfl) (by kernel_rfl) (by kernel_rfl) .enable (by kernel_rfl) w
theorem acquire (a : Addr) (w : World) : (callFunc 25 #[.pointer (some a)]).run Yba.prog w = .ok (.value (.tuple #[])) w := run_call_marked Yba.func25 (by kernel_rfl) (by kernel_rfl) (by kernel_rfl) .acquire (by kernel_rfl) a w
theorem releaseMerge (a : Addr) (w : World) : (callFunc 26 #[.pointer (some a)]).run Yba.prog w = .ok (.value (.tuple #[])) w := run_call_marked Yba.func26 (by kernel_rfl) (by kernel_rfl) (by kernel_rfl) .releaseMerge (by kernel_rfl) a w

set_option maxRecDepth 100000 in
set_option maxHeartbeats 800000 in
theorem ilock_any (a : Addr) (w : World) (h0 : w.cell? a = some (.int .i32 0)) (f0 : w.frozen? a = false) :
    Calls Yba.prog 21 #[.pointer (some a)] w fun e w' => e = .returned (.tuple #[]) ∧ w' = w.setCell a (.int .i32 1) := by
  have hd := disable
  have he := enable
  have ha := acquire
  have hcas := run_call_cas_hit (P := Yba.prog) Yba.func24 (by kernel_rfl) (by kernel_rfl) (by kernel_rfl) .i32 (by kernel_rfl) (y := 1) h0 f0
  have h0' : (w.setCell a (.int .i32 1)).cell? a = some (.int .i32 1) := World.cell?_setCell_same _ _ _ h0
  have hcv := run_convert_to_unsafe (P := Yba.prog) (src := 144) (dst := 148) Yba.underlying144 Yba.underlying148 (by kernel_rfl) h0'
  go_enter Yba.func21, Yba.ntmps21
  go_wp2
  first | go_end0 | refine bodyPost_ret (results_none rfl _ _ _) rfl ?_
  exact ⟨rfl, rfl⟩

set_option maxRecDepth 100000 in
set_option maxHeartbeats 800000 in
theorem lock_any (a : Addr) (w : World) (h0 : w.cell? a = some (.int .i32 0)) (f0 : w.frozen? a = false) :
    Calls Yba.prog 14 #[.pointer (some a)] w fun e w' => e = .returned (.tuple #[]) ∧ w' = w.setCell a (.int .i32 1) := by
  go_enter Yba.func14, Yba.ntmps14
  go_wp2_with (go_at_call 21; refine (ilock_any a _ h0 f0).mono ?_; rintro e w' ⟨rfl, rfl⟩)
  first | go_end0 | refine bodyPost_ret (results_none rfl _ _ _) rfl ?_
  exact ⟨rfl, rfl⟩

set_option maxRecDepth 100000 in
set_option maxHeartbeats 800000 in
theorem itry_any (a : Addr) (w : World) (h0 : w.cell? a = some (.int .i32 0)) (f0 : w.frozen? a = false) :
    Calls Yba.prog 15 #[.pointer (some a)] w fun e w' => e = .returned (.bool true) ∧ w' = w.setCell a (.int .i32 1) := by
  have hd := disable
  have he := enable
  have ha := acquire
  have hcas := run_call_cas_hit (P := Yba.prog) Yba.func24 (by kernel_rfl) (by kernel_rfl) (by kernel_rfl) .i32 (by kernel_rfl) (y := 1) h0 f0
  have h0' : (w.setCell a (.int .i32 1)).cell? a = some (.int .i32 1) := World.cell?_setCell_same _ _ _ h0
  have hcv := run_convert_to_unsafe (P := Yba.prog) (src := 144) (dst := 148) Yba.underlying144 Yba.underlying148 (by kernel_rfl) h0'
  go_enter Yba.func15, Yba.ntmps15
  go_wp2
  go_ret
  exact ⟨rfl, rfl⟩

set_option maxRecDepth 100000 in
set_option maxHeartbeats 800000 in
theorem try_any (a : Addr) (w : World) (h0 : w.cell? a = some (.int .i32 0)) (f0 : w.frozen? a = false) :
    Calls Yba.prog 7 #[.pointer (some a)] w fun e w' => e = .returned (.bool true) ∧ w' = w.setCell a (.int .i32 1) := by
  go_enter Yba.func7, Yba.ntmps7
  go_wp2_with (go_at_call 15; refine (itry_any a _ h0 f0).mono ?_; rintro e w' ⟨rfl, rfl⟩)
  go_ret
  exact ⟨rfl, rfl⟩

set_option maxRecDepth 100000 in
set_option maxHeartbeats 800000 in
theorem unlock_any (a : Addr) (w : World) (hc : w.cell? a = some (.int .i32 1)) (hz : w.frozen? a = false) :
    Calls Yba.prog 8 #[.pointer (some a)] w fun e w' => e = .returned (.tuple #[]) ∧ w' = w.setCell a (.int .i32 0) := by
  have hd := disable
  have he := enable
  have hr := releaseMerge
  have hcv := run_convert_to_unsafe (P := Yba.prog) (src := 144) (dst := 148) Yba.underlying144 Yba.underlying148 (by kernel_rfl) hc
  have hadd := run_call_add (P := Yba.prog) Yba.func27 (by kernel_rfl) (by kernel_rfl) (by kernel_rfl) .i32 (by kernel_rfl) (y := -1) (s := 0) hc hz (by simp [go_sem]; rfl)
  go_enter Yba.func8, Yba.ntmps8
  go_wp2
  go_end0
  go_wp2
  go_end0
  exact ⟨rfl, rfl⟩

set_option maxRecDepth 100000 in
set_option maxHeartbeats 800000 in
theorem unlock_deferred (a : Addr) (u : FrameMode) (w : World) (hc : w.cell? a = some (.int .i32 1)) (hz : w.frozen? a = false) :
    CallsD Yba.prog 8 #[.pointer (some a)] u w fun e u' w' => u' = u ∧ (e = .returned (.tuple #[]) ∧ w' = w.setCell a (.int .i32 0)) := by
  have hd := disable
  have he := enable
  have hr := releaseMerge
  have hcv := run_convert_to_unsafe (P := Yba.prog) (src := 144) (dst := 148) Yba.underlying144 Yba.underlying148 (by kernel_rfl) hc
  have hadd := run_call_add (P := Yba.prog) Yba.func27 (by kernel_rfl) (by kernel_rfl) (by kernel_rfl) .i32 (by kernel_rfl) (y := -1) (s := 0) hc hz (by simp [go_sem]; rfl)
  go_enter_d Yba.func8, Yba.ntmps8
  go_wp2
  go_end0
  go_wp2
  go_end0
  exact ⟨rfl, rfl⟩

/-- The kind that the law draws from a byte. -/
def kindS (k : Int) : ByteArray := if k % 4 = 0 then ⟨#[98, 105, 110, 97, 114, 121]⟩ else if k % 4 = 1 then ⟨#[109, 117, 108, 116, 105]⟩ else if k % 4 = 2 then ⟨#[118, 101, 99, 116, 111, 114]⟩ else ⟨#[]⟩

set_option maxHeartbeats 400000 in
theorem kind_any (k : Int) (w : World) (h0 : 0 ≤ k) (h1 : k ≤ 255) : Calls Yba.prog 5 #[.int .u8 k] w fun e w' => e = .returned (.string (kindS k)) ∧ w' = w := by
  by_cases c0 : k % 4 = 0
  · have b0 : (k % 4 == 0) = true := by simp [c0]
    have e : Hid (kindS k = ⟨#[98, 105, 110, 97, 114, 121]⟩) := by simp [kindS, c0, Hid]
    clear c0
    go_enter Yba.func5, Yba.ntmps5
    go_wp2
    go_ret
    exact ⟨by rw [e.out]; rfl, rfl⟩
  have b0 : (k % 4 == 0) = false := by simp [c0]
  by_cases c1 : k % 4 = 1
  · have b1 : (k % 4 == 1) = true := by simp [c1]
    have e : Hid (kindS k = ⟨#[109, 117, 108, 116, 105]⟩) := by simp [kindS, c1, Hid]
    clear c0 c1
    go_enter Yba.func5, Yba.ntmps5
    go_wp2
    go_ret
    exact ⟨by rw [e.out]; rfl, rfl⟩
  have b1 : (k % 4 == 1) = false := by simp [c1]
  by_cases c2 : k % 4 = 2
  · have b2 : (k % 4 == 2) = true := by simp [c2]
    have e : Hid (kindS k = ⟨#[118, 101, 99, 116, 111, 114]⟩) := by simp [kindS, c2, Hid]
    clear c0 c1 c2
    go_enter Yba.func5, Yba.ntmps5
    go_wp2
    go_ret
    exact ⟨by rw [e.out]; rfl, rfl⟩
  have b2 : (k % 4 == 2) = false := by simp [c2]
  have e : Hid (kindS k = ⟨#[]⟩) := by simp [kindS, c0, c1, c2, Hid]
  clear c0 c1 c2
  go_enter Yba.func5, Yba.ntmps5
  go_wp2
  go_ret
  exact ⟨by rw [e.out]; rfl, rfl⟩

end Go.Proofs.Ybulkabaq
